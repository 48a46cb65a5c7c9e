import JvmDerived
import JvmDerived.Pilot.@@N@@Statement
import JvmDerived.Pilot.@@N@@Code
set_option linter.unusedVariables false
set_option linter.unusedSimpArgs false
namespace Jvm.RoadKit
open Sem ClassFile Op Lib Jvm.Stand Jvm.Free Jvm.LawKit
section New
variable {p : Program} {l : Launch} {e : Env} {R : Room} {s : State} {m : MethodId} {args : Array Value} {below : List Frame} {meth : Method} {c : Code} {T : State} {locs : List Loc} {cells slots : Nat}
theorem retI (X : Stand p l e R s m args below meth c T locs cells slots) (hx : p.tables.exec = Jvm.exec) {pc : Nat} {Ls : Array Slot} {z : Int32} {rest : List Value} (hret : meth.sig.returnType = some .int) (hd : decode c.code pc = .ok (.ireturn, 1)) {fs : List Frame}
    (hl : ∀ (f : JFrame) (acts : List Action), f.method = m → f.locked = none → f.entered = [] → (doReturn e (T.setTop f) acts (some (.int z))).1 = T.setFrames fs) : Steps p.tables e below (T.setTop (mkF m pc Ls (.int z :: rest))) (T.setFrames fs) := by
  have hm' : T.vm.method? m = some meth := X.method'
  have hn : narrow .int (.int z) = .int z := rfl
  show Steps p.tables e below (T.setTop { method := m, pc := pc, locals := Ls, stack := _ :: rest, locked := none }) _
  jvm_step X.here [X.here.top, hx, hd, hm', hret, hn]
  first | (intro acts; rw [hl _ acts rfl rfl rfl]) | rw [hl _ _ rfl rfl rfl]
  exact Steps.refl _
end New
end Jvm.RoadKit
/- laws to paste: Road.backV, Road.eqW (cut by pick.py; bodies as the Statement names them) -/
namespace Jvm.Pilot.@@N@@
namespace StrChars
open Jvm Sem ClassFile Op Lib Jvm.Stand Jvm.Free.XT Jvm.Free.ALB Jvm.Free.JM Jvm.Free
open Jvm.Lib.Cold (StaticIs)
/-- a char array whose places are chars -/
def Ch (a : Addr) (A : Cell) (U : State) : Prop := Arr .char a A U ∧ Typed .char A
theorem Ch.mv {a : Addr} {A : Cell} {U U' : State} (h : Ch a A U) (hal : U.vm.Alike U'.vm) (hh : U'.heap = U.heap) : Ch a A U' := ⟨h.1.mv hal hh, h.2⟩
theorem Ch.keep {a : Addr} {A : Cell} {U U' : State} (h : Ch a A U) (hal : U.vm.Alike U'.vm) (hk : U'.heap[a]? = some A) : Ch a A U' := ⟨h.1.keep hal hk, h.2⟩
/-- what place i of a char[]'s cell holds -/
def cv (A : Cell) (i : Nat) : Int32 := match A.slots[i]? with | some (.int x) => x | _ => 0
theorem Ch.get {a : Addr} {A : Cell} {U : State} (h : Ch a A U) {i : Nat} (hi : i < A.slots.size) : A.slots[i]? = some (.int (cv A i)) := by
  have e := Array.getElem?_eq_getElem hi
  have f := h.2 i _ e
  unfold cv; rw [e]
  generalize A.slots[i] = v at f
  cases v <;> simp [fits] at f ⊢
/-- the byte that i2b leaves of a char -/
def lo8 (x : Int32) : Int32 := x.toInt8.toInt32
theorem fits_lo8 (y : Int32) : fits .byte (.int (lo8 y)) = true := by
  have h1 := y.toInt8.le_toInt
  have h2 := y.toInt8.toInt_lt
  simp only [lo8, fits, Bool.and_eq_true, decide_eq_true_eq, Int32.le_iff_toInt_le, Int8.toInt_toInt32, show (-128 : Int32).toInt = -128 from by decide, show (127 : Int32).toInt = 127 from by decide]
  omega
/-- A' is A but that each place j of lo .. hi - 1 holds f j -/
def Laid (A A' : Cell) (lo hi : Nat) (f : Nat → Value) : Prop := A'.cls = A.cls ∧ A'.vm = A.vm ∧ A'.slots.size = A.slots.size ∧ ∀ i, A'.slots[i]? = if lo ≤ i ∧ i < hi then some (f i) else A.slots[i]?
theorem Laid.zero (A : Cell) (lo : Nat) (f : Nat → Value) : Laid A A lo (lo + 0) f := ⟨rfl, rfl, rfl, fun i => by rw [if_neg (by omega)]⟩
theorem Laid.step {A Ak : Cell} {lo k : Nat} {f : Nat → Value} {v : Value} (h : Laid A Ak lo k f) (hlo : lo ≤ k) (hk : k < Ak.slots.size) (hv : v = f k) : Laid A (Ak.setSlot k v) lo (k + 1) f := by
  refine ⟨h.1, h.2.1, by simpa [Cell.setSlot] using h.2.2.1, fun i => ?_⟩
  by_cases e : k = i
  · subst e; rw [Cell.slots_setSlot_self v hk, if_pos (by omega), hv]
  · rw [Cell.slots_setSlot_ne v e, h.2.2.2 i]
    by_cases q : lo ≤ i ∧ i < k
    · rw [if_pos q, if_pos (by omega)]
    · rw [if_neg q, if_neg (by omega)]
def U16 : String := "java/lang/StringUTF16"
namespace Cmp5
def yN : MethodName := ⟨"java/lang/StringUTF16", "compress", "([CI[BII)I"⟩
abbrev yB : ByteArray := jdk_52_method_21_code
theorem d0 : decode yB 0 = .ok (.iconst 0, 1) := by decide +kernel
theorem d1 : decode yB 1 = .ok (.istore 5, 2) := by decide +kernel
theorem d3 : decode yB 3 = .ok (.iload 5, 2) := by decide +kernel
theorem d5 : decode yB 5 = .ok (.iload 4, 2) := by decide +kernel
theorem d7 : decode yB 7 = .ok (.if_icmp (.ge) 37, 3) := by decide +kernel
theorem d10 : decode yB 10 = .ok (.aload_n 0, 1) := by decide +kernel
theorem d11 : decode yB 11 = .ok (.iload_n 1, 1) := by decide +kernel
theorem d12 : decode yB 12 = .ok (.caload, 1) := by decide +kernel
theorem d13 : decode yB 13 = .ok (.istore 6, 2) := by decide +kernel
theorem d15 : decode yB 15 = .ok (.iload 6, 2) := by decide +kernel
theorem d17 : decode yB 17 = .ok (.sipush 255, 3) := by decide +kernel
theorem d20 : decode yB 20 = .ok (.if_icmp (.le) 6, 3) := by decide +kernel
theorem d26 : decode yB 26 = .ok (.aload_n 2, 1) := by decide +kernel
theorem d27 : decode yB 27 = .ok (.iload_n 3, 1) := by decide +kernel
theorem d28 : decode yB 28 = .ok (.iload 6, 2) := by decide +kernel
theorem d30 : decode yB 30 = .ok (.i2b, 1) := by decide +kernel
theorem d31 : decode yB 31 = .ok (.bastore, 1) := by decide +kernel
theorem d32 : decode yB 32 = .ok (.iinc 1 1, 3) := by decide +kernel
theorem d35 : decode yB 35 = .ok (.iinc 3 1, 3) := by decide +kernel
theorem d38 : decode yB 38 = .ok (.iinc 5 1, 3) := by decide +kernel
theorem d41 : decode yB 41 = .ok (.goto (-38), 3) := by decide +kernel
theorem d44 : decode yB 44 = .ok (.iload 4, 2) := by decide +kernel
theorem d46 : decode yB 46 = .ok (.ireturn, 1) := by decide +kernel
def site : List Cond := []
def tab : Cond := tabOf yN yB 7 (some .int) site
def P (b : Addr) (A : Cell) (d : Addr) (B : Cell) (o q len : Nat) (args : Array Value) (s : State) : Prop := args = #[.ref b, .int (Int32.ofNat o), .ref d, .int (Int32.ofNat q), .int (Int32.ofNat len)] ∧ Ch b A s ∧ Arr .byte d B s ∧ b ≠ d ∧ o + len ≤ A.slots.size ∧ q + len ≤ B.slots.size ∧ ∀ i, i < len → ¬ 255 < cv A (o + i)
def E (b : Addr) (A : Cell) (d : Addr) (B : Cell) (o q len : Nat) (r : Option Value) (s u : State) : Prop := r = some (.int (Int32.ofNat len)) ∧ ∃ B', Put d B' s u ∧ Laid B B' q (q + len) (fun j => Value.int (lo8 (cv A (o + (j - q)))))
/-- no char of the range above 255: len; the places written hold each char's low byte -/
theorem law (l : Launch) (b : Addr) (A : Cell) (d : Addr) (B : Cell) (o q len : Nat) : Law l yN 5 5 0 0 yB 7 (some .int) site (P b A d B o q len) (E b A d B o q len) (copyLocs d q len) 0 0 := by
  refine Law.of_walk (plainFor_of_name (by decide +kernel)) (by decide +kernel) (by decide +kernel) (by decide) (fun _ _ h => by rw [h.1]; rfl) (fun _ U U' hal hh h => ⟨h.1, h.2.1.mv hal hh, h.2.2.1.mv hal hh, h.2.2.2⟩) (fun r U U' V V' h1 hal h2 h => ⟨h.1, h.2.elim fun B' q => ⟨B', q.1.mv h1 h2, q.2⟩⟩) ?_
  intro p e s m args below meth c s₁ X0 hexec hbytes hml hret hlk hnm hown hh0 W hP
  obtain ⟨rfl, hA, hB, hne, l1, l2, hp⟩ := hP
  have c1 : Steps p.tables e below (s₁.setTop (entryFrame m #[.ref b, .int (Int32.ofNat o), .ref d, .int (Int32.ofNat q), .int (Int32.ofNat len)] 7)) (s₁.setTop (mkF m 0 #[.val (.ref b), .val (.int (Int32.ofNat o)), .val (.ref d), .val (.int (Int32.ofNat q)), .val (.int (Int32.ofNat len)), .unset, .unset] [])) := entry rfl
  have hA0 := hA.1.mv X0.warmed.alike hh0
  have hB0 := hB.mv X0.warmed.alike hh0
  have a31 := hA.1.2.2.2
  have c2 : Steps p.tables e below (s₁.setTop (entryFrame m #[.ref b, .int (Int32.ofNat o), .ref d, .int (Int32.ofNat q), .int (Int32.ofNat len)] 7)) (s₁.setTop (mkF m 3 #[.val (.ref b), .val (.int (Int32.ofNat o)), .val (.ref d), .val (.int (Int32.ofNat q)), .val (.int (Int32.ofNat len)), .val (.int 0), .unset] [])) := c1.trans (by
    refine iconstV X0.here hexec rfl 0 (hb hbytes d0) (by decide) ?_
    refine XS.istore X0.here hexec rfl (hb hbytes d1) rfl rfl ?_
    exact Steps.refl _)
  have loop : ∀ (r i : Nat), i + r = len → ∀ (z : Slot), (z = .unset ∨ ∃ w, z = .val w ∧ w.category = 1) → ∀ (Tl : State) (Bk : Cell), Stand p l e { frames := 0, locals := 0, cells := 0, slots := 0 } s m #[.ref b, .int (Int32.ofNat o), .ref d, .int (Int32.ofNat q), .int (Int32.ofNat len)] below meth c Tl ([] ++ copyLocs d q i) 0 0 → Put d Bk s₁ Tl → Laid B Bk q (q + i) (fun j => Value.int (lo8 (cv A (o + (j - q))))) →
      Steps p.tables e below (s₁.setTop (entryFrame m #[.ref b, .int (Int32.ofNat o), .ref d, .int (Int32.ofNat q), .int (Int32.ofNat len)] 7)) (Tl.setTop (mkF m 3 #[.val (.ref b), .val (.int (Int32.ofNat (o + i))), .val (.ref d), .val (.int (Int32.ofNat (q + i))), .val (.int (Int32.ofNat len)), .val (.int (Int32.ofNat i)), z] [])) → ∃ (T' : State) (B' : Cell) (z' : Slot), Stand p l e { frames := 0, locals := 0, cells := 0, slots := 0 } s m #[.ref b, .int (Int32.ofNat o), .ref d, .int (Int32.ofNat q), .int (Int32.ofNat len)] below meth c T' ([] ++ copyLocs d q len) 0 0 ∧ Put d B' s₁ T' ∧ Laid B B' q (q + len) (fun j => Value.int (lo8 (cv A (o + (j - q))))) ∧
      Steps p.tables e below (s₁.setTop (entryFrame m #[.ref b, .int (Int32.ofNat o), .ref d, .int (Int32.ofNat q), .int (Int32.ofNat len)] 7)) (T'.setTop (mkF m 3 #[.val (.ref b), .val (.int (Int32.ofNat (o + len))), .val (.ref d), .val (.int (Int32.ofNat (q + len))), .val (.int (Int32.ofNat len)), .val (.int (Int32.ofNat len)), z'] [])) := by
    intro r
    induction r with
    | zero =>
      intro i hi z hz Tl Bk Xl pl fl cl
      have hil : i = len := by omega
      rw [hil] at Xl fl cl
      exact ⟨Tl, Bk, z, Xl, pl, fl, cl⟩
    | succ r ih =>
      intro i hi z hz Tl Bk Xl pl fl cl
      have all := X0.warmed.alike.symm.trans Xl.warmed.alike
      have hAl := hA0.keep all (pl.other hne hA0.1)
      have hBk := hB0.like all pl.1 fl.1 fl.2.1 fl.2.2.1
      have hlt : q + i < Bk.slots.size := by rw [fl.2.2.1]; omega
      have c3 : Steps p.tables e below (s₁.setTop (entryFrame m #[.ref b, .int (Int32.ofNat o), .ref d, .int (Int32.ofNat q), .int (Int32.ofNat len)] 7)) (Tl.setTop (mkF m 12 #[.val (.ref b), .val (.int (Int32.ofNat (o + i))), .val (.ref d), .val (.int (Int32.ofNat (q + i))), .val (.int (Int32.ofNat len)), .val (.int (Int32.ofNat i)), z] [.int (Int32.ofNat (o + i)), .ref b])) := cl.trans (by
        refine XS.iload Xl.here hexec rfl (hb hbytes d3) rfl ?_
        refine XS.iload Xl.here hexec rfl (hb hbytes d5) rfl ?_
        refine XS.icmpNo Xl.here hexec rfl (hb hbytes d7) rfl (ii_ge_f (lt32 (by omega) (by omega))) ?_
        refine XS.aloadN Xl.here hexec rfl (hb hbytes d10) rfl rfl ?_
        refine XS.iloadN Xl.here hexec rfl (hb hbytes d11) rfl ?_
        exact Steps.refl _)
      have c4 : Steps p.tables e below (s₁.setTop (entryFrame m #[.ref b, .int (Int32.ofNat o), .ref d, .int (Int32.ofNat q), .int (Int32.ofNat len)] 7)) (Tl.setTop (mkF m 13 #[.val (.ref b), .val (.int (Int32.ofNat (o + i))), .val (.ref d), .val (.int (Int32.ofNat (q + i))), .val (.int (Int32.ofNat len)), .val (.int (Int32.ofNat i)), z] [.int (cv A (o + i))])) := c3.trans (by
        refine Xl.aget hexec hAl rfl (hA.get (i := o + i) (by omega)) rfl rfl (hb hbytes d12) ?_
        exact Steps.refl _)
      have c5 : Steps p.tables e below (s₁.setTop (entryFrame m #[.ref b, .int (Int32.ofNat o), .ref d, .int (Int32.ofNat q), .int (Int32.ofNat len)] 7)) (Tl.setTop (mkF m 15 #[.val (.ref b), .val (.int (Int32.ofNat (o + i))), .val (.ref d), .val (.int (Int32.ofNat (q + i))), .val (.int (Int32.ofNat len)), .val (.int (Int32.ofNat i)), .val (.int (cv A (o + i)))] [])) := c4.trans (by
        refine XS.istoreS Xl.here hexec rfl (hb hbytes d13) rfl rfl hz ?_
        exact Steps.refl _)
      have c6 : Steps p.tables e below (s₁.setTop (entryFrame m #[.ref b, .int (Int32.ofNat o), .ref d, .int (Int32.ofNat q), .int (Int32.ofNat len)] 7)) (Tl.setTop (mkF m 31 #[.val (.ref b), .val (.int (Int32.ofNat (o + i))), .val (.ref d), .val (.int (Int32.ofNat (q + i))), .val (.int (Int32.ofNat len)), .val (.int (Int32.ofNat i)), .val (.int (cv A (o + i)))] [.int (lo8 (cv A (o + i))), .int (Int32.ofNat (q + i)), .ref d])) := c5.trans (by
        refine XS.iload Xl.here hexec rfl (hb hbytes d15) rfl ?_
        refine sipushV Xl.here hexec rfl 255 (hb hbytes d17) (by decide) ?_
        refine XS.icmpYes Xl.here hexec rfl (pc0 := 20) rfl (hb hbytes d20) rfl (ii_le_t (hp i (by omega))) (by decide) rfl ?_
        refine XS.aloadN Xl.here hexec rfl (hb hbytes d26) rfl rfl ?_
        refine XS.iloadN Xl.here hexec rfl (hb hbytes d27) rfl ?_
        refine XS.iload Xl.here hexec rfl (hb hbytes d28) rfl ?_
        refine i2b Xl.here hexec rfl (hb hbytes d30) rfl ?_
        exact Steps.refl _)
      obtain ⟨T7, X7, p7, st7⟩ := Xl.aput hexec hBk rfl hlt rfl (fits_lo8 (cv A (o + i))) (g := (mkF m 31 #[.val (.ref b), .val (.int (Int32.ofNat (o + i))), .val (.ref d), .val (.int (Int32.ofNat (q + i))), .val (.int (Int32.ofNat len)), .val (.int (Int32.ofNat i)), .val (.int (cv A (o + i)))] [.int (lo8 (cv A (o + i))), .int (Int32.ofNat (q + i)), .ref d])) rfl (rest := []) rfl (hb hbytes d31)
      have c8 : Steps p.tables e below (s₁.setTop (entryFrame m #[.ref b, .int (Int32.ofNat o), .ref d, .int (Int32.ofNat q), .int (Int32.ofNat len)] 7)) (T7.setTop (mkF m 32 #[.val (.ref b), .val (.int (Int32.ofNat (o + i))), .val (.ref d), .val (.int (Int32.ofNat (q + i))), .val (.int (Int32.ofNat len)), .val (.int (Int32.ofNat i)), .val (.int (cv A (o + i)))] [])) := c6.trans (st7 _ (Steps.refl _))
      have c9 : Steps p.tables e below (s₁.setTop (entryFrame m #[.ref b, .int (Int32.ofNat o), .ref d, .int (Int32.ofNat q), .int (Int32.ofNat len)] 7)) (T7.setTop (mkF m 3 #[.val (.ref b), .val (.int (Int32.ofNat (o + i) + 1)), .val (.ref d), .val (.int (Int32.ofNat (q + i) + 1)), .val (.int (Int32.ofNat len)), .val (.int (Int32.ofNat i + 1)), .val (.int (cv A (o + i)))] [])) := c8.trans (by
        refine iincV X7.here hexec rfl 1 (hb hbytes d32) (by decide) rfl rfl ?_
        refine iincV X7.here hexec rfl 1 (hb hbytes d35) (by decide) rfl rfl ?_
        refine iincV X7.here hexec rfl 1 (hb hbytes d38) (by decide) rfl rfl ?_
        refine XS.goto X7.here hexec rfl (pc0 := 41) rfl (hb hbytes d41) (by decide) rfl ?_
        exact Steps.refl _)
      have c10 : Steps p.tables e below (s₁.setTop (entryFrame m #[.ref b, .int (Int32.ofNat o), .ref d, .int (Int32.ofNat q), .int (Int32.ofNat len)] 7)) (T7.setTop (mkF m 3 #[.val (.ref b), .val (.int (Int32.ofNat (o + (i + 1)))), .val (.ref d), .val (.int (Int32.ofNat (q + (i + 1)))), .val (.int (Int32.ofNat len)), .val (.int (Int32.ofNat (i + 1))), .val (.int (cv A (o + i)))] [])) := by
        have := c9
        rw [succ32, succ32, succ32] at this
        exact this
      exact ih (i + 1) (by omega) _ (Or.inr ⟨_, rfl, rfl⟩) T7 _ (by rw [copyLocs_step, ← List.append_assoc]; exact X7) (pl.trans p7) (fl.step (by omega) hlt (by simp)) c10
  obtain ⟨T9, B9, z9, X9, p9, f9, g9⟩ := loop len 0 (by omega) .unset (Or.inl rfl) s₁ B (by simpa [copyLocs] using X0) ⟨hB0.1, fun _ _ => rfl, rfl⟩ (Laid.zero _ _ _) c2
  have c11 : Steps p.tables e below (s₁.setTop (entryFrame m #[.ref b, .int (Int32.ofNat o), .ref d, .int (Int32.ofNat q), .int (Int32.ofNat len)] 7)) (T9.setTop (mkF m 46 #[.val (.ref b), .val (.int (Int32.ofNat (o + len))), .val (.ref d), .val (.int (Int32.ofNat (q + len))), .val (.int (Int32.ofNat len)), .val (.int (Int32.ofNat len)), z9] [.int (Int32.ofNat len)])) := g9.trans (by
    refine XS.iload X9.here hexec rfl (hb hbytes d3) rfl ?_
    refine XS.iload X9.here hexec rfl (hb hbytes d5) rfl ?_
    refine XS.icmpYes X9.here hexec rfl (pc0 := 7) rfl (hb hbytes d7) rfl (ii_ge_t (nlt32 (by omega) (Nat.le_refl _))) (by decide) rfl ?_
    refine XS.iload X9.here hexec rfl (hb hbytes d44) rfl ?_
    exact Steps.refl _)
  exact ⟨T9, some (.int (Int32.ofNat len)), _, _, _, X9, by simp, rfl, rfl, (fun h => by cases h), ⟨rfl, B9, p9.from hh0, f9⟩, fun fs hl => c11.trans (X9.ireturnOut hexec hret rfl (Or.inl rfl) (hb hbytes d46) hl)⟩
end Cmp5
namespace Cmp3
def yN : MethodName := ⟨"java/lang/StringUTF16", "compress", "([CII)[B"⟩
abbrev yB : ByteArray := jdk_52_method_16_code
theorem d0 : decode yB 0 = .ok (.iload_n 2, 1) := by decide +kernel
theorem d1 : decode yB 1 = .ok (.newarray .byte, 2) := by decide +kernel
theorem d3 : decode yB 3 = .ok (.astore_n 3, 1) := by decide +kernel
theorem d4 : decode yB 4 = .ok (.aload_n 0, 1) := by decide +kernel
theorem d5 : decode yB 5 = .ok (.iload_n 1, 1) := by decide +kernel
theorem d6 : decode yB 6 = .ok (.aload_n 3, 1) := by decide +kernel
theorem d7 : decode yB 7 = .ok (.iconst 0, 1) := by decide +kernel
theorem d8 : decode yB 8 = .ok (.iload_n 2, 1) := by decide +kernel
theorem d9 : decode yB 9 = .ok (.invokestatic 115, 3) := by decide +kernel
theorem d12 : decode yB 12 = .ok (.istore 4, 2) := by decide +kernel
theorem d14 : decode yB 14 = .ok (.iload 4, 2) := by decide +kernel
theorem d16 : decode yB 16 = .ok (.iload_n 2, 1) := by decide +kernel
theorem d17 : decode yB 17 = .ok (.if_icmp (.eq) 40, 3) := by decide +kernel
theorem d57 : decode yB 57 = .ok (.aload_n 3, 1) := by decide +kernel
theorem d58 : decode yB 58 = .ok (.areturn, 1) := by decide +kernel
def site : List Cond := [.arrayClass .byte, Cmp5.tab] ++ staticW U16 115 Cmp5.yN
def tab : Cond := tabOf yN yB 6 (some (.array .byte)) site
def P (b : Addr) (A : Cell) (o len : Nat) (args : Array Value) (s : State) : Prop := args = #[.ref b, .int (Int32.ofNat o), .int (Int32.ofNat len)] ∧ Ch b A s ∧ o + len ≤ A.slots.size ∧ len ≤ 536870912 ∧ ∀ i, i < len → ¬ 255 < cv A (o + i)
def E (b : Addr) (A : Cell) (o len : Nat) (r : Option Value) (s u : State) : Prop := NewArr .byte "[B" len (fun j => .int (lo8 (cv A (o + j)))) r s u ∧ u.heap.size = s.heap.size + 1
/-- no char of the range above 255: a new byte[] of their low bytes -/
theorem law (l : Launch) (b : Addr) (A : Cell) (o len : Nat) : Law l yN 3 3 1 18 yB 6 (some (.array .byte)) site (P b A o len) (E b A o len) [] 1 len := by
  refine Law.of_walk (plainFor_of_name (by decide +kernel)) (by decide +kernel) (by decide +kernel) (by decide) (fun _ _ h => by rw [h.1]; rfl) (fun _ U U' hal hh h => ⟨h.1, h.2.1.mv hal hh, h.2.2⟩) (fun r U U' V V' h1 hal h2 h => ⟨NewArr.mv r U U' V V' h1 hal h2 h.1, by rw [h1, h2]; exact h.2⟩) ?_
  intro p e s m args below meth c s₁ X0 hexec hbytes hml hret hlk hnm hown hh0 W hP
  obtain ⟨rfl, hA, l1, l2, hp⟩ := hP
  have a31 := hA.1.2.2.2
  have c1 : Steps p.tables e below (s₁.setTop (entryFrame m #[.ref b, .int (Int32.ofNat o), .int (Int32.ofNat len)] 6)) (s₁.setTop (mkF m 0 #[.val (.ref b), .val (.int (Int32.ofNat o)), .val (.int (Int32.ofNat len)), .unset, .unset, .unset] [])) := entry rfl
  have c2 : Steps p.tables e below (s₁.setTop (entryFrame m #[.ref b, .int (Int32.ofNat o), .int (Int32.ofNat len)] 6)) (s₁.setTop (mkF m 1 #[.val (.ref b), .val (.int (Int32.ofNat o)), .val (.int (Int32.ofNat len)), .unset, .unset, .unset] [.int (Int32.ofNat len)])) := c1.trans (by
    refine XS.iloadN X0.here hexec rfl (hb hbytes d0) rfl ?_
    exact Steps.refl _)
  obtain ⟨T3, B3, X3, ba3, bs3, bv3, bh3, bf3, st3⟩ := X0.anew hexec (atype := .byte) (wk W (.arrayClass .byte)) rfl (by show len * 1 ≤ _; omega) (by omega) (g := (mkF m 1 #[.val (.ref b), .val (.int (Int32.ofNat o)), .val (.int (Int32.ofNat len)), .unset, .unset, .unset] [.int (Int32.ofNat len)])) rfl (hb hbytes d1) (rest := []) rfl (Nat.le_refl _) (by show 0 + len ≤ len; omega)
  rw [hh0] at ba3 st3
  have kp3 : XT.Kept s T3 := (XT.Kept.of_eq hh0).push bh3
  have hA3 := hA.keep X3.warmed.alike (kp3 _ _ hA.1.1)
  have hne : b ≠ s.heap.size := hA.1.ne
  have c4 : Steps p.tables e below (s₁.setTop (entryFrame m #[.ref b, .int (Int32.ofNat o), .int (Int32.ofNat len)] 6)) (T3.setTop (mkF m 3 #[.val (.ref b), .val (.int (Int32.ofNat o)), .val (.int (Int32.ofNat len)), .unset, .unset, .unset] [.ref s.heap.size])) := c2.trans (st3 _ (Steps.refl _))
  have c5 : Steps p.tables e below (s₁.setTop (entryFrame m #[.ref b, .int (Int32.ofNat o), .int (Int32.ofNat len)] 6)) (T3.setTop (mkF m 9 #[.val (.ref b), .val (.int (Int32.ofNat o)), .val (.int (Int32.ofNat len)), .val (.ref s.heap.size), .unset, .unset] [.int (Int32.ofNat len), .int 0, .ref s.heap.size, .int (Int32.ofNat o), .ref b])) := c4.trans (by
    refine XS.astoreN X3.here hexec rfl (hb hbytes d3) rfl rfl rfl ?_
    refine XS.aloadN X3.here hexec rfl (hb hbytes d4) rfl rfl ?_
    refine XS.iloadN X3.here hexec rfl (hb hbytes d5) rfl ?_
    refine XS.aloadN X3.here hexec rfl (hb hbytes d6) rfl rfl ?_
    refine iconstV X3.here hexec rfl 0 (hb hbytes d7) (by decide) ?_
    refine XS.iloadN X3.here hexec rfl (hb hbytes d8) rfl ?_
    exact Steps.refl _)
  obtain ⟨v6, T6, X6, E6, g6⟩ := X3.callS hexec (Cmp5.law l b A s.heap.size B3 o 0 len) hown (wks W (staticW U16 115 Cmp5.yN)) (wk W Cmp5.tab) (W := 0) (Nat.le_of_ble_eq_true rfl) (Nat.le_of_ble_eq_true rfl) (Nat.le_refl _) (by show 0 + len + 0 ≤ len; omega) (g := (mkF m 9 #[.val (.ref b), .val (.int (Int32.ofNat o)), .val (.int (Int32.ofNat len)), .val (.ref s.heap.size), .unset, .unset] [.int (Int32.ofNat len), .int (Int32.ofNat 0), .ref s.heap.size, .int (Int32.ofNat o), .ref b])) rfl (by rw [hml]; rfl) c5 (argsL := [.ref b, .int (Int32.ofNat o), .ref s.heap.size, .int (Int32.ofNat 0), .int (Int32.ofNat len)]) (rest := []) rfl rfl (by show 2 * 0 + 0 ≤ _; decide) (hb hbytes d9) (⟨rfl, hA3, ba3, hne, l1, by rw [bs3]; simp, hp⟩)
  obtain ⟨rfl, B6, p6, f6⟩ := E6
  have c7 : Steps p.tables e below (s₁.setTop (entryFrame m #[.ref b, .int (Int32.ofNat o), .int (Int32.ofNat len)] 6)) (T6.setTop (mkF m 12 #[.val (.ref b), .val (.int (Int32.ofNat o)), .val (.int (Int32.ofNat len)), .val (.ref s.heap.size), .unset, .unset] [.int (Int32.ofNat len)])) := g6
  have c8 : Steps p.tables e below (s₁.setTop (entryFrame m #[.ref b, .int (Int32.ofNat o), .int (Int32.ofNat len)] 6)) (T6.setTop (mkF m 58 #[.val (.ref b), .val (.int (Int32.ofNat o)), .val (.int (Int32.ofNat len)), .val (.ref s.heap.size), .val (.int (Int32.ofNat len)), .unset] [.ref s.heap.size])) := c7.trans (by
    refine XS.istore X6.here hexec rfl (hb hbytes d12) rfl rfl ?_
    refine XS.iload X6.here hexec rfl (hb hbytes d14) rfl ?_
    refine XS.iloadN X6.here hexec rfl (hb hbytes d16) rfl ?_
    refine XS.icmpYes X6.here hexec rfl (pc0 := 17) rfl (hb hbytes d17) rfl (ii_eq_t rfl) (by decide) rfl ?_
    refine XS.aloadN X6.here hexec rfl (hb hbytes d57) rfl rfl ?_
    exact Steps.refl _)
  have X8 := X6.wide (L' := []) (cells' := 1) (slots' := len) (fun x hx hlt => by
    simp only [List.nil_append, copyLocs, List.mem_map, List.mem_range] at hx
    obtain ⟨i, -, rfl⟩ := hx
    exact absurd hlt (Nat.lt_irrefl _)) (Nat.le_refl _) (by omega)
  exact ⟨T6, some (.ref s.heap.size), _, _, _, X8, rfl, rfl, rfl, (fun h => by cases h), ⟨⟨rfl, B6, ba3.like (X3.warmed.alike.symm.trans X6.warmed.alike) p6.1 f6.1 f6.2.1 f6.2.2.1, f6.2.1.trans bv3, by rw [X6.warmed.alike.findClass, f6.1]; exact bf3, by rw [f6.2.2.1, bs3]; simp, fun j hj => by rw [f6.2.2.2 j, if_pos (by omega)]; rfl, kp3.put p6 (Nat.le_refl _)⟩, by rw [p6.2.2, bh3, hh0]; simp⟩, fun fs hl => c8.trans (X8.areturnOut hexec rfl hret rfl (hb hbytes d58) hl)⟩
end Cmp3
namespace CodL
def yN : MethodName := ⟨"java/lang/StringUTF16", "coderFromArrayLen", "([BI)B"⟩
abbrev yB : ByteArray := jdk_52_method_15_code
theorem d0 : decode yB 0 = .ok (.iload_n 1, 1) := by decide +kernel
theorem d1 : decode yB 1 = .ok (.aload_n 0, 1) := by decide +kernel
theorem d2 : decode yB 2 = .ok (.arraylength, 1) := by decide +kernel
theorem d3 : decode yB 3 = .ok (.isub, 1) := by decide +kernel
theorem d4 : decode yB 4 = .ok (.bipush 31, 2) := by decide +kernel
theorem d6 : decode yB 6 = .ok (.iushr, 1) := by decide +kernel
theorem d7 : decode yB 7 = .ok (.i2b, 1) := by decide +kernel
theorem d8 : decode yB 8 = .ok (.ireturn, 1) := by decide +kernel
def site : List Cond := []
def tab : Cond := tabOf yN yB 2 (some .byte) site
def P (d : Addr) (B : Cell) (args : Array Value) (s : State) : Prop := args = #[.ref d, .int (Int32.ofNat B.slots.size)] ∧ Arr .byte d B s
def E (r : Option Value) (s u : State) : Prop := XT.PureE (some (.int 0)) r s u
/-- an array as long as the number of chars: LATIN1 -/
theorem law (l : Launch) (d : Addr) (B : Cell) : Law l yN 2 2 0 0 yB 2 (some .byte) site (P d B) E [] 0 0 := by
  refine Law.of_walk (plainFor_of_name (by decide +kernel)) (by decide +kernel) (by decide +kernel) (by decide) (fun _ _ h => by rw [h.1]; rfl) (fun _ U U' hal hh h => ⟨h.1, h.2.mv hal hh⟩) (fun r U U' V V' h1 hal h2 h => XT.PureE.mv r U U' V V' h1 hal h2 h) ?_
  intro p e s m args below meth c s₁ X0 hexec hbytes hml hret hlk hnm hown hh0 W hP
  obtain ⟨rfl, hB⟩ := hP
  have hB0 := hB.mv X0.warmed.alike hh0
  have c1 : Steps p.tables e below (s₁.setTop (entryFrame m #[.ref d, .int (Int32.ofNat B.slots.size)] 2)) (s₁.setTop (mkF m 0 #[.val (.ref d), .val (.int (Int32.ofNat B.slots.size))] [])) := entry rfl
  have c2 : Steps p.tables e below (s₁.setTop (entryFrame m #[.ref d, .int (Int32.ofNat B.slots.size)] 2)) (s₁.setTop (mkF m 2 #[.val (.ref d), .val (.int (Int32.ofNat B.slots.size))] [.ref d, .int (Int32.ofNat B.slots.size)])) := c1.trans (by
    refine XS.iloadN X0.here hexec rfl (hb hbytes d0) rfl ?_
    refine XS.aloadN X0.here hexec rfl (hb hbytes d1) rfl rfl ?_
    exact Steps.refl _)
  have c3 : Steps p.tables e below (s₁.setTop (entryFrame m #[.ref d, .int (Int32.ofNat B.slots.size)] 2)) (s₁.setTop (mkF m 8 #[.val (.ref d), .val (.int (Int32.ofNat B.slots.size))] [.int (lo8 (ushr (Int32.ofNat B.slots.size - Int32.ofNat B.slots.size) 31))])) := c2.trans (by
    refine X0.alen hexec hB0 rfl rfl (hb hbytes d2) ?_
    refine XS.isub X0.here hexec rfl (hb hbytes d3) rfl ?_
    refine bipushV X0.here hexec rfl 31 (hb hbytes d4) (by decide) ?_
    refine iushr X0.here hexec rfl (hb hbytes d6) rfl ?_
    refine i2b X0.here hexec rfl (hb hbytes d7) rfl ?_
    exact Steps.refl _)
  have e0 : lo8 (ushr (Int32.ofNat B.slots.size - Int32.ofNat B.slots.size) 31) = 0 := by rw [Int32.sub_self]; decide
  rw [e0] at c3
  exact ⟨s₁, some (.int 0), _, _, _, X0, rfl, rfl, rfl, (fun h => by cases h), ⟨rfl, hh0⟩, fun fs hl => c3.trans (X0.ireturnOut hexec hret rfl (Or.inr (Or.inr (Or.inl rfl))) (hb hbytes d8) hl)⟩
end CodL
/-- the String at a is Latin-1 over a new byte[] (the heap's one new cell): the low bytes of the len chars of A from o on; every cell but a is kept -/
def Got (a : Addr) (D : Cell) (fV fC : Field) (A : Cell) (o len : Nat) (r : Option Value) (s u : State) : Prop := r = none ∧ ∃ D' V : Cell, Blank "java/lang/String" a D' u ∧ Same D D' [fV.slot, fC.slot] ∧ D'.slots[fV.slot]? = some (.ref s.heap.size) ∧ D'.slots[fC.slot]? = some (.int 0) ∧ Arr .byte s.heap.size V u ∧ V.vm = .none ∧ u.vm.findClass "[B" = some V.cls ∧ V.slots.size = len ∧ (∀ j, j < len → V.slots[j]? = some (.int (lo8 (cv A (o + j))))) ∧ (∀ (y : Addr) (c : Cell), y ≠ a → s.heap[y]? = some c → u.heap[y]? = some c) ∧ u.heap.size = s.heap.size + 1
theorem Got.mv {a : Addr} {D A : Cell} {fV fC : Field} {o len : Nat} : ∀ r (U U' V V' : State), U'.heap = U.heap → V.vm.Alike V'.vm → V'.heap = V.heap → Got a D fV fC A o len r U V → Got a D fV fC A o len r U' V' :=
  fun r U U' V V' h1 hal h2 ⟨e0, D', X, a1, a2, a3, a4, a5, a6, a7, a8, a9, a10, a11⟩ => ⟨e0, D', X, a1.mv hal h2, a2, by rw [h1]; exact a3, a4, by rw [h1]; exact a5.mv hal h2, a6, by rw [hal.findClass]; exact a7, a8, a9, by rw [h1, h2]; exact a10, by rw [h1, h2]; exact a11⟩
namespace New4
def yN : MethodName := ⟨"java/lang/String", "<init>", "([CIILjava/lang/Void;)V"⟩
abbrev yB : ByteArray := jdk_42_method_149_code
theorem d0 : decode yB 0 = .ok (.aload_n 0, 1) := by decide +kernel
theorem d1 : decode yB 1 = .ok (.invokespecial 1, 3) := by decide +kernel
theorem d4 : decode yB 4 = .ok (.iload_n 3, 1) := by decide +kernel
theorem d5 : decode yB 5 = .ok (.ifCond (.ne) 22, 3) := by decide +kernel
theorem d27 : decode yB 27 = .ok (.getstatic 38, 3) := by decide +kernel
theorem d30 : decode yB 30 = .ok (.ifCond (.eq) 28, 3) := by decide +kernel
theorem d33 : decode yB 33 = .ok (.aload_n 1, 1) := by decide +kernel
theorem d34 : decode yB 34 = .ok (.iload_n 2, 1) := by decide +kernel
theorem d35 : decode yB 35 = .ok (.iload_n 3, 1) := by decide +kernel
theorem d36 : decode yB 36 = .ok (.invokestatic 177, 3) := by decide +kernel
theorem d39 : decode yB 39 = .ok (.astore 5, 2) := by decide +kernel
theorem d41 : decode yB 41 = .ok (.aload_n 0, 1) := by decide +kernel
theorem d42 : decode yB 42 = .ok (.aload 5, 2) := by decide +kernel
theorem d44 : decode yB 44 = .ok (.iload_n 3, 1) := by decide +kernel
theorem d45 : decode yB 45 = .ok (.invokestatic 47, 3) := by decide +kernel
theorem d48 : decode yB 48 = .ok (.putfield 15, 3) := by decide +kernel
theorem d51 : decode yB 51 = .ok (.aload_n 0, 1) := by decide +kernel
theorem d52 : decode yB 52 = .ok (.aload 5, 2) := by decide +kernel
theorem d54 : decode yB 54 = .ok (.putfield 9, 3) := by decide +kernel
theorem d57 : decode yB 57 = .ok (.return_, 1) := by decide +kernel
def site : List Cond := [.fieldLink "java/lang/String" 38 "java/lang/String" "COMPACT_STRINGS" "Z", Cmp3.tab, CodL.tab, .laysFinal "java/lang/String" "java/lang/String" "value" "[B", .fieldLink "java/lang/String" 9 "java/lang/String" "value" "[B", .laysFinal "java/lang/String" "java/lang/String" "coder" "B", .fieldLink "java/lang/String" 15 "java/lang/String" "coder" "B"] ++ objW "java/lang/String" 1 ++ staticW "java/lang/String" 177 Cmp3.yN ++ staticW "java/lang/String" 47 CodL.yN
def tab : Cond := tabOf yN yB 6 none site
def P (a : Addr) (D : Cell) (fV fC : Field) (b : Addr) (A : Cell) (z : Int32) (o len : Nat) (args : Array Value) (s : State) : Prop := args = #[.ref a, .ref b, .int (Int32.ofNat o), .int (Int32.ofNat len), .null] ∧ Blank "java/lang/String" a D s ∧ Found "java/lang/String" "value" "[B" fV s ∧ Found "java/lang/String" "coder" "B" fC s ∧ Ch b A s ∧ StaticIs s "java/lang/String" "COMPACT_STRINGS" "Z" (.int z) ∧ ¬ z = 0 ∧ 0 < len ∧ o + len ≤ A.slots.size ∧ len ≤ 536870912 ∧ ∀ i, i < len → ¬ 255 < cv A (o + i)
def E (a : Addr) (D : Cell) (fV fC : Field) (A : Cell) (o len : Nat) (r : Option Value) (s u : State) : Prop := Got a D fV fC A o len r s u
/-- len > 0, no char of the range above 255: a Latin-1 String of their low bytes -/
theorem law (l : Launch) (a : Addr) (D : Cell) (fV fC : Field) (b : Addr) (A : Cell) (z : Int32) (o len : Nat) : Law l yN 5 4 2 35 yB 6 none site (P a D fV fC b A z o len) (E a D fV fC A o len) [⟨a, fC.slot⟩, ⟨a, fV.slot⟩] 1 len := by
  refine Law.of_walk (plainFor_of_name (by decide +kernel)) (by decide +kernel) (by decide +kernel) (by decide) (fun _ _ h => by rw [h.1]; rfl) (fun _ U U' hal hh h => ⟨h.1, h.2.1.mv hal hh, h.2.2.1.al hal, h.2.2.2.1.al hal, h.2.2.2.2.1.mv hal hh, h.2.2.2.2.2.1.there hal hh, h.2.2.2.2.2.2⟩) (fun r U U' V V' h1 hal h2 h => Got.mv r U U' V V' h1 hal h2 h) ?_
  intro p e s m args below meth c s₁ X0 hexec hbytes hml hret hlk hnm hown hh0 W hP
  obtain ⟨rfl, hB, f1, f2, hA, s1, hz, l0, l1, l2, hp⟩ := hP
  have a31 := hA.1.2.2.2
  have c1 : Steps p.tables e below (s₁.setTop (entryFrame m #[.ref a, .ref b, .int (Int32.ofNat o), .int (Int32.ofNat len), .null] 6)) (s₁.setTop (mkF m 0 #[.val (.ref a), .val (.ref b), .val (.int (Int32.ofNat o)), .val (.int (Int32.ofNat len)), .val .null, .unset] [])) := entry rfl
  have c2 : Steps p.tables e below (s₁.setTop (entryFrame m #[.ref a, .ref b, .int (Int32.ofNat o), .int (Int32.ofNat len), .null] 6)) (s₁.setTop (mkF m 1 #[.val (.ref a), .val (.ref b), .val (.int (Int32.ofNat o)), .val (.int (Int32.ofNat len)), .val .null, .unset] [.ref a])) := c1.trans (by
    refine XS.aloadN X0.here hexec rfl (hb hbytes d0) rfl rfl ?_
    exact Steps.refl _)
  obtain ⟨T3, X3, q3, st3⟩ := X0.oinit hexec hown (wks W (objW "java/lang/String" 1)) (g := (mkF m 1 #[.val (.ref a), .val (.ref b), .val (.int (Int32.ofNat o)), .val (.int (Int32.ofNat len)), .val .null, .unset] [.ref a])) rfl (by rw [hml]; rfl) (rest := []) rfl (hb hbytes d1) (W := 0) (by show 2 * 0 + 0 ≤ _; decide) (Nat.le_of_ble_eq_true rfl) (Nat.le_of_ble_eq_true rfl)
  have hh3 := q3.trans hh0
  have c4 : Steps p.tables e below (s₁.setTop (entryFrame m #[.ref a, .ref b, .int (Int32.ofNat o), .int (Int32.ofNat len), .null] 6)) (T3.setTop (mkF m 27 #[.val (.ref a), .val (.ref b), .val (.int (Int32.ofNat o)), .val (.int (Int32.ofNat len)), .val .null, .unset] [])) := (c2.trans (st3 _ (Steps.refl _))).trans (by
    refine XS.iloadN X3.here hexec rfl (hb hbytes d4) rfl ?_
    refine XS.ifYes X3.here hexec rfl (pc0 := 5) rfl (hb hbytes d5) rfl (i0_ne_t (nz32 (by omega) l0)) (by decide) rfl ?_
    exact Steps.refl _)
  obtain ⟨T5, X5, q5, st5⟩ := X3.sget hexec hown (wk W (.fieldLink "java/lang/String" 38 "java/lang/String" "COMPACT_STRINGS" "Z")) s1 (fun _ _ h => by rw [hh3]; exact h) (g := (mkF m 27 #[.val (.ref a), .val (.ref b), .val (.int (Int32.ofNat o)), .val (.int (Int32.ofNat len)), .val .null, .unset] [])) rfl (hb hbytes d27)
  have hh5 := q5.trans hh3
  have c6 : Steps p.tables e below (s₁.setTop (entryFrame m #[.ref a, .ref b, .int (Int32.ofNat o), .int (Int32.ofNat len), .null] 6)) (T5.setTop (mkF m 30 #[.val (.ref a), .val (.ref b), .val (.int (Int32.ofNat o)), .val (.int (Int32.ofNat len)), .val .null, .unset] [.int z])) := c4.trans (st5 _ (Steps.refl _))
  have c7 : Steps p.tables e below (s₁.setTop (entryFrame m #[.ref a, .ref b, .int (Int32.ofNat o), .int (Int32.ofNat len), .null] 6)) (T5.setTop (mkF m 36 #[.val (.ref a), .val (.ref b), .val (.int (Int32.ofNat o)), .val (.int (Int32.ofNat len)), .val .null, .unset] [.int (Int32.ofNat len), .int (Int32.ofNat o), .ref b])) := c6.trans (by
    refine XS.ifNo X5.here hexec rfl (hb hbytes d30) rfl (i0_eq_f hz) ?_
    refine XS.aloadN X5.here hexec rfl (hb hbytes d33) rfl rfl ?_
    refine XS.iloadN X5.here hexec rfl (hb hbytes d34) rfl ?_
    refine XS.iloadN X5.here hexec rfl (hb hbytes d35) rfl ?_
    exact Steps.refl _)
  obtain ⟨v8, T8, X8, E8, g8⟩ := X5.callS hexec (Cmp3.law l b A o len) hown (wks W (staticW "java/lang/String" 177 Cmp3.yN)) (wk W Cmp3.tab) (W := 0) (Nat.le_of_ble_eq_true rfl) (Nat.le_of_ble_eq_true rfl) (Nat.le_refl _) (by show 0 + len ≤ len; omega) (g := (mkF m 36 #[.val (.ref a), .val (.ref b), .val (.int (Int32.ofNat o)), .val (.int (Int32.ofNat len)), .val .null, .unset] [.int (Int32.ofNat len), .int (Int32.ofNat o), .ref b])) rfl (by rw [hml]; rfl) c7 (argsL := [.ref b, .int (Int32.ofNat o), .int (Int32.ofNat len)]) (rest := []) rfl rfl (by show 2 * 0 + 0 ≤ _; decide) (hb hbytes d36) (⟨rfl, hA.mv X5.warmed.alike hh5, l1, l2, hp⟩)
  obtain ⟨e8, z8⟩ := E8
  obtain ⟨rfl, N, n1, n2, n3, n4, n5, n6⟩ := NewArr.mv _ T5 s _ _ hh5.symm (Vm.Alike.refl _) rfl e8
  rw [hh5] at z8
  have hB1 := hB.keep X8.warmed.alike (n6 _ _ hB.1)
  have hne : s.heap.size ≠ a := (Nat.ne_of_lt (Array.getElem?_eq_some_iff.mp hB.1).1).symm
  have c9 : Steps p.tables e below (s₁.setTop (entryFrame m #[.ref a, .ref b, .int (Int32.ofNat o), .int (Int32.ofNat len), .null] 6)) (T8.setTop (mkF m 39 #[.val (.ref a), .val (.ref b), .val (.int (Int32.ofNat o)), .val (.int (Int32.ofNat len)), .val .null, .unset] [.ref s.heap.size])) := g8
  have c10 : Steps p.tables e below (s₁.setTop (entryFrame m #[.ref a, .ref b, .int (Int32.ofNat o), .int (Int32.ofNat len), .null] 6)) (T8.setTop (mkF m 45 #[.val (.ref a), .val (.ref b), .val (.int (Int32.ofNat o)), .val (.int (Int32.ofNat len)), .val .null, .val (.ref s.heap.size)] [.int (Int32.ofNat N.slots.size), .ref s.heap.size, .ref a])) := by
    have hc : Steps p.tables e below (s₁.setTop (entryFrame m #[.ref a, .ref b, .int (Int32.ofNat o), .int (Int32.ofNat len), .null] 6)) (T8.setTop (mkF m 45 #[.val (.ref a), .val (.ref b), .val (.int (Int32.ofNat o)), .val (.int (Int32.ofNat len)), .val .null, .val (.ref s.heap.size)] [.int (Int32.ofNat len), .ref s.heap.size, .ref a])) := c9.trans (by
      refine XS.astore X8.here hexec rfl (hb hbytes d39) rfl rfl rfl ?_
      refine XS.aloadN X8.here hexec rfl (hb hbytes d41) rfl rfl ?_
      refine XS.aload X8.here hexec rfl (hb hbytes d42) rfl rfl ?_
      refine XS.iloadN X8.here hexec rfl (hb hbytes d44) rfl ?_
      exact Steps.refl _)
    rw [n4]; exact hc
  obtain ⟨v11, T11, X11, E11, g11⟩ := X8.callS hexec (CodL.law l s.heap.size N) hown (wks W (staticW "java/lang/String" 47 CodL.yN)) (wk W CodL.tab) (W := 1) (Nat.le_of_ble_eq_true rfl) (Nat.le_of_ble_eq_true rfl) (Nat.le_refl _) (by show 0 + len + 0 ≤ len; omega) (g := (mkF m 45 #[.val (.ref a), .val (.ref b), .val (.int (Int32.ofNat o)), .val (.int (Int32.ofNat len)), .val .null, .val (.ref s.heap.size)] [.int (Int32.ofNat N.slots.size), .ref s.heap.size, .ref a])) rfl (by rw [hml]; rfl) c10 (argsL := [.ref s.heap.size, .int (Int32.ofNat N.slots.size)]) (rest := [.ref a]) rfl rfl (by show 2 * 0 + (1 + 0) ≤ _; decide) (hb hbytes d45) (⟨rfl, n1⟩)
  obtain ⟨rfl, q11⟩ := E11
  have hB11 := hB1.mv (X8.warmed.alike.symm.trans X11.warmed.alike) q11
  have c12 : Steps p.tables e below (s₁.setTop (entryFrame m #[.ref a, .ref b, .int (Int32.ofNat o), .int (Int32.ofNat len), .null] 6)) (T11.setTop (mkF m 48 #[.val (.ref a), .val (.ref b), .val (.int (Int32.ofNat o)), .val (.int (Int32.ofNat len)), .val .null, .val (.ref s.heap.size)] [.int 0, .ref a])) := g11
  obtain ⟨T13, X13, p13, bl13, sl13, st13⟩ := X11.finit hexec hown (wk W (.fieldLink "java/lang/String" 15 "java/lang/String" "coder" "B")) (Or.inr ⟨_, (wk W (.laysFinal "java/lang/String" "java/lang/String" "coder" "B"))⟩) (Or.inl ⟨rfl, hnm⟩) f2 (Or.inl rfl) hB11 (t := .byte) (by decide +kernel) rfl (g := (mkF m 48 #[.val (.ref a), .val (.ref b), .val (.int (Int32.ofNat o)), .val (.int (Int32.ofNat len)), .val .null, .val (.ref s.heap.size)] [.int 0, .ref a])) rfl (rest := []) rfl (hb hbytes d48)
  have c14 : Steps p.tables e below (s₁.setTop (entryFrame m #[.ref a, .ref b, .int (Int32.ofNat o), .int (Int32.ofNat len), .null] 6)) (T13.setTop (mkF m 54 #[.val (.ref a), .val (.ref b), .val (.int (Int32.ofNat o)), .val (.int (Int32.ofNat len)), .val .null, .val (.ref s.heap.size)] [.ref s.heap.size, .ref a])) := (c12.trans (st13 _ (Steps.refl _))).trans (by
    refine XS.aloadN X13.here hexec rfl (hb hbytes d51) rfl rfl ?_
    refine XS.aload X13.here hexec rfl (hb hbytes d52) rfl rfl ?_
    exact Steps.refl _)
  obtain ⟨T15, X15, p15, bl15, sl15, st15⟩ := X13.finit hexec hown (wk W (.fieldLink "java/lang/String" 9 "java/lang/String" "value" "[B")) (Or.inr ⟨_, (wk W (.laysFinal "java/lang/String" "java/lang/String" "value" "[B"))⟩) (Or.inl ⟨rfl, hnm⟩) f1 (Or.inl rfl) bl13 (t := (.array .byte)) (by decide +kernel) rfl (g := (mkF m 54 #[.val (.ref a), .val (.ref b), .val (.int (Int32.ofNat o)), .val (.int (Int32.ofNat len)), .val .null, .val (.ref s.heap.size)] [.ref s.heap.size, .ref a])) rfl (rest := []) rfl (hb hbytes d54)
  have c16 : Steps p.tables e below (s₁.setTop (entryFrame m #[.ref a, .ref b, .int (Int32.ofNat o), .int (Int32.ofNat len), .null] 6)) (T15.setTop (mkF m 57 #[.val (.ref a), .val (.ref b), .val (.int (Int32.ofNat o)), .val (.int (Int32.ofNat len)), .val .null, .val (.ref s.heap.size)] [])) := c14.trans (st15 _ (Steps.refl _))
  have ap := apart (Or.inr ⟨_, (wk W (.laysFinal "java/lang/String" "java/lang/String" "value" "[B"))⟩) (Or.inr ⟨_, (wk W (.laysFinal "java/lang/String" "java/lang/String" "coder" "B"))⟩) f1 f2 (t₁ := .array .byte) (t₂ := .byte) (by decide +kernel) (by decide +kernel) (by decide)
  have al := X8.warmed.alike.symm.trans X15.warmed.alike
  have n7 : T11.heap[s.heap.size]? = some N := by rw [q11]; exact n1.1
  exact ⟨T15, none, _, _, _, X15, by simp, rfl, by omega, (fun _ => rfl), ⟨rfl, _, N, bl15, ((Same.refl D _).set _ (by simp)).set _ (by simp), sl15, (Cell.slots_setSlot_ne _ ap).trans sl13, n1.keep al (p15.other hne (p13.other hne n7)), n2, by rw [al.findClass]; exact n3, n4, n5, fun y c h1 h2 => p15.other h1 (p13.other h1 (by rw [q11]; exact n6 y c h2)), by rw [p15.2.2, p13.2.2, q11]; exact z8⟩, fun fs hl => c16.trans (X15.returnOut hexec hret (hb hbytes d57) hl)⟩
end New4
namespace New1
def yN : MethodName := ⟨"java/lang/String", "<init>", "([C)V"⟩
abbrev yB : ByteArray := jdk_42_method_3_code
theorem d0 : decode yB 0 = .ok (.aload_n 0, 1) := by decide +kernel
theorem d1 : decode yB 1 = .ok (.aload_n 1, 1) := by decide +kernel
theorem d2 : decode yB 2 = .ok (.iconst 0, 1) := by decide +kernel
theorem d3 : decode yB 3 = .ok (.aload_n 1, 1) := by decide +kernel
theorem d4 : decode yB 4 = .ok (.arraylength, 1) := by decide +kernel
theorem d5 : decode yB 5 = .ok (.aconst_null, 1) := by decide +kernel
theorem d6 : decode yB 6 = .ok (.invokespecial 27, 3) := by decide +kernel
theorem d9 : decode yB 9 = .ok (.return_, 1) := by decide +kernel
def site : List Cond := [New4.tab] ++ initW "java/lang/String" 27 New4.yN
def tab : Cond := tabOf yN yB 2 none site
def P (a : Addr) (D : Cell) (fV fC : Field) (b : Addr) (A : Cell) (z : Int32) (args : Array Value) (s : State) : Prop := args = #[.ref a, .ref b] ∧ Blank "java/lang/String" a D s ∧ Found "java/lang/String" "value" "[B" fV s ∧ Found "java/lang/String" "coder" "B" fC s ∧ Ch b A s ∧ StaticIs s "java/lang/String" "COMPACT_STRINGS" "Z" (.int z) ∧ ¬ z = 0 ∧ 0 < A.slots.size ∧ A.slots.size ≤ 536870912 ∧ ∀ i, i < A.slots.size → ¬ 255 < cv A i
def E (a : Addr) (D : Cell) (fV fC : Field) (A : Cell) (r : Option Value) (s u : State) : Prop := Got a D fV fC A 0 A.slots.size r s u
/-- new String(chars), not empty, no char above 255: a Latin-1 String of their low bytes -/
theorem law (l : Launch) (a : Addr) (D : Cell) (fV fC : Field) (b : Addr) (A : Cell) (z : Int32) : Law l yN 2 1 3 52 yB 2 none site (P a D fV fC b A z) (E a D fV fC A) [⟨a, fC.slot⟩, ⟨a, fV.slot⟩] 1 A.slots.size := by
  refine Law.of_walk (plainFor_of_name (by decide +kernel)) (by decide +kernel) (by decide +kernel) (by decide) (fun _ _ h => by rw [h.1]; rfl) (fun _ U U' hal hh h => ⟨h.1, h.2.1.mv hal hh, h.2.2.1.al hal, h.2.2.2.1.al hal, h.2.2.2.2.1.mv hal hh, h.2.2.2.2.2.1.there hal hh, h.2.2.2.2.2.2⟩) (fun r U U' V V' h1 hal h2 h => Got.mv r U U' V V' h1 hal h2 h) ?_
  intro p e s m args below meth c s₁ X0 hexec hbytes hml hret hlk hnm hown hh0 W hP
  obtain ⟨rfl, hB, f1, f2, hA, s1, hz, l0, l2, hp⟩ := hP
  have c1 : Steps p.tables e below (s₁.setTop (entryFrame m #[.ref a, .ref b] 2)) (s₁.setTop (mkF m 0 #[.val (.ref a), .val (.ref b)] [])) := entry rfl
  have c2 : Steps p.tables e below (s₁.setTop (entryFrame m #[.ref a, .ref b] 2)) (s₁.setTop (mkF m 6 #[.val (.ref a), .val (.ref b)] [.null, .int (Int32.ofNat A.slots.size), .int 0, .ref b, .ref a])) := c1.trans (by
    refine XS.aloadN X0.here hexec rfl (hb hbytes d0) rfl rfl ?_
    refine XS.aloadN X0.here hexec rfl (hb hbytes d1) rfl rfl ?_
    refine iconstV X0.here hexec rfl 0 (hb hbytes d2) (by decide) ?_
    refine XS.aloadN X0.here hexec rfl (hb hbytes d3) rfl rfl ?_
    refine X0.alen hexec (hA.1.mv X0.warmed.alike hh0) rfl rfl (hb hbytes d4) ?_
    refine XS.aconstNull X0.here hexec rfl (hb hbytes d5) ?_
    exact Steps.refl _)
  obtain ⟨v3, T3, X3, E3, g3⟩ := X0.callN hexec (New4.law l a D fV fC b A z 0 A.slots.size) rfl hown (wks W (initW "java/lang/String" 27 New4.yN)) (W New4.tab (by simp only [site, List.mem_cons, List.mem_append, true_or, or_true])) (W := 0) (Nat.le_of_ble_eq_true rfl) (Nat.le_of_ble_eq_true rfl) (Nat.le_refl _) (by show 0 + A.slots.size ≤ A.slots.size; omega) (g := (mkF m 6 #[.val (.ref a), .val (.ref b)] [.null, .int (Int32.ofNat A.slots.size), .int (Int32.ofNat 0), .ref b, .ref a])) rfl (by rw [hml]; rfl) c2 (argsL := [.ref b, .int (Int32.ofNat 0), .int (Int32.ofNat A.slots.size), .null]) (rest := []) rfl rfl (by show 2 * 0 + 0 ≤ _; decide) (hb hbytes d6) (⟨rfl, hB.mv X0.warmed.alike hh0, f1.al X0.warmed.alike, f2.al X0.warmed.alike, hA.mv X0.warmed.alike hh0, s1.there X0.warmed.alike hh0, hz, l0, by omega, l2, fun i hi => by rw [Nat.zero_add]; exact hp i hi⟩)
  have e0 := Got.mv _ s₁ s _ _ hh0.symm (Vm.Alike.refl _) rfl E3
  obtain rfl := e0.1
  have c4 : Steps p.tables e below (s₁.setTop (entryFrame m #[.ref a, .ref b] 2)) (T3.setTop (mkF m 9 #[.val (.ref a), .val (.ref b)] [])) := g3
  exact ⟨T3, none, _, _, _, X3, by simp, rfl, by omega, (fun _ => rfl), e0, fun fs hl => c4.trans (X3.returnOut hexec hret (hb hbytes d9) hl)⟩
theorem pays {l : Launch} {R : Room} {p : Program} {e : Env} {below : List Frame} {s : State} {sargs : Array Value} {len W : Nat} (a : Addr) (D : Cell) (fV fC : Field) (b : Addr) (A : Cell) (z : Int32) (htab : tab.before sargs s = true) (hfr : 4 ≤ R.frames) (hlo : W + 65 ≤ R.locals) :
    Back l R p e below s sargs yN len W (fun A₁ a₁ => A₁.cells + 1 ≤ R.cells ∧ A₁.slots + A.slots.size ≤ R.slots ∧ P a D fV fC b A z a₁ A₁.U) (fun A₁ _ v₁ B₁ => E a D fV fC A v₁ A₁.U B₁.U ∧ B₁.locs = A₁.locs ++ [⟨a, fC.slot⟩, ⟨a, fV.slot⟩] ∧ B₁.cells = A₁.cells + 1 ∧ B₁.slots = A₁.slots + A.slots.size) :=
  (law l a D fV fC b A z).pays htab hfr (by omega)
end New1
/-- the byte, read back as charAt reads it, is the char -/
theorem lo8_mask {x : Int32} (h0 : ¬ x < 0) (h1 : ¬ 255 < x) : lo8 x &&& 255 = x := by
  have t : ∀ k : Fin 256, lo8 (Int32.ofNat k.val) &&& 255 = Int32.ofNat k.val := by decide +kernel
  rw [Int32.lt_iff_toInt_lt] at h0 h1
  have e0 : (0 : Int32).toInt = 0 := rfl
  have e1 : (255 : Int32).toInt = 255 := rfl
  obtain ⟨k, hk⟩ : ∃ k : Nat, x.toInt = k := ⟨x.toInt.toNat, by omega⟩
  have hx : x = Int32.ofNat k := Int32.toInt_inj.mp (by rw [hk, Int32.toInt_ofNat_small (by omega)])
  rw [hx]
  exact t ⟨k, by omega⟩
end StrChars
namespace StrChars.Road
open Jvm Sem ClassFile Op Lib Jvm.Stand Jvm.Free Jvm.Free.XT
open Jvm.Lib.Cold (StaticIs)
abbrev ST : String := "java/lang/String"
/-- every table word that New1's law asks, flat -/
abbrev words : List Jvm.Cond := [.code New1.yN New1.yB 2 none, .initialized ST, .methodLink ST 27 New4.yN, .instanceMethod New4.yN,
  .code New4.yN New4.yB 6 none, .fieldLink ST 38 ST "COMPACT_STRINGS" "Z", .laysFinal ST ST "value" "[B", .fieldLink ST 9 ST "value" "[B", .laysFinal ST ST "coder" "B", .fieldLink ST 15 ST "coder" "B",
  .methodLink ST 1 Lib.objectInit, .instanceMethod Lib.objectInit, .code Lib.objectInit ⟨#[0xb1]⟩ 1 none, .methodLink ST 177 Cmp3.yN, .static Cmp3.yN, .methodLink ST 47 CodL.yN, .static CodL.yN,
  .code Cmp3.yN Cmp3.yB 6 (some (.array .byte)), .initialized U16, .arrayClass .byte, .methodLink U16 115 Cmp5.yN, .static Cmp5.yN, .code Cmp5.yN Cmp5.yB 7 (some .int), .code CodL.yN CodL.yB 2 (some .byte)]
theorem tab_of {a : Array Value} {s : State} (h : ∀ w ∈ words, w.before a s = true) : New1.tab.before a s = true := by
  have h5 : Cmp5.tab.before a s = true := unparts (wk h (.code Cmp5.yN Cmp5.yB 7 (some .int))) (wks h (.initialized Cmp5.yN.cls :: Cmp5.site))
  have hc : CodL.tab.before a s = true := unparts (wk h (.code CodL.yN CodL.yB 2 (some .byte))) (wks h (.initialized CodL.yN.cls :: CodL.site))
  have q5 : ∀ w ∈ Cmp5.tab :: words, w.before a s = true := fun w hw => (List.mem_cons.mp hw).elim (fun e => e ▸ h5) (h w)
  have h3 : Cmp3.tab.before a s = true := unparts (wk q5 (.code Cmp3.yN Cmp3.yB 6 (some (.array .byte)))) (wks q5 (.initialized Cmp3.yN.cls :: Cmp3.site))
  have q3 : ∀ w ∈ Cmp3.tab :: CodL.tab :: words, w.before a s = true := fun w hw => (List.mem_cons.mp hw).elim (fun e => e ▸ h3) fun hw => (List.mem_cons.mp hw).elim (fun e => e ▸ hc) (h w)
  have h4 : New4.tab.before a s = true := unparts (wk q3 (.code New4.yN New4.yB 6 none)) (wks q3 (.initialized New4.yN.cls :: New4.site))
  have q4 : ∀ w ∈ New4.tab :: words, w.before a s = true := fun w hw => (List.mem_cons.mp hw).elim (fun e => e ▸ h4) (h w)
  exact unparts (wk q4 (.code New1.yN New1.yB 2 none)) (wks q4 (.initialized New1.yN.cls :: New1.site))
/-- the words ride from the start Z to the walk's own state -/
theorem moved {Z s : State} {a0 args : Array Value} (hZ : Z.Warmed39 s.vm) (hw : ∀ d ∈ words, d.before a0 Z = true) : ∀ d ∈ words, d.before args s = true := fun d hd => by
  have q := hw d hd
  have t : ∀ d ∈ words, d = .arrayClass .byte ∨ (d.onTables && d.keepsFace) = true := by decide +kernel
  rcases t d hd with rfl | t
  · exact RoadKit.mvA hZ q
  · exact RoadKit.mv hZ q t
/-- WHAT COMES BACK, over the tables of the start Z: h the heap at the call, h' behind it -/
def Q (Z : State) (x : Addr) (A : Cell) (h : Heap) (v : Option Value) (h' : Heap) (L : List Loc) : Prop := v = none ∧ (∀ y ∈ L, y.base = x) ∧ RoadKit.Keep h h' [x] ∧ h'.size = h.size + 1 ∧ RoadKit.Exa Z h' x ST ∧ RoadKit.Fld Z h' x ST "value" "[B" (.ref h.size) ∧ RoadKit.Fld Z h' x ST "coder" "B" (.int 0) ∧
  (∃ V : Cell, RoadKit.Arr Z h' h.size V .byte ∧ V.vm = .none ∧ Z.vm.findClass "[B" = some V.cls ∧ V.slots.size = A.slots.size ∧ ∀ j, j < A.slots.size → V.slots[j]? = some (.int (lo8 (cv A j)))) ∧
  ∀ (O n d : String) (w : Value), RoadKit.Fld Z h x O n d w → RoadKit.slotOf Z O n d ≠ RoadKit.slotOf Z ST "value" "[B" → RoadKit.slotOf Z O n d ≠ RoadKit.slotOf Z ST "coder" "B" → RoadKit.Fld Z h' x O n d w
/-- **new String(chars) AT A CALL, IN THE ROAD'S FORM**: for specialBack behind newO: x the fresh String, b the char[] with the cell A -/
theorem back {p : Program} {l : Launch} {e : Env} {R : Room} {s : State} {args : Array Value} {below : List Frame} {len W : Nat} {Z : State} {a0 : Array Value} {h : Heap} (hZ : Z.Warmed39 s.vm) (hw : ∀ d ∈ words, d.before a0 Z = true) {kI : Nat} (wi : (Jvm.Cond.instantiable ST kI).before a0 Z = true)
    {x b : Addr} {A : Cell} {z : Int32} {v0 c0 : Value} (E : RoadKit.Exa Z h x ST) (V : RoadKit.Fld Z h x ST "value" "[B" v0) (C : RoadKit.Fld Z h x ST "coder" "B" c0) (K : RoadKit.Arr Z h b A .char) (hty : Typed .char A) (S : RoadKit.Sta Z h ST "COMPACT_STRINGS" "Z" (.int z)) (hz : ¬ z = 0)
    (l0 : 0 < A.slots.size) (l2 : A.slots.size ≤ 536870912) (hp : ∀ i, i < A.slots.size → ¬ 255 < cv A i) (hfr : 4 ≤ R.frames) (hlo : W + 65 ≤ R.locals) :
    Back l R p e below s args New1.yN len W (fun P a => a = #[.ref x, .ref b] ∧ P.U.heap = h ∧ P.cells + 1 ≤ R.cells ∧ P.slots + A.slots.size ≤ R.slots)
      (fun P _ v B => ∃ L, Q Z x A h v B.U.heap L ∧ B.locs = P.locs ++ L ∧ B.cells = P.cells + 1 ∧ B.slots = P.slots + A.slots.size) := by
  intro m meth c P g ig mk a X hg hsize hdg hW hn hp'
  obtain ⟨rfl, rfl, r1, r2⟩ := hp'
  have al : Z.vm.Alike P.U.vm := hZ.alike.trans X.warmed.alike
  obtain ⟨D, cfV, kV, iV, fV, hD, gV, stV, knV, obV, asV, slV⟩ := id V
  obtain ⟨D', cfC, kC, iC, fC, hD', gC, stC, -, -, asC, slC⟩ := id C
  cases hD.symm.trans hD'
  obtain ⟨D2, kD, e1, e2, e3, e4, e5⟩ := id E
  cases hD.symm.trans e1
  obtain ⟨c2, k2, i1, i2, i3, -⟩ := Cond.instantiable_spec wi
  cases e2.symm.trans i1
  cases e3.symm.trans i2
  obtain ⟨kU, u1, u2⟩ := al.2.2 _ _ e3
  have hB : Blank ST x D P.U := ⟨hD, ⟨knV, fun q hq => by rw [hq] at obV; cases obV⟩, by rw [al.findClass]; exact e2, kU, u1, by rw [u2]; exact i3, by rw [u2]; exact e5 i3⟩
  have F1 : Found ST "value" "[B" fV P.U := ⟨SBG.found_only al ⟨cfV, kV, iV, gV⟩, stV⟩
  have F2 : Found ST "coder" "B" fC P.U := ⟨SBG.found_only al ⟨cfC, kC, iC, gC⟩, stC⟩
  have hA : Ch b A P.U := ⟨⟨K.1, State.isArrayOf_alike al K.2.1, K.2.2, by omega⟩, hty⟩
  have hS : StaticIs P.U ST "COMPACT_STRINGS" "Z" (.int z) := by
    obtain ⟨cfS, iS, kS, fS, st, cS, t1, t2, t3, t4, t5, t6, t7⟩ := S
    exact StaticIs.there (s := { Z with heap := P.U.heap }) ⟨cfS, iS, kS, fS, st, cS, t1, t2, t3, t4, t5, (fun q => by rw [q] at t6; cases t6), t7⟩ al rfl
  obtain ⟨v, B, X', ⟨⟨hv, E', V', q1, q2, q3, q4, q5, q6, q7, q8, q9, q10, q11⟩, hl, hc, hs⟩, st⟩ := New1.pays x D fV fC b A z (tab_of (moved hZ hw)) hfr hlo m meth c P g ig mk _ X hg hsize hdg hW hn ⟨r1, r2, rfl, hB, F1, F2, hA, hS, hz, l0, l2, hp⟩
  have al' : Z.vm.Alike B.U.vm := hZ.alike.trans X'.warmed.alike
  have hsz : E'.slots.size = D.slots.size := by
    obtain ⟨-, -, -, kB, w1, w2, w3⟩ := q1
    obtain ⟨kB', y1, y2⟩ := al'.2.2 _ _ e3
    rw [q2.2.1] at w1
    cases w1.symm.trans y1
    rw [w3, e5 i3, y2]
  refine ⟨v, B, X', ⟨_, ⟨hv, ?_, ⟨by omega, fun y cy hy hn' => q10 y cy (by simpa using hn') hy, fun y cy hy => ?_⟩, q11, ⟨E', _, q1.1, by rw [q2.2.1]; exact e2, by rw [q2.2.1]; exact e3, by rw [q2.1]; exact obV, fun _ => by rw [hsz]; exact e5 i3⟩,
    ⟨E', cfV, kV, iV, fV, q1.1, gV, stV, by rw [q2.1]; exact knV, by rw [q2.1]; exact obV, by rw [q2.2.1]; exact asV, q3⟩, ⟨E', cfC, kC, iC, fC, q1.1, gC, stC, by rw [q2.1]; exact knV, by rw [q2.1]; exact obV, by rw [q2.2.1]; exact asC, q4⟩,
    ⟨V', ⟨q5.1, State.isArrayOf_alike al'.symm q5.2.1, q5.2.2.1⟩, q6, by rw [← al'.findClass]; exact q7, q8, fun j hj => by have := q9 j hj; rwa [Nat.zero_add] at this⟩, fun O n d w F n1 n2 => ?_⟩, hl, hc, hs⟩, st⟩
  · intro y hy
    simp only [List.mem_cons, List.not_mem_nil, or_false] at hy
    rcases hy with rfl | rfl <;> rfl
  · by_cases q : y = x
    · subst q
      cases hD.symm.trans hy
      exact ⟨E', q1.1, q2.2.1, q2.1, hsz⟩
    · exact ⟨cy, q10 y cy q hy, rfl, rfl, rfl⟩
  · obtain ⟨D3, cf, k, i, f, g1, g2, g3, g4, g5, g6, g7⟩ := F
    cases hD.symm.trans g1
    simp only [RoadKit.slotOf, g2, gV, gC, Option.map_some, Option.getD_some] at n1 n2
    exact ⟨E', cf, k, i, f, q1.1, g2, g3, by rw [q2.1]; exact g4, by rw [q2.1]; exact g5, by rw [q2.2.1]; exact g6, by rw [q2.2.2 f.slot (by simp [n1, n2])]; exact g7⟩
end StrChars.Road
namespace StrChars.Road
open Jvm Sem ClassFile Op Lib Jvm.Stand Jvm.Free Jvm.Free.XT
/-- WHAT COMES BACK, the byte[] as a list of values -/
def QA (Z : State) (x : Addr) (zn : Int32) (cs : List Int32) (h : Heap) (v : Option Value) (h' : Heap) (L : List Loc) : Prop := v = none ∧ (∀ y ∈ L, y.base = x) ∧ RoadKit.Keep h h' [x] ∧ h'.size = h.size + 1 ∧ RoadKit.Exa Z h' x ST ∧ RoadKit.Fld Z h' x ST "value" "[B" (.ref h.size) ∧ RoadKit.Fld Z h' x ST "coder" "B" (.int 0) ∧
  (∃ kb, Z.vm.findClass "[B" = some kb ∧ RoadKit.Arv Z h' h.size kb .byte zn (cs.map fun c => .int (lo8 c)) (.int 0)) ∧
  ∀ (O n d : String) (w : Value), RoadKit.Fld Z h x O n d w → RoadKit.slotOf Z O n d ≠ RoadKit.slotOf Z ST "value" "[B" → RoadKit.slotOf Z O n d ≠ RoadKit.slotOf Z ST "coder" "B" → RoadKit.Fld Z h' x O n d w
/-- **new String(chars) AT A CALL, THE ARRAYS AS LISTS**: the char[] at b holds cs, not empty, no char above 255 -/
theorem backArv {p : Program} {l : Launch} {e : Env} {R : Room} {s : State} {args : Array Value} {below : List Frame} {len W : Nat} {Z : State} {a0 : Array Value} {h : Heap} (hZ : Z.Warmed39 s.vm) (hw : ∀ d ∈ words, d.before a0 Z = true) {kI : Nat} (wi : (Jvm.Cond.instantiable ST kI).before a0 Z = true)
    {x b : Addr} {k : ClassId} {zn z : Int32} {cs : List Int32} {dv v0 c0 : Value} (E : RoadKit.Exa Z h x ST) (V : RoadKit.Fld Z h x ST "value" "[B" v0) (C : RoadKit.Fld Z h x ST "coder" "B" c0) (K : RoadKit.Arv Z h b k .char zn (cs.map Value.int) dv) (S : RoadKit.Sta Z h ST "COMPACT_STRINGS" "Z" (.int z)) (hz : ¬ z = 0)
    (hlen : zn.toNatClampNeg = cs.length) (h0 : 0 < cs.length) (hbig : cs.length ≤ 536870912) (hall : ∀ c ∈ cs, ¬ 255 < c) (hfr : 4 ≤ R.frames) (hlo : W + 65 ≤ R.locals) :
    Back l R p e below s args New1.yN len W (fun P a => a = #[.ref x, .ref b] ∧ P.U.heap = h ∧ P.cells + 1 ≤ R.cells ∧ P.slots + cs.length ≤ R.slots)
      (fun P _ v B => ∃ L, QA Z x zn cs h v B.U.heap L ∧ B.locs = P.locs ++ L ∧ B.cells = P.cells + 1 ∧ B.slots = P.slots + cs.length) := by
  obtain ⟨A, K1, K2, K3, K4, K5, K6⟩ := K
  have e : A.slots.size = cs.length := K3.trans hlen
  have hat : ∀ (i : Nat) (hi : i < cs.length), A.slots[i]? = some (.int cs[i]) := fun i hi => by rw [K5 i (by omega)]; simp [List.getD_eq_getElem?_getD, hi]
  have hcv : ∀ (i : Nat) (hi : i < cs.length), cv A i = cs[i] := fun i hi => by unfold cv; rw [hat i hi]
  have hty : Typed .char A := fun i v hv => by
    have hi : i < A.slots.size := (Array.getElem?_eq_some_iff.mp hv).1
    have q := K5 i hi
    rw [hv] at q
    rw [Option.some.inj q]
    exact K6 i hi
  refine Back.mono (back hZ hw wi E V C K1 hty S hz (by omega) (by omega) (fun i hi => by rw [hcv i (by omega)]; exact hall _ (List.getElem_mem _)) hfr hlo) (fun P a hp => ⟨hp.1, hp.2.1, hp.2.2.1, by rw [e]; exact hp.2.2.2⟩) (fun P a v B hp hq => ?_)
  obtain ⟨L, ⟨q1, q2, q3, q4, q5, q6, q7, ⟨V', v1, v2, v3, v4, v5⟩, q9⟩, hl, hc, hs⟩ := hq
  refine ⟨L, ⟨q1, q2, q3, q4, q5, q6, q7, ⟨V'.cls, v3, V', v1, rfl, by rw [v4, e, hlen], K4, fun i hi => ?_, fun i hi => ?_⟩, q9⟩, hl, hc, by rw [hs, e]⟩
  · have hi' : i < cs.length := by omega
    rw [v5 i (by omega), hcv i hi']; simp [List.getD_eq_getElem?_getD, hi']
  · have hi' : i < cs.length := by omega
    simp only [List.getD_eq_getElem?_getD, List.getElem?_map, List.getElem?_eq_getElem hi', Option.map_some, Option.getD_some]
    exact fits_lo8 _
end StrChars.Road
namespace StrChars.Road
open Jvm Sem ClassFile Op Lib Jvm.Stand Jvm.Free Jvm.Free.XT
/-- WHAT COMES BACK, in the writer's own shape -/
def QV (Z : State) (x : Addr) (N : Int32) (bs : List Int32) (h : Heap) (n0 : Nat) (v : Option Value) (h' : Heap) (L : List Loc) : Prop := v = none ∧ RoadKit.Fr n0 L ∧ RoadKit.Keep h h' [x] ∧ RoadKit.Exa Z h' x ST ∧ RoadKit.Fld Z h' x ST "coder" "B" (.int 0) ∧
  ∃ (t : Addr) (kb : ClassId), n0 ≤ t ∧ h.size ≤ t ∧ ¬ t = x ∧ RoadKit.Fld Z h' x ST "value" "[B" (.ref t) ∧ RoadKit.Arv Z h' t kb .byte N (bs.map Value.int) (.int 0)
/-- **new String(chars) AT A CALL, FOR THE WRITER**: a char[] of n known ints, each 0 to 255 -/
theorem backV {p : Program} {l : Launch} {e : Env} {R : Room} {s : State} {args : Array Value} {below : List Frame} {len W : Nat} {Z : State} {a0 : Array Value} {h : Heap} (hZ : Z.Warmed39 s.vm) (hw : ∀ d ∈ words, d.before a0 Z = true) {kI : Nat} (wi : (Jvm.Cond.instantiable ST kI).before a0 Z = true)
    {x b : Addr} {kC : ClassId} {cs bs : List Int32} {d v0 c0 : Value} {z N : Int32} {n n0 : Nat} (hx0 : n0 ≤ x) (hh0 : n0 ≤ h.size) (E : RoadKit.Exa Z h x ST) (V : RoadKit.Fld Z h x ST "value" "[B" v0) (C : RoadKit.Fld Z h x ST "coder" "B" c0) (K : RoadKit.Arv Z h b kC .char N (cs.map Value.int) d) (S : RoadKit.Sta Z h ST "COMPACT_STRINGS" "Z" (.int z)) (hz : ¬ z = 0)
    (hn : cs.length = n) (hN : N = Int32.ofNat n) (l0 : 0 < n) (l2 : n ≤ 4000) (hp : ∀ c ∈ cs, ¬ c < 0 ∧ ¬ (255 : Int32) < c) (hb : bs = cs.map (fun c => c.toInt8.toInt32)) (hfr : 4 ≤ R.frames) (hlo : W + 65 ≤ R.locals) :
    Back l R p e below s args (⟨"java/lang/String", "<init>", "([C)V"⟩ : MethodName) len W (fun P a => a = #[.ref x, .ref b] ∧ P.U.heap = h ∧ P.cells + 1 ≤ R.cells ∧ P.slots + n ≤ R.slots)
      (fun P _ v B => ∃ L, QV Z x N bs h n0 v B.U.heap L ∧ B.locs = P.locs ++ L ∧ B.cells = P.cells + 1 ∧ B.slots = P.slots + n) := by
  subst hn hN hb
  refine Back.mono (backArv hZ hw wi E V C K S hz (n32 (by omega)) l0 (by omega) (fun c hc => (hp c hc).2) hfr hlo) (fun P a hp => hp) (fun P a v B hp hq => ?_)
  obtain ⟨L, ⟨q1, q2, q3, q4, q5, q6, q7, ⟨kb, v1, v2⟩, q9⟩, hl, hc, hs⟩ := hq
  exact ⟨L, ⟨q1, fun y hy => by rw [q2 y hy]; exact hx0, q3, q5, q7, h.size, kb, hh0, Nat.le_refl _, Nat.ne_of_gt E.lt, q6, by rw [List.map_map]; exact v2⟩, hl, hc, hs⟩
end StrChars.Road
namespace StrChars
open Jvm Sem ClassFile Op Lib Jvm.Stand Jvm.Free.XT Jvm.Free.ALB Jvm.Free.JM Jvm.Free
open Jvm.Lib.Cold (StaticIs)
def hi8 (x : Int32) : Int32 := lo8 (x >>> ((8 : Int32) &&& 31))
/-- what StringUTF16.getChar makes of two bytes -/
def pairCh (u v : Int32) : Int32 := (((u &&& 255) <<< ((0 : Int32) &&& 31)) ||| ((v &&& 255) <<< ((8 : Int32) &&& 31))).toUInt32.toUInt16.toUInt32.toInt32
theorem lo8_and (x : Int32) : (lo8 x &&& 255).toBitVec.toNat = x.toBitVec.toNat % 256 := by
  have h : (lo8 x).toBitVec = (x.toBitVec.signExtend 8).signExtend 32 := by rw [lo8, Int8.toBitVec_toInt32, Int32.toBitVec_toInt8]
  rw [Int32.toBitVec_and, BitVec.toNat_and, h]
  have e : ((x.toBitVec.signExtend 8).signExtend 32).toNat % 256 = x.toBitVec.toNat % 256 := by
    rw [BitVec.toNat_signExtend]
    have hlt := x.toBitVec.isLt
    simp only [BitVec.toNat_setWidth, BitVec.toNat_signExtend]
    split <;> split <;> omega
  rw [← e]
  exact Nat.and_two_pow_sub_one_eq_mod _ 8
theorem pair_says {c : Int32} (h0 : ¬ c < 0) (h1 : ¬ 65535 < c) : pairCh (lo8 c) (hi8 c) = c := by
  rw [Int32.lt_iff_toInt_lt] at h0 h1
  have e0 : (0 : Int32).toInt = 0 := rfl
  have e1 : (65535 : Int32).toInt = 65535 := rfl
  have hc : c.toInt = c.toBitVec.toNat := by
    have := c.toBitVec.isLt
    have e : c.toInt = c.toBitVec.toInt := rfl
    rw [e] at h0 h1
    rw [e]
    rw [BitVec.toInt_eq_toNat_cond] at h0 h1 ⊢
    split at h0 <;> split <;> omega
  have hn : c.toBitVec.toNat < 65536 := by omega
  have a1 := lo8_and c
  have a2 : (hi8 c &&& 255).toBitVec.toNat = c.toBitVec.toNat / 256 := by
    rw [hi8, lo8_and]
    have e : ((8 : Int32) &&& 31) = 8 := by decide
    rw [e, Int32.toBitVec_shiftRight]
    have e2 : ((8 : Int32).toBitVec.smod 32) = 8#32 := by decide
    rw [e2, BitVec.sshiftRight_eq', BitVec.toNat_sshiftRight_of_msb_false (by rw [BitVec.msb_eq_false_iff_two_mul_lt]; omega)]
    show c.toBitVec.toNat >>> 8 % 256 = _
    rw [Nat.shiftRight_eq_div_pow]
    omega
  unfold pairCh
  apply Int32.toBitVec_inj.mp
  apply BitVec.eq_of_toNat_eq
  have f0 : ((0 : Int32) &&& 31) = 0 := by decide
  have f8 : ((8 : Int32) &&& 31) = 8 := by decide
  rw [f0, f8]
  have g : (((lo8 c &&& 255) <<< (0 : Int32)) ||| ((hi8 c &&& 255) <<< (8 : Int32))).toBitVec.toNat = c.toBitVec.toNat := by
    rw [Int32.toBitVec_or, Int32.toBitVec_shiftLeft, Int32.toBitVec_shiftLeft]
    have s0 : ((0 : Int32).toBitVec.smod 32) = 0#32 := by decide
    have s8 : ((8 : Int32).toBitVec.smod 32) = 8#32 := by decide
    rw [s0, s8, BitVec.toNat_or]
    simp only [BitVec.shiftLeft_eq', BitVec.toNat_shiftLeft, a1, a2]
    show (c.toBitVec.toNat % 256) <<< 0 % 2 ^ 32 ||| (c.toBitVec.toNat / 256) <<< 8 % 2 ^ 32 = _
    rw [Nat.shiftLeft_zero, Nat.mod_eq_of_lt (show c.toBitVec.toNat % 256 < 2 ^ 32 by omega), Nat.mod_eq_of_lt (show (c.toBitVec.toNat / 256) <<< 8 < 2 ^ 32 by rw [Nat.shiftLeft_eq]; omega), Nat.or_comm, ← Nat.shiftLeft_add_eq_or_of_lt (by omega), Nat.shiftLeft_eq]
    omega
  show BitVec.toNat (((((lo8 c &&& 255) <<< (0 : Int32)) ||| ((hi8 c &&& 255) <<< (8 : Int32))).toBitVec.setWidth 16).setWidth 32) = _
  rw [BitVec.toNat_setWidth, BitVec.toNat_setWidth, g]
  omega
end StrChars
namespace StrChars
open Jvm Sem ClassFile Op Lib Jvm.Stand Jvm.Free.XT Jvm.Free.ALB Jvm.Free.JM Jvm.Free
open Jvm.Lib.Cold (StaticIs)
/-- the array's cell V codes the n chars f 0 .. f (n - 1) by the coder cd, as the JDK does: coder 1 just where some char is above 255 -/
def Cod (cd : Int32) (n : Nat) (f : Nat → Int32) (V : Cell) : Prop := (cd = 0 ∧ V.slots.size = n ∧ ∀ j, j < n → V.slots[j]? = some (.int (lo8 (f j))) ∧ ¬ 255 < f j) ∨ (cd = 1 ∧ V.slots.size = 2 * n ∧ (∀ j, j < n → V.slots[2 * j]? = some (.int (lo8 (f j))) ∧ V.slots[2 * j + 1]? = some (.int (hi8 (f j)))) ∧ ∃ j, j < n ∧ 255 < f j)
/-- **x is a String of the n chars f 0 .. f (n - 1)**, Latin-1 or UTF-16; its array at t has the cell V -/
def Txt (x t : Addr) (V : Cell) (cd : Int32) (n : Nat) (f : Nat → Int32) (U : State) : Prop := Exact "java/lang/String" x U ∧ Has x "java/lang/String" "value" "[B" (.ref t) U ∧ Has x "java/lang/String" "coder" "B" (.int cd) U ∧ XT.Arr .byte t V U ∧ Cod cd n f V ∧ ∀ j, j < n → ¬ f j < 0 ∧ ¬ 65535 < f j
theorem Txt.mv {x t : Addr} {V : Cell} {cd : Int32} {n : Nat} {f : Nat → Int32} {U U' : State} (h : Txt x t V cd n f U) (hal : U.vm.Alike U'.vm) (hh : U'.heap = U.heap) : Txt x t V cd n f U' := ⟨h.1.mv hal hh, h.2.1.mv hal hh, h.2.2.1.mv hal hh, h.2.2.2.1.mv hal hh, h.2.2.2.2⟩
end StrChars
namespace StrChars.Road
open Jvm Sem ClassFile Op Lib Jvm.Stand Jvm.Free Jvm.Free.XT
open Jvm.Lib.Cold (StaticIs)
theorem consq {a : Array Value} {s : State} {c : Jvm.Cond} {L : List Jvm.Cond} (h0 : c.before a s = true) (h : ∀ w ∈ L, w.before a s = true) : ∀ w ∈ c :: L, w.before a s = true := fun w hw => (List.mem_cons.mp hw).elim (fun e => e ▸ h0) (h w)
/-- the bytes of the chars cs, low before high -/
def wideBytes : List Int32 → List Value
  | [] => []
  | c :: cs => .int (lo8 c) :: .int (hi8 c) :: wideBytes cs
theorem wide_lo (d : Value) : ∀ (cs : List Int32) (j : Nat), j < cs.length → (wideBytes cs).getD (2 * j) d = .int (lo8 (cs.getD j 0))
  | [], j, h => absurd h (Nat.not_lt_zero j)
  | c :: cs, 0, _ => rfl
  | c :: cs, j + 1, h => by
    have q := wide_lo d cs j (by simpa using h)
    rw [show 2 * (j + 1) = 2 * j + 1 + 1 from by omega]
    simpa [wideBytes] using q
theorem wide_hi (d : Value) : ∀ (cs : List Int32) (j : Nat), j < cs.length → (wideBytes cs).getD (2 * j + 1) d = .int (hi8 (cs.getD j 0))
  | [], j, h => absurd h (Nat.not_lt_zero j)
  | c :: cs, 0, _ => rfl
  | c :: cs, j + 1, h => by
    have q := wide_hi d cs j (by simpa using h)
    rw [show 2 * (j + 1) + 1 = 2 * j + 1 + 1 + 1 from by omega]
    simpa [wideBytes] using q
theorem low_at (d : Value) (cs : List Int32) (j : Nat) (h : j < cs.length) : (cs.map fun c => Value.int (lo8 c)).getD j d = .int (lo8 (cs.getD j 0)) := by
  simp [List.getD_eq_getElem?_getD, h]
/-- an array of N2 bytes vs codes the chars cs by the coder cd -/
def CodA (cs : List Int32) (cd N2 : Int32) (vs : List Value) : Prop := (cd = 0 ∧ N2 = Int32.ofNat cs.length ∧ vs = (cs.map fun c => Value.int (lo8 c)) ∧ ∀ c ∈ cs, ¬ 255 < c) ∨ (cd = 1 ∧ N2 = Int32.ofNat (2 * cs.length) ∧ vs = wideBytes cs ∧ ∃ c ∈ cs, 255 < c)
theorem CodA.cod {cs : List Int32} {cd N2 : Int32} {vs : List Value} {V : Cell} (h : CodA cs cd N2 vs) (hn : 2 * cs.length < 2 ^ 31) (hs : V.slots.size = N2.toNatClampNeg) (hv : RoadKit.Has V vs (.int 0)) : Cod cd cs.length (fun j => cs.getD j 0) V := by
  rcases h with ⟨rfl, rfl, rfl, h⟩ | ⟨rfl, rfl, rfl, c, hc, hw⟩
  · rw [n32 (by omega)] at hs
    exact Or.inl ⟨rfl, hs, fun j hj => ⟨by rw [hv j (by omega), low_at _ _ _ hj], by
      have e : cs.getD j 0 = cs[j] := by simp [List.getD_eq_getElem?_getD, hj]
      show ¬ 255 < cs.getD j 0
      rw [e]; exact h _ (List.getElem_mem _)⟩⟩
  · rw [n32 (by omega)] at hs
    obtain ⟨j, hj, rfl⟩ := List.getElem_of_mem hc
    exact Or.inr ⟨rfl, hs, fun j hj => ⟨by rw [hv _ (by omega), wide_lo _ _ _ hj], by rw [hv _ (by omega), wide_hi _ _ _ hj]⟩, j, hj, by
      have e : cs.getD j 0 = cs[j] := by simp [List.getD_eq_getElem?_getD, hj]
      show 255 < cs.getD j 0
      rw [e]; exact hw⟩
/-- an object of exactly java/lang/String, its two fields found: as the laws ask it -/
theorem strObj {Z U : State} {a0 : Array Value} {kI : Nat} (wi : (Jvm.Cond.instantiable ST kI).before a0 Z = true) (al : Z.vm.Alike U.vm) {x : Addr} {v0 c0 : Value} (E : RoadKit.Exa Z U.heap x ST) (V : RoadKit.Fld Z U.heap x ST "value" "[B" v0) (C : RoadKit.Fld Z U.heap x ST "coder" "B" c0) :
    ∃ (D : Cell) (fV fC : Field), Blank ST x D U ∧ Found ST "value" "[B" fV U ∧ Found ST "coder" "B" fC U ∧ D.slots[fV.slot]? = some v0 ∧ D.slots[fC.slot]? = some c0 ∧ RoadKit.slotOf Z ST "value" "[B" = fV.slot ∧ RoadKit.slotOf Z ST "coder" "B" = fC.slot := by
  obtain ⟨D, cfV, kV, iV, fV, hD, gV, stV, knV, obV, asV, slV⟩ := V
  obtain ⟨D', cfC, kC, iC, fC, hD', gC, stC, -, -, asC, slC⟩ := C
  cases hD.symm.trans hD'
  obtain ⟨D2, kD, e1, e2, e3, e4, e5⟩ := E
  cases hD.symm.trans e1
  obtain ⟨c2, k2, i1, i2, i3, -⟩ := Cond.instantiable_spec wi
  cases e2.symm.trans i1
  cases e3.symm.trans i2
  obtain ⟨kU, u1, u2⟩ := al.2.2 _ _ e3
  exact ⟨D, fV, fC, ⟨hD, ⟨knV, fun q hq => by rw [hq] at obV; cases obV⟩, by rw [al.findClass]; exact e2, kU, u1, by rw [u2]; exact i3, by rw [u2]; exact e5 i3⟩, ⟨SBG.found_only al ⟨cfV, kV, iV, gV⟩, stV⟩, ⟨SBG.found_only al ⟨cfC, kC, iC, gC⟩, stC⟩, slV, slC, by simp [RoadKit.slotOf, gV], by simp [RoadKit.slotOf, gC]⟩
theorem sta_is {Z U : State} (al : Z.vm.Alike U.vm) {C n d : String} {v : Value} (S : RoadKit.Sta Z U.heap C n d v) : StaticIs U C n d v := by
  obtain ⟨cfS, iS, kS, fS, st, cS, t1, t2, t3, t4, t5, t6, t7⟩ := S
  exact StaticIs.there (s := { Z with heap := U.heap }) ⟨cfS, iS, kS, fS, st, cS, t1, t2, t3, t4, t5, (fun q => by rw [q] at t6; cases t6), t7⟩ al rfl
end StrChars.Road
namespace StrChars
open Jvm Sem ClassFile Op Lib Jvm.Stand Jvm.Free.XT Jvm.Free.ALB Jvm.Free.JM Jvm.Free
open Jvm.Lib.Cold (StaticIs)
/-- what place i of a byte[]'s cell holds -/
def yv (A : Cell) (i : Nat) : Int32 := match A.slots[i]? with | some (.int x) => x | _ => 0
theorem yv_get {a : Addr} {A : Cell} {U : State} (h : XT.Arr .byte a A U) (ht : Typed .byte A) {i : Nat} (hi : i < A.slots.size) : A.slots[i]? = some (.int (yv A i)) := by
  have e := Array.getElem?_eq_getElem hi
  have f := ht i _ e
  unfold yv; rw [e]
  generalize A.slots[i] = v at f
  cases v <;> simp [fits] at f ⊢
/-- the two arrays are equal, place for place -/
def EqC (A B : Cell) : Prop := A.slots.size = B.slots.size ∧ ∀ i, i < A.slots.size → yv A i = yv B i
/-- a boolean that says whether p -/
def Says01 (q : Prop) (r : Option Value) (s u : State) : Prop := ∃ v : Int32, r = some (.int v) ∧ u.heap = s.heap ∧ ((v = 1 ∧ q) ∨ (v = 0 ∧ ¬ q))
theorem Says01.mv {q : Prop} : ∀ r (U U' V V' : State), U'.heap = U.heap → V.vm.Alike V'.vm → V'.heap = V.heap → Says01 q r U V → Says01 q r U' V' :=
  fun r U U' V V' h1 _ h2 ⟨v, a, b, c⟩ => ⟨v, a, by rw [h1, h2]; exact b, c⟩
namespace LEq
def yN : MethodName := ⟨"java/lang/StringLatin1", "equals", "([B[B)Z"⟩
abbrev yB : ByteArray := jdk_43_method_13_code
theorem d0 : decode yB 0 = .ok (.aload_n 0, 1) := by decide +kernel
theorem d1 : decode yB 1 = .ok (.arraylength, 1) := by decide +kernel
theorem d2 : decode yB 2 = .ok (.aload_n 1, 1) := by decide +kernel
theorem d3 : decode yB 3 = .ok (.arraylength, 1) := by decide +kernel
theorem d4 : decode yB 4 = .ok (.if_icmp (.ne) 30, 3) := by decide +kernel
theorem d7 : decode yB 7 = .ok (.iconst 0, 1) := by decide +kernel
theorem d8 : decode yB 8 = .ok (.istore_n 2, 1) := by decide +kernel
theorem d9 : decode yB 9 = .ok (.iload_n 2, 1) := by decide +kernel
theorem d10 : decode yB 10 = .ok (.aload_n 0, 1) := by decide +kernel
theorem d11 : decode yB 11 = .ok (.arraylength, 1) := by decide +kernel
theorem d12 : decode yB 12 = .ok (.if_icmp (.ge) 20, 3) := by decide +kernel
theorem d15 : decode yB 15 = .ok (.aload_n 0, 1) := by decide +kernel
theorem d16 : decode yB 16 = .ok (.iload_n 2, 1) := by decide +kernel
theorem d17 : decode yB 17 = .ok (.baload, 1) := by decide +kernel
theorem d18 : decode yB 18 = .ok (.aload_n 1, 1) := by decide +kernel
theorem d19 : decode yB 19 = .ok (.iload_n 2, 1) := by decide +kernel
theorem d20 : decode yB 20 = .ok (.baload, 1) := by decide +kernel
theorem d21 : decode yB 21 = .ok (.if_icmp (.eq) 5, 3) := by decide +kernel
theorem d24 : decode yB 24 = .ok (.iconst 0, 1) := by decide +kernel
theorem d25 : decode yB 25 = .ok (.ireturn, 1) := by decide +kernel
theorem d26 : decode yB 26 = .ok (.iinc 2 1, 3) := by decide +kernel
theorem d29 : decode yB 29 = .ok (.goto (-20), 3) := by decide +kernel
theorem d32 : decode yB 32 = .ok (.iconst 1, 1) := by decide +kernel
theorem d33 : decode yB 33 = .ok (.ireturn, 1) := by decide +kernel
theorem d34 : decode yB 34 = .ok (.iconst 0, 1) := by decide +kernel
theorem d35 : decode yB 35 = .ok (.ireturn, 1) := by decide +kernel
def site : List Cond := []
def tab : Cond := tabOf yN yB 3 (some .boolean) site
def P (a : Addr) (A : Cell) (b : Addr) (B : Cell) (args : Array Value) (s : State) : Prop := args = #[.ref a, .ref b] ∧ XT.Arr .byte a A s ∧ Typed .byte A ∧ XT.Arr .byte b B s ∧ Typed .byte B
/-- whether two byte[] are equal, place for place -/
theorem law (l : Launch) (a : Addr) (A : Cell) (b : Addr) (B : Cell) : Law l yN 2 2 0 0 yB 3 (some .boolean) site (P a A b B) (Says01 (EqC A B)) [] 0 0 := by
  refine Law.of_walk (plainFor_of_name (by decide +kernel)) (by decide +kernel) (by decide +kernel) (by decide) (fun _ _ h => by rw [h.1]; rfl) (fun _ U U' hal hh h => ⟨h.1, h.2.1.mv hal hh, h.2.2.1, h.2.2.2.1.mv hal hh, h.2.2.2.2⟩) (fun r U U' V V' h1 hal h2 h => Says01.mv r U U' V V' h1 hal h2 h) ?_
  intro p e s m args below meth c s₁ X0 hexec hbytes hml hret hlk hnm hown hh0 W hP
  obtain ⟨rfl, hA, tA, hB, tB⟩ := hP
  have a31 := hA.2.2.2
  have b31 := hB.2.2.2
  have hA0 := hA.mv X0.warmed.alike hh0
  have hB0 := hB.mv X0.warmed.alike hh0
  have c1 : Steps p.tables e below (s₁.setTop (entryFrame m #[.ref a, .ref b] 3)) (s₁.setTop (mkF m 0 #[.val (.ref a), .val (.ref b), .unset] [])) := entry rfl
  have c2 : Steps p.tables e below (s₁.setTop (entryFrame m #[.ref a, .ref b] 3)) (s₁.setTop (mkF m 4 #[.val (.ref a), .val (.ref b), .unset] [.int (Int32.ofNat B.slots.size), .int (Int32.ofNat A.slots.size)])) := c1.trans (by
    refine XS.aloadN X0.here hexec rfl (hb hbytes d0) rfl rfl ?_
    refine X0.alen hexec hA0 rfl rfl (hb hbytes d1) ?_
    refine XS.aloadN X0.here hexec rfl (hb hbytes d2) rfl rfl ?_
    refine X0.alen hexec hB0 rfl rfl (hb hbytes d3) ?_
    exact Steps.refl _)
  by_cases hs : A.slots.size = B.slots.size
  · have c3 : Steps p.tables e below (s₁.setTop (entryFrame m #[.ref a, .ref b] 3)) (s₁.setTop (mkF m 9 #[.val (.ref a), .val (.ref b), .val (.int 0)] [])) := c2.trans (by
      refine XS.icmpNo X0.here hexec rfl (hb hbytes d4) rfl (ii_ne_f (by rw [hs])) ?_
      refine iconstV X0.here hexec rfl 0 (hb hbytes d7) (by decide) ?_
      refine XS.istoreN X0.here hexec rfl (hb hbytes d8) rfl rfl ?_
      exact Steps.refl _)
    have loop : ∀ (r i : Nat), i + r = A.slots.size → (∀ j, j < i → yv A j = yv B j) → Steps p.tables e below (s₁.setTop (entryFrame m #[.ref a, .ref b] 3)) (s₁.setTop (mkF m 9 #[.val (.ref a), .val (.ref b), .val (.int (Int32.ofNat i))] [])) → ∃ (pc : Nat) (Ls : Array Slot) (v : Int32), (pc = 25 ∨ pc = 33) ∧ ((v = 1 ∧ EqC A B) ∨ (v = 0 ∧ ¬ EqC A B)) ∧ Steps p.tables e below (s₁.setTop (entryFrame m #[.ref a, .ref b] 3)) (s₁.setTop (mkF m pc Ls [.int v])) := by
      intro r
      induction r with
      | zero =>
        intro i hi he cl
        exact ⟨33, _, 1, Or.inr rfl, Or.inl ⟨rfl, hs, fun j hj => he j (by omega)⟩, cl.trans (by
          refine XS.iloadN X0.here hexec rfl (hb hbytes d9) rfl ?_
          refine XS.aloadN X0.here hexec rfl (hb hbytes d10) rfl rfl ?_
          refine X0.alen hexec hA0 rfl rfl (hb hbytes d11) ?_
          refine XS.icmpYes X0.here hexec rfl (pc0 := 12) rfl (hb hbytes d12) rfl (ii_ge_t (nlt32 (by omega) (by omega))) (by decide) rfl ?_
          refine iconstV X0.here hexec rfl 1 (hb hbytes d32) (by decide) ?_
          exact Steps.refl _)⟩
      | succ r ih =>
        intro i hi he cl
        have c4 : Steps p.tables e below (s₁.setTop (entryFrame m #[.ref a, .ref b] 3)) (s₁.setTop (mkF m 21 #[.val (.ref a), .val (.ref b), .val (.int (Int32.ofNat i))] [.int (yv B i), .int (yv A i)])) := cl.trans (by
          refine XS.iloadN X0.here hexec rfl (hb hbytes d9) rfl ?_
          refine XS.aloadN X0.here hexec rfl (hb hbytes d10) rfl rfl ?_
          refine X0.alen hexec hA0 rfl rfl (hb hbytes d11) ?_
          refine XS.icmpNo X0.here hexec rfl (hb hbytes d12) rfl (ii_ge_f (lt32 (by omega) (by omega))) ?_
          refine XS.aloadN X0.here hexec rfl (hb hbytes d15) rfl rfl ?_
          refine XS.iloadN X0.here hexec rfl (hb hbytes d16) rfl ?_
          refine X0.aget hexec hA0 rfl (yv_get hA tA (i := i) (by omega)) rfl rfl (hb hbytes d17) ?_
          refine XS.aloadN X0.here hexec rfl (hb hbytes d18) rfl rfl ?_
          refine XS.iloadN X0.here hexec rfl (hb hbytes d19) rfl ?_
          refine X0.aget hexec hB0 rfl (yv_get hB tB (i := i) (by omega)) rfl rfl (hb hbytes d20) ?_
          exact Steps.refl _)
        by_cases hv : yv A i = yv B i
        · have c5 : Steps p.tables e below (s₁.setTop (entryFrame m #[.ref a, .ref b] 3)) (s₁.setTop (mkF m 9 #[.val (.ref a), .val (.ref b), .val (.int (Int32.ofNat i + 1))] [])) := c4.trans (by
            refine XS.icmpYes X0.here hexec rfl (pc0 := 21) rfl (hb hbytes d21) rfl (ii_eq_t hv) (by decide) rfl ?_
            refine iincV X0.here hexec rfl 1 (hb hbytes d26) (by decide) rfl rfl ?_
            refine XS.goto X0.here hexec rfl (pc0 := 29) rfl (hb hbytes d29) (by decide) rfl ?_
            exact Steps.refl _)
          rw [succ32] at c5
          exact ih (i + 1) (by omega) (fun j hj => by
            by_cases e : j = i
            · rw [e]; exact hv
            · exact he j (by omega)) c5
        · exact ⟨25, _, 0, Or.inl rfl, Or.inr ⟨rfl, fun q => hv (q.2 i (by omega))⟩, c4.trans (by
            refine XS.icmpNo X0.here hexec rfl (hb hbytes d21) rfl (ii_eq_f hv) ?_
            refine iconstV X0.here hexec rfl 0 (hb hbytes d24) (by decide) ?_
            exact Steps.refl _)⟩
    obtain ⟨pc, Ls, v, hpc, hv, cz⟩ := loop A.slots.size 0 (by omega) (fun j hj => absurd hj (Nat.not_lt_zero j)) c3
    have nv : narrow .boolean (.int v) = .int v := by rcases hv with ⟨rfl, -⟩ | ⟨rfl, -⟩ <;> rfl
    rcases hpc with rfl | rfl
    · exact ⟨s₁, some (.int v), _, _, _, X0, rfl, rfl, rfl, (fun h => by cases h), ⟨v, rfl, hh0, hv⟩, fun fs hl => cz.trans (X0.ireturnOut hexec hret nv (Or.inr (Or.inl rfl)) (hb hbytes d25) hl)⟩
    · exact ⟨s₁, some (.int v), _, _, _, X0, rfl, rfl, rfl, (fun h => by cases h), ⟨v, rfl, hh0, hv⟩, fun fs hl => cz.trans (X0.ireturnOut hexec hret nv (Or.inr (Or.inl rfl)) (hb hbytes d33) hl)⟩
  · have c3 : Steps p.tables e below (s₁.setTop (entryFrame m #[.ref a, .ref b] 3)) (s₁.setTop (mkF m 35 #[.val (.ref a), .val (.ref b), .unset] [.int 0])) := c2.trans (by
      refine XS.icmpYes X0.here hexec rfl (pc0 := 4) rfl (hb hbytes d4) rfl (ii_ne_t (ne32 a31 b31 hs)) (by decide) rfl ?_
      refine iconstV X0.here hexec rfl 0 (hb hbytes d34) (by decide) ?_
      exact Steps.refl _)
    exact ⟨s₁, some (.int 0), _, _, _, X0, rfl, rfl, rfl, (fun h => by cases h), ⟨0, rfl, hh0, Or.inr ⟨rfl, fun q => hs q.1⟩⟩, fun fs hl => c3.trans (X0.ireturnOut hexec hret rfl (Or.inr (Or.inl rfl)) (hb hbytes d35) hl)⟩
end LEq
theorem Cod.ty {cd : Int32} {n : Nat} {f : Nat → Int32} {V : Cell} (h : Cod cd n f V) : Typed .byte V := fun i v hv => by
  have hi : i < V.slots.size := (Array.getElem?_eq_some_iff.mp hv).1
  rcases h with ⟨-, k1, k2⟩ | ⟨-, k1, k2, -⟩
  · rw [(k2 i (by omega)).1] at hv; cases hv; exact fits_lo8 _
  · rcases Nat.mod_two_eq_zero_or_one i with e | e
    · obtain ⟨j, rfl⟩ : ∃ j, i = 2 * j := ⟨i / 2, by omega⟩
      rw [(k2 j (by omega)).1] at hv; cases hv; exact fits_lo8 _
    · obtain ⟨j, rfl⟩ : ∃ j, i = 2 * j + 1 := ⟨i / 2, by omega⟩
      rw [(k2 j (by omega)).2] at hv; cases hv; exact fits_lo8 _
/-- the same text -/
def SameT (n : Nat) (f : Nat → Int32) (k : Nat) (g : Nat → Int32) : Prop := n = k ∧ ∀ j, j < n → f j = g j
theorem lo8_inj {x y : Int32} (h0 : ¬ x < 0) (h1 : ¬ 255 < x) (k0 : ¬ y < 0) (k1 : ¬ 255 < y) (h : lo8 x = lo8 y) : x = y := by
  rw [← lo8_mask h0 h1, ← lo8_mask k0 k1, h]
/-- arrays coded by one coder are equal just where the texts are -/
theorem Cod.eqv {cd : Int32} {n k : Nat} {f g : Nat → Int32} {V V' : Cell} (h : Cod cd n f V) (h' : Cod cd k g V') (hf : ∀ j, j < n → ¬ f j < 0 ∧ ¬ 65535 < f j) (hg : ∀ j, j < k → ¬ g j < 0 ∧ ¬ 65535 < g j) : EqC V V' ↔ SameT n f k g := by
  have yvv : ∀ {W : Cell} {i : Nat} {x : Int32}, W.slots[i]? = some (.int x) → yv W i = x := fun q => by unfold yv; rw [q]
  rcases h with ⟨rfl, k1, k2⟩ | ⟨rfl, k1, k2, -⟩
  · rcases h' with ⟨-, m1, m2⟩ | ⟨e, -⟩
    · constructor
      · rintro ⟨e1, e2⟩
        refine ⟨by omega, fun j hj => ?_⟩
        have q := e2 j (by omega)
        rw [yvv (k2 j hj).1, yvv (m2 j (by omega)).1] at q
        exact lo8_inj (hf j hj).1 (k2 j hj).2 (hg j (by omega)).1 (m2 j (by omega)).2 q
      · rintro ⟨rfl, e2⟩
        refine ⟨by omega, fun j hj => ?_⟩
        rw [yvv (k2 j (by omega)).1, yvv (m2 j (by omega)).1, e2 j (by omega)]
    · exact absurd e (by decide)
  · rcases h' with ⟨e, -⟩ | ⟨-, m1, m2, -⟩
    · exact absurd e (by decide)
    · constructor
      · rintro ⟨e1, e2⟩
        refine ⟨by omega, fun j hj => ?_⟩
        have q1 := e2 (2 * j) (by omega)
        have q2 := e2 (2 * j + 1) (by omega)
        rw [yvv (k2 j hj).1, yvv (m2 j (by omega)).1] at q1
        rw [yvv (k2 j hj).2, yvv (m2 j (by omega)).2] at q2
        rw [← pair_says (hf j hj).1 (hf j hj).2, ← pair_says (hg j (by omega)).1 (hg j (by omega)).2, q1, q2]
      · rintro ⟨rfl, e2⟩
        refine ⟨by omega, fun i hi => ?_⟩
        rcases Nat.mod_two_eq_zero_or_one i with e | e
        · obtain ⟨j, rfl⟩ : ∃ j, i = 2 * j := ⟨i / 2, by omega⟩
          rw [yvv (k2 j (by omega)).1, yvv (m2 j (by omega)).1, e2 j (by omega)]
        · obtain ⟨j, rfl⟩ : ∃ j, i = 2 * j + 1 := ⟨i / 2, by omega⟩
          rw [yvv (k2 j (by omega)).2, yvv (m2 j (by omega)).2, e2 j (by omega)]
/-- two codings differ: so do the texts -/
theorem Cod.dif {cd cd' : Int32} {n k : Nat} {f g : Nat → Int32} {V V' : Cell} (h : Cod cd n f V) (h' : Cod cd' k g V') (hne : ¬ cd = cd') : ¬ SameT n f k g := by
  rintro ⟨rfl, e⟩
  rcases h with ⟨rfl, -, k2⟩ | ⟨rfl, -, -, j, hj, hw⟩
  · rcases h' with ⟨rfl, -⟩ | ⟨-, -, -, j, hj, hw⟩
    · exact hne rfl
    · exact (k2 j hj).2 (by rw [e j hj]; exact hw)
  · rcases h' with ⟨-, -, m2⟩ | ⟨rfl, -⟩
    · exact (m2 j hj).2 (by rw [← e j hj]; exact hw)
    · exact hne rfl
/-- an object of exactly C is an instance of C -/
theorem cinst {p : Program} {l : Launch} {e : Env} {R : Room} {s : State} {m : MethodId} {args : Array Value} {below : List Frame} {meth : Method} {c : Code} {T : State} {locs : List Loc} {cells slots : Nat} (X : Stand p l e R s m args below meth c T locs cells slots) (hexec : p.tables.exec = Jvm.exec) {own C : String} {index : Nat} (hown : s.vm.findClass own = some m.cls) (hlink : (Cond.classLink own index C).before args s = true) {a : Addr} (hE : Exact C a T)
    {g : JFrame} (hg : g.method = m) {rest : List Value} (hstack : g.stack = .ref a :: rest) (hdg : decode c.code g.pc = .ok (.instanceof index, 3)) :
    ∃ T', Stand p l e R s m args below meth c T' locs cells slots ∧ T'.heap = T.heap ∧ ∀ target, Steps p.tables e below (T'.setTop { g with pc := g.pc + 3, stack := .int 1 :: rest }) target → Steps p.tables e below (T.setTop g) target := by
  obtain ⟨cB, h1, D, h2, h3, h4⟩ := hE
  have h1' : s.vm.findClass C = some cB := by rw [← X.warmed.alike.findClass]; exact h1
  obtain ⟨vm', X', st⟩ := X.instanceofYes hexec hown hlink h2 h4 h1' (by rw [h3]; exact Jvm.Free.SB.assignable_self _ _) hg hstack hdg
  exact ⟨_, X', rfl, st⟩
theorem cself {p : Program} {l : Launch} {e : Env} {R : Room} {s : State} {m : MethodId} {args : Array Value} {below : List Frame} {meth : Method} {c : Code} {T : State} {locs : List Loc} {cells slots : Nat} (X : Stand p l e R s m args below meth c T locs cells slots) (hexec : p.tables.exec = Jvm.exec) {own C : String} {index : Nat} (hown : s.vm.findClass own = some m.cls) (hlink : (Cond.classLink own index C).before args s = true) {a : Addr} (hE : Exact C a T)
    {g : JFrame} (hg : g.method = m) {rest : List Value} (hstack : g.stack = .ref a :: rest) (hdg : decode c.code g.pc = .ok (.checkcast index, 3)) :
    ∃ T', Stand p l e R s m args below meth c T' locs cells slots ∧ T'.heap = T.heap ∧ ∀ target, Steps p.tables e below (T'.setTop { g with pc := g.pc + 3, stack := .ref a :: rest }) target → Steps p.tables e below (T.setTop g) target := by
  obtain ⟨cB, h1, D, h2, h3, h4⟩ := hE
  have h1' : s.vm.findClass C = some cB := by rw [← X.warmed.alike.findClass]; exact h1
  obtain ⟨vm', X', st⟩ := X.checkcastYes hexec hown hlink h2 h4 h1' (by rw [h3]; exact Jvm.Free.SB.assignable_self _ _) hg hstack hdg
  exact ⟨_, X', rfl, fun t h => st t (by rw [← hstack] at h; exact h)⟩
namespace SEq
def yN : MethodName := ⟨"java/lang/String", "equals", "(Ljava/lang/Object;)Z"⟩
abbrev yB : ByteArray := jdk_42_method_66_code
theorem d0 : decode yB 0 = .ok (.aload_n 0, 1) := by decide +kernel
theorem d1 : decode yB 1 = .ok (.aload_n 1, 1) := by decide +kernel
theorem d2 : decode yB 2 = .ok (.if_acmp (.ne) 5, 3) := by decide +kernel
theorem d5 : decode yB 5 = .ok (.iconst 1, 1) := by decide +kernel
theorem d6 : decode yB 6 = .ok (.ireturn, 1) := by decide +kernel
theorem d7 : decode yB 7 = .ok (.aload_n 1, 1) := by decide +kernel
theorem d8 : decode yB 8 = .ok (.instanceof 10, 3) := by decide +kernel
theorem d11 : decode yB 11 = .ok (.ifCond (.eq) 43, 3) := by decide +kernel
theorem d14 : decode yB 14 = .ok (.aload_n 1, 1) := by decide +kernel
theorem d15 : decode yB 15 = .ok (.checkcast 10, 3) := by decide +kernel
theorem d18 : decode yB 18 = .ok (.astore_n 2, 1) := by decide +kernel
theorem d19 : decode yB 19 = .ok (.getstatic 38, 3) := by decide +kernel
theorem d22 : decode yB 22 = .ok (.ifCond (.eq) 14, 3) := by decide +kernel
theorem d25 : decode yB 25 = .ok (.aload_n 0, 1) := by decide +kernel
theorem d26 : decode yB 26 = .ok (.getfield 15, 3) := by decide +kernel
theorem d29 : decode yB 29 = .ok (.aload_n 2, 1) := by decide +kernel
theorem d30 : decode yB 30 = .ok (.getfield 15, 3) := by decide +kernel
theorem d33 : decode yB 33 = .ok (.if_icmp (.ne) 21, 3) := by decide +kernel
theorem d36 : decode yB 36 = .ok (.aload_n 0, 1) := by decide +kernel
theorem d37 : decode yB 37 = .ok (.getfield 9, 3) := by decide +kernel
theorem d40 : decode yB 40 = .ok (.aload_n 2, 1) := by decide +kernel
theorem d41 : decode yB 41 = .ok (.getfield 9, 3) := by decide +kernel
theorem d44 : decode yB 44 = .ok (.invokestatic 541, 3) := by decide +kernel
theorem d47 : decode yB 47 = .ok (.ifCond (.eq) 7, 3) := by decide +kernel
theorem d50 : decode yB 50 = .ok (.iconst 1, 1) := by decide +kernel
theorem d51 : decode yB 51 = .ok (.goto 4, 3) := by decide +kernel
theorem d54 : decode yB 54 = .ok (.iconst 0, 1) := by decide +kernel
theorem d55 : decode yB 55 = .ok (.ireturn, 1) := by decide +kernel
def site : List Cond := [.classLink "java/lang/String" 10 "java/lang/String", .fieldLink "java/lang/String" 38 "java/lang/String" "COMPACT_STRINGS" "Z", .fieldLink "java/lang/String" 15 "java/lang/String" "coder" "B", .fieldLink "java/lang/String" 9 "java/lang/String" "value" "[B", LEq.tab] ++ staticW "java/lang/String" 541 LEq.yN
def tab : Cond := tabOf yN yB 3 (some .boolean) site
def P (x t : Addr) (V : Cell) (cd : Int32) (n : Nat) (f : Nat → Int32) (y t' : Addr) (V' : Cell) (cd' : Int32) (k : Nat) (g : Nat → Int32) (z : Int32) (args : Array Value) (s : State) : Prop := args = #[.ref x, .ref y] ∧ Txt x t V cd n f s ∧ Txt y t' V' cd' k g s ∧ StaticIs s "java/lang/String" "COMPACT_STRINGS" "Z" (.int z) ∧ ¬ z = 0
/-- equals(Object) of two Strings: whether the texts are the same -/
theorem law (l : Launch) (x t : Addr) (V : Cell) (cd : Int32) (n : Nat) (f : Nat → Int32) (y t' : Addr) (V' : Cell) (cd' : Int32) (k : Nat) (g : Nat → Int32) (z : Int32) : Law l yN 2 1 1 14 yB 3 (some .boolean) site (P x t V cd n f y t' V' cd' k g z) (Says01 (SameT n f k g)) [] 0 0 := by
  refine Law.of_walk (plainFor_of_name (by decide +kernel)) (by decide +kernel) (by decide +kernel) (by decide) (fun _ _ h => by rw [h.1]; rfl) (fun _ U U' hal hh h => ⟨h.1, h.2.1.mv hal hh, h.2.2.1.mv hal hh, h.2.2.2.1.there hal hh, h.2.2.2.2⟩) (fun r U U' V V' h1 hal h2 h => Says01.mv r U U' V V' h1 hal h2 h) ?_
  intro p e s m args below meth c s₁ X0 hexec hbytes hml hret hlk hnm hown hh0 W hP
  obtain ⟨rfl, hx, hy, s1, hz⟩ := hP
  have c1 : Steps p.tables e below (s₁.setTop (entryFrame m #[.ref x, .ref y] 3)) (s₁.setTop (mkF m 2 #[.val (.ref x), .val (.ref y), .unset] [.ref y, .ref x])) := Steps.trans (entry rfl) (by
    show Steps p.tables e below (s₁.setTop (mkF m 0 #[.val (.ref x), .val (.ref y), .unset] [])) _
    refine XS.aloadN X0.here hexec rfl (hb hbytes d0) rfl rfl ?_
    refine XS.aloadN X0.here hexec rfl (hb hbytes d1) rfl rfl ?_
    exact Steps.refl _)
  by_cases hxy : x = y
  · have c2 : Steps p.tables e below (s₁.setTop (entryFrame m #[.ref x, .ref y] 3)) (s₁.setTop (mkF m 6 #[.val (.ref x), .val (.ref y), .unset] [.int 1])) := c1.trans (by
      refine acmpNo X0.here hexec rfl (hb hbytes d2) rfl rfl rfl (by simp [acmp, hxy]) ?_
      refine iconstV X0.here hexec rfl 1 (hb hbytes d5) (by decide) ?_
      exact Steps.refl _)
    subst hxy
    have ec : cd = cd' := by
      obtain ⟨D, fd, a1, a2, a3⟩ := hx.2.2.1
      obtain ⟨D', fd', b1, b2, b3⟩ := hy.2.2.1
      cases a1.symm.trans b1
      obtain ⟨q1, q2, q3, q4⟩ := a2.1
      obtain ⟨r1, r2, r3, r4⟩ := b2.1
      cases q4.symm.trans r4
      cases a3.symm.trans b3; rfl
    have et : t = t' := by
      obtain ⟨D, fd, a1, a2, a3⟩ := hx.2.1
      obtain ⟨D', fd', b1, b2, b3⟩ := hy.2.1
      cases a1.symm.trans b1
      obtain ⟨q1, q2, q3, q4⟩ := a2.1
      obtain ⟨r1, r2, r3, r4⟩ := b2.1
      cases q4.symm.trans r4
      cases a3.symm.trans b3; rfl
    subst ec et
    have ev : V = V' := by cases hx.2.2.2.1.1.symm.trans hy.2.2.2.1.1; rfl
    subst ev
    have hs : SameT n f k g := (Cod.eqv hx.2.2.2.2.1 hy.2.2.2.2.1 hx.2.2.2.2.2 hy.2.2.2.2.2).mp ⟨rfl, fun _ _ => rfl⟩
    exact ⟨s₁, some (.int 1), _, _, _, X0, rfl, rfl, rfl, (fun h => by cases h), ⟨1, rfl, hh0, Or.inl ⟨rfl, hs⟩⟩, fun fs hl => c2.trans (X0.ireturnOut hexec hret rfl (Or.inr (Or.inl rfl)) (hb hbytes d6) hl)⟩
  · have c2 : Steps p.tables e below (s₁.setTop (entryFrame m #[.ref x, .ref y] 3)) (s₁.setTop (mkF m 8 #[.val (.ref x), .val (.ref y), .unset] [.ref y])) := c1.trans (by
      refine acmpYes X0.here hexec rfl (pc0 := 2) rfl (hb hbytes d2) rfl rfl rfl (by simp [acmp, hxy]) (by decide) rfl ?_
      refine XS.aloadN X0.here hexec rfl (hb hbytes d7) rfl rfl ?_
      exact Steps.refl _)
    obtain ⟨T3, X3, q3, st3⟩ := cinst X0 hexec hown (wk W (.classLink "java/lang/String" 10 "java/lang/String")) (hy.mv X0.warmed.alike hh0).1 (g := (mkF m 8 #[.val (.ref x), .val (.ref y), .unset] [.ref y])) rfl (rest := []) rfl (hb hbytes d8)
    have hh3 := q3.trans hh0
    have c4 : Steps p.tables e below (s₁.setTop (entryFrame m #[.ref x, .ref y] 3)) (T3.setTop (mkF m 15 #[.val (.ref x), .val (.ref y), .unset] [.ref y])) := (c2.trans (st3 _ (Steps.refl _))).trans (by
      refine XS.ifNo X3.here hexec rfl (hb hbytes d11) rfl (i0_eq_f (by decide)) ?_
      refine XS.aloadN X3.here hexec rfl (hb hbytes d14) rfl rfl ?_
      exact Steps.refl _)
    obtain ⟨T5, X5, q5, st5⟩ := cself X3 hexec hown (wk W (.classLink "java/lang/String" 10 "java/lang/String")) (hy.mv X3.warmed.alike hh3).1 (g := (mkF m 15 #[.val (.ref x), .val (.ref y), .unset] [.ref y])) rfl (rest := []) rfl (hb hbytes d15)
    have hh5 := q5.trans hh3
    have c6 : Steps p.tables e below (s₁.setTop (entryFrame m #[.ref x, .ref y] 3)) (T5.setTop (mkF m 19 #[.val (.ref x), .val (.ref y), .val (.ref y)] [])) := (c4.trans (st5 _ (Steps.refl _))).trans (by
      refine XS.astoreN X5.here hexec rfl (hb hbytes d18) rfl rfl rfl ?_
      exact Steps.refl _)
    obtain ⟨T7, X7, q7, st7⟩ := X5.sget hexec hown (wk W (.fieldLink "java/lang/String" 38 "java/lang/String" "COMPACT_STRINGS" "Z")) s1 (fun _ _ h => by rw [hh5]; exact h) (g := (mkF m 19 #[.val (.ref x), .val (.ref y), .val (.ref y)] [])) rfl (hb hbytes d19)
    have hh7 := q7.trans hh5
    have c8 : Steps p.tables e below (s₁.setTop (entryFrame m #[.ref x, .ref y] 3)) (T7.setTop (mkF m 26 #[.val (.ref x), .val (.ref y), .val (.ref y)] [.ref x])) := (c6.trans (st7 _ (Steps.refl _))).trans (by
      refine XS.ifNo X7.here hexec rfl (hb hbytes d22) rfl (i0_eq_f hz) ?_
      refine XS.aloadN X7.here hexec rfl (hb hbytes d25) rfl rfl ?_
      exact Steps.refl _)
    obtain ⟨T9, X9, q9, st9⟩ := X7.hget hexec hown (wk W (.fieldLink "java/lang/String" 15 "java/lang/String" "coder" "B")) (hx.mv X7.warmed.alike hh7).2.2.1 (g := (mkF m 26 #[.val (.ref x), .val (.ref y), .val (.ref y)] [.ref x])) rfl (rest := []) rfl (hb hbytes d26)
    have hh9 := q9.trans hh7
    have c10 : Steps p.tables e below (s₁.setTop (entryFrame m #[.ref x, .ref y] 3)) (T9.setTop (mkF m 30 #[.val (.ref x), .val (.ref y), .val (.ref y)] [.ref y, .int cd])) := (c8.trans (st9 _ (Steps.refl _))).trans (by
      refine XS.aloadN X9.here hexec rfl (hb hbytes d29) rfl rfl ?_
      exact Steps.refl _)
    obtain ⟨T11, X11, q11, st11⟩ := X9.hget hexec hown (wk W (.fieldLink "java/lang/String" 15 "java/lang/String" "coder" "B")) (hy.mv X9.warmed.alike hh9).2.2.1 (g := (mkF m 30 #[.val (.ref x), .val (.ref y), .val (.ref y)] [.ref y, .int cd])) rfl (rest := [.int cd]) rfl (hb hbytes d30)
    have hh11 := q11.trans hh9
    have c12 : Steps p.tables e below (s₁.setTop (entryFrame m #[.ref x, .ref y] 3)) (T11.setTop (mkF m 33 #[.val (.ref x), .val (.ref y), .val (.ref y)] [.int cd', .int cd])) := c10.trans (st11 _ (Steps.refl _))
    by_cases hcd : cd = cd'
    · subst hcd
      have c13 : Steps p.tables e below (s₁.setTop (entryFrame m #[.ref x, .ref y] 3)) (T11.setTop (mkF m 37 #[.val (.ref x), .val (.ref y), .val (.ref y)] [.ref x])) := c12.trans (by
        refine XS.icmpNo X11.here hexec rfl (hb hbytes d33) rfl (ii_ne_f rfl) ?_
        refine XS.aloadN X11.here hexec rfl (hb hbytes d36) rfl rfl ?_
        exact Steps.refl _)
      obtain ⟨T14, X14, q14, st14⟩ := X11.hget hexec hown (wk W (.fieldLink "java/lang/String" 9 "java/lang/String" "value" "[B")) (hx.mv X11.warmed.alike hh11).2.1 (g := (mkF m 37 #[.val (.ref x), .val (.ref y), .val (.ref y)] [.ref x])) rfl (rest := []) rfl (hb hbytes d37)
      have hh14 := q14.trans hh11
      have c15 : Steps p.tables e below (s₁.setTop (entryFrame m #[.ref x, .ref y] 3)) (T14.setTop (mkF m 41 #[.val (.ref x), .val (.ref y), .val (.ref y)] [.ref y, .ref t])) := (c13.trans (st14 _ (Steps.refl _))).trans (by
        refine XS.aloadN X14.here hexec rfl (hb hbytes d40) rfl rfl ?_
        exact Steps.refl _)
      obtain ⟨T16, X16, q16, st16⟩ := X14.hget hexec hown (wk W (.fieldLink "java/lang/String" 9 "java/lang/String" "value" "[B")) (hy.mv X14.warmed.alike hh14).2.1 (g := (mkF m 41 #[.val (.ref x), .val (.ref y), .val (.ref y)] [.ref y, .ref t])) rfl (rest := [.ref t]) rfl (hb hbytes d41)
      have hh16 := q16.trans hh14
      have c17 : Steps p.tables e below (s₁.setTop (entryFrame m #[.ref x, .ref y] 3)) (T16.setTop (mkF m 44 #[.val (.ref x), .val (.ref y), .val (.ref y)] [.ref t', .ref t])) := c15.trans (st16 _ (Steps.refl _))
      obtain ⟨v18, T18, X18, E18, g18⟩ := X16.callS hexec (LEq.law l t V t' V') hown (wks W (staticW "java/lang/String" 541 LEq.yN)) (wk W LEq.tab) (W := 0) (Nat.le_of_ble_eq_true rfl) (Nat.le_of_ble_eq_true rfl) (Nat.le_refl _) (Nat.le_refl _) (g := (mkF m 44 #[.val (.ref x), .val (.ref y), .val (.ref y)] [.ref t', .ref t])) rfl (by rw [hml]; rfl) c17 (argsL := [.ref t, .ref t']) (rest := []) rfl rfl (by show 2 * 0 + 0 ≤ _; decide) (hb hbytes d44) (⟨rfl, hx.2.2.2.1.mv X16.warmed.alike hh16, hx.2.2.2.2.1.ty, hy.2.2.2.1.mv X16.warmed.alike hh16, hy.2.2.2.2.1.ty⟩)
      obtain ⟨v, rfl, q18, hv⟩ := E18
      have iff := Cod.eqv hx.2.2.2.2.1 hy.2.2.2.2.1 hx.2.2.2.2.2 hy.2.2.2.2.2
      rcases hv with ⟨rfl, he⟩ | ⟨rfl, he⟩
      · have c19 : Steps p.tables e below (s₁.setTop (entryFrame m #[.ref x, .ref y] 3)) (T18.setTop (mkF m 55 #[.val (.ref x), .val (.ref y), .val (.ref y)] [.int 1])) := Steps.trans g18 (by
          refine XS.ifNo X18.here hexec rfl (hb hbytes d47) rfl (i0_eq_f (by decide)) ?_
          refine iconstV X18.here hexec rfl 1 (hb hbytes d50) (by decide) ?_
          refine XS.goto X18.here hexec rfl (pc0 := 51) rfl (hb hbytes d51) (by decide) rfl ?_
          exact Steps.refl _)
        exact ⟨T18, some (.int 1), _, _, _, X18, rfl, rfl, rfl, (fun h => by cases h), ⟨1, rfl, q18.trans hh16, Or.inl ⟨rfl, iff.mp he⟩⟩, fun fs hl => c19.trans (X18.ireturnOut hexec hret rfl (Or.inr (Or.inl rfl)) (hb hbytes d55) hl)⟩
      · have c19 : Steps p.tables e below (s₁.setTop (entryFrame m #[.ref x, .ref y] 3)) (T18.setTop (mkF m 55 #[.val (.ref x), .val (.ref y), .val (.ref y)] [.int 0])) := Steps.trans g18 (by
          refine XS.ifYes X18.here hexec rfl (pc0 := 47) rfl (hb hbytes d47) rfl (i0_eq_t rfl) (by decide) rfl ?_
          refine iconstV X18.here hexec rfl 0 (hb hbytes d54) (by decide) ?_
          exact Steps.refl _)
        exact ⟨T18, some (.int 0), _, _, _, X18, rfl, rfl, rfl, (fun h => by cases h), ⟨0, rfl, q18.trans hh16, Or.inr ⟨rfl, fun q => he (iff.mpr q)⟩⟩, fun fs hl => c19.trans (X18.ireturnOut hexec hret rfl (Or.inr (Or.inl rfl)) (hb hbytes d55) hl)⟩
    · have c13 : Steps p.tables e below (s₁.setTop (entryFrame m #[.ref x, .ref y] 3)) (T11.setTop (mkF m 55 #[.val (.ref x), .val (.ref y), .val (.ref y)] [.int 0])) := c12.trans (by
        refine XS.icmpYes X11.here hexec rfl (pc0 := 33) rfl (hb hbytes d33) rfl (ii_ne_t hcd) (by decide) rfl ?_
        refine iconstV X11.here hexec rfl 0 (hb hbytes d54) (by decide) ?_
        exact Steps.refl _)
      exact ⟨T11, some (.int 0), _, _, _, X11, rfl, rfl, rfl, (fun h => by cases h), ⟨0, rfl, hh11, Or.inr ⟨rfl, Cod.dif hx.2.2.2.2.1 hy.2.2.2.2.1 hcd⟩⟩, fun fs hl => c13.trans (X11.ireturnOut hexec hret rfl (Or.inr (Or.inl rfl)) (hb hbytes d55) hl)⟩
theorem pays {l : Launch} {R : Room} {p : Program} {e : Env} {below : List Frame} {s : State} {sargs : Array Value} {len W : Nat} (x t : Addr) (V : Cell) (cd : Int32) (n : Nat) (f : Nat → Int32) (y t' : Addr) (V' : Cell) (cd' : Int32) (k : Nat) (g : Nat → Int32) (z : Int32) (htab : tab.before sargs s = true) (hfr : 2 ≤ R.frames) (hlo : W + 28 ≤ R.locals) :
    Back l R p e below s sargs yN len W (fun A₁ a₁ => A₁.cells + 0 ≤ R.cells ∧ A₁.slots + 0 ≤ R.slots ∧ P x t V cd n f y t' V' cd' k g z a₁ A₁.U) (fun A₁ _ v₁ B₁ => Says01 (SameT n f k g) v₁ A₁.U B₁.U ∧ B₁.locs = A₁.locs ++ [] ∧ B₁.cells = A₁.cells + 0 ∧ B₁.slots = A₁.slots + 0) :=
  (law l x t V cd n f y t' V' cd' k g z).pays htab hfr (by omega)
end SEq
end StrChars
namespace StrChars.Road
open Jvm Sem ClassFile Op Lib Jvm.Stand Jvm.Free Jvm.Free.XT
open Jvm.Lib.Cold (StaticIs)
/-- the words of String.equals(Object) -/
abbrev wordsEq : List Jvm.Cond := [.code SEq.yN SEq.yB 3 (some .boolean), .initialized ST, .classLink ST 10 ST, .fieldLink ST 38 ST "COMPACT_STRINGS" "Z", .fieldLink ST 15 ST "coder" "B", .fieldLink ST 9 ST "value" "[B", .methodLink ST 541 LEq.yN, .static LEq.yN, .code LEq.yN LEq.yB 3 (some .boolean), .initialized "java/lang/StringLatin1"]
theorem tabEq_of {a : Array Value} {s : State} (h : ∀ w ∈ wordsEq, w.before a s = true) : SEq.tab.before a s = true := by
  have hl : LEq.tab.before a s = true := unparts (wk h (.code LEq.yN LEq.yB 3 (some .boolean))) (wks h (.initialized LEq.yN.cls :: LEq.site))
  have q := consq hl h
  exact unparts (wk q (.code SEq.yN SEq.yB 3 (some .boolean))) (wks q (.initialized SEq.yN.cls :: SEq.site))
theorem movedEq {Z s : State} {a0 args : Array Value} (hZ : Z.Warmed39 s.vm) (hw : ∀ d ∈ wordsEq, d.before a0 Z = true) : ∀ d ∈ wordsEq, d.before args s = true := fun d hd => by
  have t : ∀ d ∈ wordsEq, (d.onTables && d.keepsFace) = true := by decide +kernel
  exact RoadKit.mv hZ (hw d hd) (t d hd)
/-- the road's facts of a String, as the laws ask it -/
theorem txt_of {Z U : State} {a0 : Array Value} {kI : Nat} (wi : (Jvm.Cond.instantiable ST kI).before a0 Z = true) (al : Z.vm.Alike U.vm) {x t : Addr} {kb : ClassId} {cs : List Int32} {cd N2 : Int32} {vs : List Value} (E : RoadKit.Exa Z U.heap x ST) (V : RoadKit.Fld Z U.heap x ST "value" "[B" (.ref t)) (C : RoadKit.Fld Z U.heap x ST "coder" "B" (.int cd)) (K : RoadKit.Arv Z U.heap t kb .byte N2 vs (.int 0)) (hc : CodA cs cd N2 vs) (hb : ∀ c ∈ cs, ¬ c < 0 ∧ ¬ (65535 : Int32) < c) (l2 : cs.length ≤ 4000) :
    ∃ A, Txt x t A cd cs.length (fun j => cs.getD j 0) U := by
  obtain ⟨A, K1, K2, K3, K4, K5, K6⟩ := K
  have hcod := hc.cod (by omega) K3 K5
  obtain ⟨D, fV, fC, hB, F1, F2, g1, g2, -, -⟩ := strObj wi al E V C
  exact ⟨A, ⟨_, hB.2.2.1, D, hB.1, rfl, by cases q : D.vm <;> first | rfl | exact absurd q (hB.2.1.2 _)⟩, Has.of hB F1 g1, Has.of hB F2 g2, ⟨K1.1, State.isArrayOf_alike al K1.2.1, K1.2.2, by rcases hcod with ⟨-, q, -⟩ | ⟨-, q, -⟩ <;> omega⟩, hcod, fun j hj => by
    have e : cs.getD j 0 = cs[j] := by simp [List.getD_eq_getElem?_getD, hj]
    show ¬ cs.getD j 0 < 0 ∧ ¬ 65535 < cs.getD j 0
    rw [e]; exact hb _ (List.getElem_mem _)⟩
theorem same_list (cs ds : List Int32) : SameT cs.length (fun j => cs.getD j 0) ds.length (fun j => ds.getD j 0) ↔ cs = ds := by
  constructor
  · rintro ⟨e, q⟩
    refine List.ext_getElem e fun j h1 h2 => ?_
    have := q j h1
    simpa [List.getD_eq_getElem?_getD, h1, h2] using this
  · rintro rfl
    exact ⟨rfl, fun _ _ => rfl⟩
/-- **equals(Object) OF TWO SUCH STRINGS**: 1 just where the chars are the same -/
theorem eqW {p : Program} {l : Launch} {e : Env} {R : Room} {s : State} {args : Array Value} {below : List Frame} {len W : Nat} {Z : State} {a0 : Array Value} {h : Heap} (hZ : Z.Warmed39 s.vm) (hw : ∀ d ∈ wordsEq, d.before a0 Z = true) {kI : Nat} (wi : (Jvm.Cond.instantiable ST kI).before a0 Z = true)
    {x t : Addr} {kb : ClassId} {cs : List Int32} {cd N2 : Int32} {vs : List Value} (E : RoadKit.Exa Z h x ST) (V : RoadKit.Fld Z h x ST "value" "[B" (.ref t)) (C : RoadKit.Fld Z h x ST "coder" "B" (.int cd)) (K : RoadKit.Arv Z h t kb .byte N2 vs (.int 0)) (hc : CodA cs cd N2 vs) (hb : ∀ c ∈ cs, ¬ c < 0 ∧ ¬ (65535 : Int32) < c) (l2 : cs.length ≤ 4000)
    {y t' : Addr} {kb' : ClassId} {ds : List Int32} {cd' N2' : Int32} {vs' : List Value} (E' : RoadKit.Exa Z h y ST) (V' : RoadKit.Fld Z h y ST "value" "[B" (.ref t')) (C' : RoadKit.Fld Z h y ST "coder" "B" (.int cd')) (K' : RoadKit.Arv Z h t' kb' .byte N2' vs' (.int 0)) (hc' : CodA ds cd' N2' vs') (hb' : ∀ c ∈ ds, ¬ c < 0 ∧ ¬ (65535 : Int32) < c) (l2' : ds.length ≤ 4000)
    {z : Int32} (S : RoadKit.Sta Z h ST "COMPACT_STRINGS" "Z" (.int z)) (hz : ¬ z = 0) (hfr : 2 ≤ R.frames) (hlo : W + 28 ≤ R.locals) :
    Back l R p e below s args (⟨"java/lang/String", "equals", "(Ljava/lang/Object;)Z"⟩ : MethodName) len W (fun P a => a = #[.ref x, .ref y] ∧ P.U.heap = h ∧ P.cells + 0 ≤ R.cells ∧ P.slots + 0 ≤ R.slots)
      (fun P _ v B => ∃ L, (((v = some (.int 1) ∧ cs = ds) ∨ (v = some (.int 0) ∧ ¬ cs = ds)) ∧ L = [] ∧ B.U.heap = h) ∧ B.locs = P.locs ++ L ∧ B.cells = P.cells + 0 ∧ B.slots = P.slots + 0) := by
  intro m meth c P g ig mk a X hg hsize hdg hW hn hp'
  obtain ⟨rfl, rfl, r1, r2⟩ := hp'
  have al : Z.vm.Alike P.U.vm := hZ.alike.trans X.warmed.alike
  obtain ⟨A, hx⟩ := txt_of wi al E V C K hc hb l2
  obtain ⟨A', hy⟩ := txt_of wi al E' V' C' K' hc' hb' l2'
  obtain ⟨v, B, X', ⟨⟨w, hv, hh, hq⟩, hl, hk, hs⟩, st⟩ := SEq.pays x t A cd cs.length (fun j => cs.getD j 0) y t' A' cd' ds.length (fun j => ds.getD j 0) z (tabEq_of (movedEq hZ hw)) hfr hlo m meth c P g ig mk _ X hg hsize hdg hW hn ⟨r1, r2, rfl, hx, hy, sta_is al S, hz⟩
  refine ⟨v, B, X', ⟨[], ⟨?_, rfl, hh⟩, hl, hk, hs⟩, st⟩
  rcases hq with ⟨rfl, q⟩ | ⟨rfl, q⟩
  · exact Or.inl ⟨hv, (same_list cs ds).mp q⟩
  · exact Or.inr ⟨hv, fun e => q ((same_list cs ds).mpr e)⟩
end StrChars.Road
end Jvm.Pilot.@@N@@
namespace Jvm.Pilot.@@N@@
open Jvm Jvm.ClassFile Sem Op Lib Jvm.Free Jvm.Stand Jvm.LawKit Jvm.RoadKit Bundle Jvm.Pilot.@@N@@.Jvm.D
def Rch (p : Program) (e : Env) (below : List Frame) (S0 T : State) (g : JFrame) : Prop := ∀ t, Steps p.tables e below (T.setTop g) t → Steps p.tables e below S0 t
theorem own_le {Z : State} {n0 : Nat} {h : Heap} (O : Old Z n0 h) : n0 ≤ h.size := O.1 ▸ O.2.1
theorem own_ge {Z : State} {n0 : Nat} {h : Heap} {x : Nat} (O : Old Z n0 h) (g : h.size ≤ x) : n0 ≤ x := Nat.le_trans (own_le O) g
theorem own_ne {y x k : Nat} (h : y < k) (g : k ≤ x) : y ≠ x := Nat.ne_of_lt (Nat.lt_of_lt_of_le h g)
section Own
variable {p : Program} {l : Launch} {e : Env} {R : Room} {s : State} {m : MethodId} {args : Array Value} {below : List Frame} {meth : Method} {c : Code} {T : State} {locs : List Loc} {cells slots : Nat}
def Like (X : Stand p l e R s m args below meth c T locs cells slots) (T' : State) : Prop := Stand p l e R s m args below meth c T' locs cells slots
theorem Like.out {X : Stand p l e R s m args below meth c T locs cells slots} {T' : State} (h : Like X T') : Stand p l e R s m args below meth c T' locs cells slots := h
end Own
theorem own_eqi {args : Array Value} {first s : State} {o : Option Outcome} {idx : List Nat} {a : Term} {n : Int32} (h : (Jvm.Cond.eq a (Jvm.Term.int n)).value args first o s idx = some true) : a.eval args first o idx s = some (.int n) := by
  simp only [Cond.value, Term.int_eval] at h
  cases ha : a.eval args first o idx s with
  | none => simp [ha] at h
  | some x => cases x <;> simp [ha] at h ⊢; exact h
theorem own_eqr {args : Array Value} {first s : State} {o : Option Outcome} {idx : List Nat} {a b : Term} {w : Addr} (eb : b.eval args first o idx s = some (.ref w)) (h : (Jvm.Cond.eq a b).value args first o s idx = some true) : a.eval args first o idx s = some (.ref w) := by
  simp only [Cond.value, eb] at h
  cases ha : a.eval args first o idx s with
  | none => simp [ha] at h
  | some x => cases x <;> simp [ha] at h ⊢; exact h
theorem own_ext {h h' : Heap} (K : Keep h h' []) : Ext h h' := ⟨K.1, fun a c q => K.2.1 a c q nin0⟩
theorem own_safe_null {Z : State} {EL : List (String × Nat)} {vm : Vm} {h : Heap} {x : Addr} {a0 : Array Value} {kI : Nat} (hal : Z.vm.Alike vm) (E : Exa Z h x "java/lang/String") (F : Fld Z h x "java/lang/String" "value" "[B" .null) (wi : (Jvm.Cond.instantiable "java/lang/String" kI).before a0 Z = true) : Safe Z EL vm h x := fun B => by
  obtain ⟨cell, k, e1, e2, e3, -, -⟩ := E
  obtain ⟨p, -, u, a, -, q, -, S, rfl | rfl⟩ := B
  · cases (show h[q.sa]? = some q.sC from S.ha).symm.trans e1
    obtain ⟨cS, ⟨⟨-, -, -, ⟨c, kf, i, ff, -⟩, -, -, -, hv, -⟩, -, -⟩, -⟩ := S
    obtain ⟨cell', cf, k', i', f', g1, g2, g3, g4, g5, g6, g7⟩ := F
    cases e1.symm.trans g1
    obtain ⟨k'', hi, -⟩ := State.fieldFound?_setVm (s := Z) hal g2
    have ff' : (Z.setVm vm).fieldFound? "java/lang/String" "value" "[B" = some (c, kf, i, q.fSV) := ff
    cases ff'.symm.trans hi
    rw [g7] at hv; cases hv
  · cases (show h[q.sd]? = some q.SA from S.hd).symm.trans e1
    obtain ⟨cS, ⟨⟨-, -, -, -, -, -, -, -, -, -, ⟨-, kB, hkB, compB, hkindB⟩, -⟩, -, -⟩, -⟩ := S
    obtain ⟨c2, k2, i1, i2, i3, -⟩ := Cond.instantiable_spec wi
    cases e2.symm.trans i1
    cases e3.symm.trans i2
    obtain ⟨k', hk', ek⟩ := hal.2.2 _ _ e3
    cases (show vm.classes[q.SA.cls]? = some kB from hkB).symm.trans hk'
    rw [ek] at hkindB
    cases (hkindB.symm.trans i3)
theorem own_255 (x : Int32) : ¬ (x &&& 255) < 0 ∧ ¬ (255 : Int32) < (x &&& 255) := by
  have h := c_mask x 255 8 (by decide) (by decide)
  constructor
  · rw [Int32.lt_iff_toInt_lt]; have e : (0 : Int32).toInt = 0 := by decide
    omega
  · rw [Int32.lt_iff_toInt_lt]; have e : (255 : Int32).toInt = 255 := by decide
    omega
theorem own_nar (c : Int32) (h : ¬ c < 0 ∧ ¬ (255 : Int32) < c) : nar .char c = c ∧ c.toUInt32.toUInt16.toUInt32.toInt32 = c := by
  have e : c.toUInt32.toUInt16.toUInt32.toInt32 = c := by
    apply Int32.toInt_inj.mp
    have q := c_i2c c
    have h0 : (0 : Int32).toInt = 0 := by decide
    have h1 : (255 : Int32).toInt = 255 := by decide
    rw [Int32.lt_iff_toInt_lt, Int32.lt_iff_toInt_lt] at h
    omega
  exact ⟨e, e⟩
theorem own_chr {Z : State} {EL : List (String × Nat)} {vm vm1 vm2 : Vm} {h h1 h2 : Heap} (A : CHr Z EL vm h vm1 h1) (B : CHr Z EL vm1 h1 vm2 h1) (e : h2 = h1) : CHr Z EL vm h vm2 h2 := by
  rw [e]; exact A.trans B
def Q_rmS4 (Z : State) (a1 : Addr) (h0 : Heap) (n0 : Nat) (v : Option Value) (h : Heap) (L : List Loc) : Prop := v = none ∧ Fr n0 L ∧ Keep h0 h [a1] ∧ ∃ t kt, Fld Z h a1 "java/lang/String" "value" "[B" (.ref t) ∧ Fld Z h a1 "java/lang/String" "coder" "B" (.int (0 : Int32)) ∧ Arv Z h t kt .byte (0 : Int32) [] (.int (0 : Int32))
theorem ef_3n (m : MethodId) (x0 : Addr) (x1 : Addr) (x2 : Int32) (x3 : Int32) : entryFrame m #[(.ref x0), (.ref x1), (.int x2), (.int x3), .null] 6 = mkF m 0 #[.val (.ref x0), .val (.ref x1), .val (.int x2), .val (.int x3), .val .null, .unset] [] := by first | (simp [entryFrame, mkF, argsToLocals, Value.category]; done) | rfl
theorem pn_String : plainName "java/lang/String" = true := by first | (simp [plainName, overriddenIn]; done) | decide +kernel
theorem d3_0 : decode jdk_42_method_149_code 0 = .ok (.aload_n 0, 1) := by decide +kernel
theorem d3_1 : decode jdk_42_method_149_code 1 = .ok (.invokespecial 1, 3) := by decide +kernel
theorem d3_4 : decode jdk_42_method_149_code 4 = .ok (.iload_n 3, 1) := by decide +kernel
theorem d3_5 : decode jdk_42_method_149_code 5 = .ok (.ifCond .ne 22, 3) := by decide +kernel
theorem d3_8 : decode jdk_42_method_149_code 8 = .ok (.aload_n 0, 1) := by decide +kernel
theorem d3_9 : decode jdk_42_method_149_code 9 = .ok (.ldc 7, 2) := by decide +kernel
theorem d3_11 : decode jdk_42_method_149_code 11 = .ok (.getfield 9, 3) := by decide +kernel
theorem d3_14 : decode jdk_42_method_149_code 14 = .ok (.putfield 9, 3) := by decide +kernel
theorem d3_17 : decode jdk_42_method_149_code 17 = .ok (.aload_n 0, 1) := by decide +kernel
theorem d3_18 : decode jdk_42_method_149_code 18 = .ok (.ldc 7, 2) := by decide +kernel
theorem d3_20 : decode jdk_42_method_149_code 20 = .ok (.getfield 15, 3) := by decide +kernel
theorem d3_23 : decode jdk_42_method_149_code 23 = .ok (.putfield 15, 3) := by decide +kernel
theorem d3_26 : decode jdk_42_method_149_code 26 = .ok (.return_, 1) := by decide +kernel
set_option maxRecDepth 65536 in
set_option maxHeartbeats 40000000 in
theorem rmS4 (l : Launch) (Z : State) (a0 : Array Value) (hw : ∀ d ∈ tables_1, d.before a0 Z = true) (ws : List Jvm.Cond) (a1 : Addr) (a2 : Addr) (h0 : Heap) (n0 : Nat) (O0 : Old Z n0 h0) (ge_a1 : n0 ≤ a1) (E_a1 : Exa Z h0 a1 "java/lang/String") (F_a1_value : Fld Z h0 a1 "java/lang/String" "value" "[B" .null) (F_a1_coder : Fld Z h0 a1 "java/lang/String" "coder" "B" (.int (0 : Int32))) :
    MetFree l (⟨"java/lang/String", "<init>", "([CIILjava/lang/Void;)V"⟩ : MethodName) (head1 (Jvm.Cond.code (⟨"java/lang/String", "<init>", "([CIILjava/lang/Void;)V"⟩ : MethodName) jdk_42_method_149_code 6 none :: ws) ({ frames := 1, cells := 4, slots := 8, locals := 24 } : Room)) (fun a U => a = #[(.ref a1), (.ref a2), (.int (0 : Int32)), (.int (0 : Int32)), .null] ∧ Z.Warmed39 U.vm ∧ U.heap = h0 ∧ CHv Z consts_1 U.vm h0) (fun _ _ _ _ _ => True) (fun _ U o U' => ∃ v L, o = .returned v ∧ Q_rmS4 Z a1 h0 n0 v U'.heap L ∧ CHr Z consts_1 U.vm U.heap U'.vm U'.heap ∧ ReturnedEndW U o U' L ({ frames := 1, cells := 4, slots := 8, locals := 24 } : Room).cells ({ frames := 1, cells := 4, slots := 8, locals := 24 } : Room).slots) := by
  refine MetFree.of_bodySF (plainFor_of_name pn_String) hisR ?_
  intro p e s m args below meth c s₁ Bd hml0 hP hK
  obtain ⟨rfl, hZ, hh, hC0⟩ := hP
  have hx := Bd.exec
  have hby := Bd.bytes
  have hml : c.maxLocals = 6 := hml0
  have hown : s.vm.findClass "java/lang/String" = some m.cls := findClass_of_methodNamed Bd.named
  have hnm := (name_of_methodNamed Bd.named Bd.method).1
  have X0 : Stand p l e ({ frames := 1, cells := 4, slots := 8, locals := 24 } : Room) (s.setVm s.vm) m #[(.ref a1), (.ref a2), (.int (0 : Int32)), (.int (0 : Int32)), .null] below meth c s₁ [] 0 0 := Stand.of_body Bd
  have e0 : s₁.heap = h0 := by rw [← hh, Bd.state]; rfl
  have N0 := Fr.nil n0
  obtain ⟨S0, hS0⟩ : ∃ z, z = s₁.setTop (entryFrame m #[(.ref a1), (.ref a2), (.int (0 : Int32)), (.int (0 : Int32)), .null] 6) := ⟨_, rfl⟩
  have k0 : Rch p e below S0 s₁ (mkF m 0 #[.val (.ref a1), .val (.ref a2), .val (.int (0 : Int32)), .val (.int (0 : Int32)), .val .null, .unset] []) := fun t k => hS0 ▸ castTop (ef_3n m a1 a2 (0 : Int32) (0 : Int32)) k
  have K0 : Keep h0 h0 [a1] := Keep.refl h0 _
  have hS : s.Since s.vm s.heap.size := (State.WarmedH.refl s).since _
  have hk : s.heap.size ≤ h0.size := by rw [← hh]; exact Nat.le_refl _
  have hwS : ∀ d ∈ Bundle.stringAtoms, d.before a0 Z = true := fun d hd => hw d ((by decide +kernel : ∀ d ∈ Bundle.stringAtoms, d ∈ tables_1) d hd)
  have rC0 : CHr Z consts_1 s.vm h0 s.vm h0 := CHr.refl hC0
  have hEL : EW Z a0 consts_1 := (EW.cons (hw _ (List.mem_of_getElem? (i := 72) rfl)) (by decide +kernel) (EW.cons (hw _ (List.mem_of_getElem? (i := 18) rfl)) (by decide +kernel) EW.nil))
  have sf_a1 : Safe Z consts_1 s.vm h0 a1 := own_safe_null hZ.alike E_a1 F_a1_value (hw _ (List.mem_of_getElem? (i := 5) rfl))
  have k2 : Rch p e below S0 s₁ (mkF m 1 #[.val (.ref a1), .val (.ref a2), .val (.int (0 : Int32)), .val (.int (0 : Int32)), .val .null, .unset] [(.ref a1)]) := fun t h => k0 t (by
      show Steps p.tables e below (s₁.setTop (mkF m 0 #[.val (.ref a1), .val (.ref a2), .val (.int (0 : Int32)), .val (.int (0 : Int32)), .val .null, .unset] [])) _
      refine XS.aloadN X0.here hx rfl (hb hby d3_0) rfl rfl ?_
      show Steps p.tables e below (s₁.setTop (mkF m 1 #[.val (.ref a1), .val (.ref a2), .val (.int (0 : Int32)), .val (.int (0 : Int32)), .val .null, .unset] [(.ref a1)])) _
      exact h)
  obtain ⟨T1, X1, e1, st1⟩ := initO X0 hx hZ hown (hw _ (List.mem_of_getElem? (i := 15) rfl)) (hw _ (List.mem_of_getElem? (i := 16) rfl)) (hw _ (List.mem_of_getElem? (i := 17) rfl)) e0 (g := (mkF m 1 #[.val (.ref a1), .val (.ref a2), .val (.int (0 : Int32)), .val (.int (0 : Int32)), .val .null, .unset] [(.ref a1)])) rfl (by rw [hml]; rfl) rfl (hb hby d3_1) (by decide) (W := 0) (by show 2 * 0 + _ ≤ _; exact Nat.le_of_eq rfl) (by decide)
  have k3 : Rch p e below S0 T1 (mkF m 4 #[.val (.ref a1), .val (.ref a2), .val (.int (0 : Int32)), .val (.int (0 : Int32)), .val .null, .unset] []) := fun t h => k2 t (st1 t h)
  have k4 : Rch p e below S0 T1 (mkF m 9 #[.val (.ref a1), .val (.ref a2), .val (.int (0 : Int32)), .val (.int (0 : Int32)), .val .null, .unset] [(.ref a1)]) := fun t h => k3 t (by
      show Steps p.tables e below (T1.setTop (mkF m 4 #[.val (.ref a1), .val (.ref a2), .val (.int (0 : Int32)), .val (.int (0 : Int32)), .val .null, .unset] [])) _
      refine XS.iloadN X1.here hx rfl (hb hby d3_4) rfl ?_
      show Steps p.tables e below (T1.setTop (mkF m 5 #[.val (.ref a1), .val (.ref a2), .val (.int (0 : Int32)), .val (.int (0 : Int32)), .val .null, .unset] [(.int (0 : Int32))])) _
      refine XS.ifNo X1.here hx rfl (hb hby d3_5) rfl ((if0 _ _).trans (teq (by decide : (0 : Int32) = (0 : Int32))).2) ?_
      show Steps p.tables e below (T1.setTop (mkF m 8 #[.val (.ref a1), .val (.ref a2), .val (.int (0 : Int32)), .val (.int (0 : Int32)), .val .null, .unset] [])) _
      refine XS.aloadN X1.here hx rfl (hb hby d3_8) rfl rfl ?_
      show Steps p.tables e below (T1.setTop (mkF m 9 #[.val (.ref a1), .val (.ref a2), .val (.int (0 : Int32)), .val (.int (0 : Int32)), .val .null, .unset] [(.ref a1)])) _
      exact h)
  obtain ⟨a5, T5, h5, kk5, t5, kt5, X5, e5, E5, hS5, hk5, hZ5, hown5, Ea5, Ca5, Va5, At5, la5, lt5, hR5, hL5, sfa5, st5⟩ := ldcCH X1 hx hZ hown (hw _ (List.mem_of_getElem? (i := 18) rfl)) hwS e1 hS hk hEL (by decide +kernel) hC0 (vs := []) (z := (0 : Int32)) ⟨by decide +kernel, by decide +kernel⟩ (by decide) (by decide) (g := (mkF m 9 #[.val (.ref a1), .val (.ref a2), .val (.int (0 : Int32)), .val (.int (0 : Int32)), .val .null, .unset] [(.ref a1)])) rfl (hb hby d3_9) (n := 0) (by decide +kernel) (by decide) (by decide) (by decide)
  have k6 : Rch p e below S0 T5 (mkF m 11 #[.val (.ref a1), .val (.ref a2), .val (.int (0 : Int32)), .val (.int (0 : Int32)), .val .null, .unset] [(.ref a5), (.ref a1)]) := fun t h => k4 t (st5 t h)
  replace sf_a1 := hR5.safe E_a1.lt sf_a1
  have hC7 := hR5.1
  have rC7 := rC0.trans hR5
  have O8 := O0.ext E5
  have K9 := K0.ext E5
  replace E_a1 := E_a1.ext E5
  replace F_a1_value := F_a1_value.ext E5
  replace F_a1_coder := F_a1_coder.ext E5
  have ne_a1_a5 : a1 ≠ a5 := (sfa5 a1 sf_a1).1
  have ne_a1_t5 : a1 ≠ t5 := (sfa5 a1 sf_a1).2
  obtain ⟨T10, X10, e10, st10⟩ := getF X5 hx hZ5 hown5 (host := "") (Or.inl (hw _ (List.mem_of_getElem? (i := 24) rfl))) Via.refl e5 Va5 (g := (mkF m 11 #[.val (.ref a1), .val (.ref a2), .val (.int (0 : Int32)), .val (.int (0 : Int32)), .val .null, .unset] [(.ref a5), (.ref a1)])) rfl rfl (hb hby d3_11)
  have k11 : Rch p e below S0 T10 (mkF m 14 #[.val (.ref a1), .val (.ref a2), .val (.int (0 : Int32)), .val (.int (0 : Int32)), .val .null, .unset] [(.ref t5), (.ref a1)]) := fun t h => k6 t (st10 t h)
  obtain ⟨T12, h12, X12, e12, W12, st12⟩ := putF X10 hx hZ5 hown5 (host := "") (Or.inl (hw _ (List.mem_of_getElem? (i := 24) rfl))) Via.refl e10 F_a1_value E_a1 (Or.inr ⟨(hw _ (List.mem_of_getElem? (i := 20) rfl)), rfl, hnm⟩) (hw _ (List.mem_of_getElem? (i := 5) rfl)) (ty := (.array .byte)) (by decide) rfl rfl (g := (mkF m 14 #[.val (.ref a1), .val (.ref a2), .val (.int (0 : Int32)), .val (.int (0 : Int32)), .val .null, .unset] [(.ref t5), (.ref a1)])) rfl rfl (hb hby d3_14)
  have k13 : Rch p e below S0 T12 (mkF m 17 #[.val (.ref a1), .val (.ref a2), .val (.int (0 : Int32)), .val (.int (0 : Int32)), .val .null, .unset] []) := fun t h => k11 t (st12 t h)
  have N12 := Fr.snoc X12 N0 ge_a1
  replace F_a1_value := F_a1_value.same W12
  have hC14 := hC7.wr W12 sf_a1
  have rC14 := rC7.trans (CHr.wr W12 sf_a1 hC7)
  replace sf_a1 := Safe.wr W12 sf_a1 hC7 sf_a1
  have O15 := O8.wr W12 ge_a1
  have K16 := K9.wr W12 (Or.inl (List.mem_of_getElem? (i := 0) rfl))
  replace E_a1 := E_a1.wr W12
  replace F_a1_coder := F_a1_coder.other W12 (Or.inr (slot_ne (Or.inr (hw _ (List.mem_of_getElem? (i := 21) rfl))) (Or.inr (hw _ (List.mem_of_getElem? (i := 20) rfl))) (by decide) (t := .byte) (t' := (.array .byte)) (by decide) (by decide)))
  replace Ea5 := Ea5.wr W12
  replace Ca5 := Ca5.other W12 (Or.inl (Ne.symm ne_a1_a5))
  replace Va5 := Va5.other W12 (Or.inl (Ne.symm ne_a1_a5))
  replace At5 := At5.other W12 (Ne.symm ne_a1_t5)
  have hkk17 := Nat.le_trans hk5 (Keep.of_wr W12).1
  have k18 : Rch p e below S0 T12 (mkF m 18 #[.val (.ref a1), .val (.ref a2), .val (.int (0 : Int32)), .val (.int (0 : Int32)), .val .null, .unset] [(.ref a1)]) := fun t h => k13 t (by
      show Steps p.tables e below (T12.setTop (mkF m 17 #[.val (.ref a1), .val (.ref a2), .val (.int (0 : Int32)), .val (.int (0 : Int32)), .val .null, .unset] [])) _
      refine XS.aloadN X12.here hx rfl (hb hby d3_17) rfl rfl ?_
      show Steps p.tables e below (T12.setTop (mkF m 18 #[.val (.ref a1), .val (.ref a2), .val (.int (0 : Int32)), .val (.int (0 : Int32)), .val .null, .unset] [(.ref a1)])) _
      exact h)
  obtain ⟨a19, T19, h19, kk19, t19, kt19, X19, e19, E19, hS19, hk19, hZ19, hown19, Ea19, Ca19, Va19, At19, la19, lt19, hR19, hL19, sfa19, st19⟩ := ldcCH X12 hx hZ5 hown5 (hw _ (List.mem_of_getElem? (i := 18) rfl)) hwS e12 hS5 hkk17 hEL (by decide +kernel) hC14 (vs := []) (z := (0 : Int32)) ⟨by decide +kernel, by decide +kernel⟩ (by decide) (by decide) (g := (mkF m 18 #[.val (.ref a1), .val (.ref a2), .val (.int (0 : Int32)), .val (.int (0 : Int32)), .val .null, .unset] [(.ref a1)])) rfl (hb hby d3_18) (n := 0) (by decide +kernel) (by decide) (by decide) (by decide)
  have k20 : Rch p e below S0 T19 (mkF m 20 #[.val (.ref a1), .val (.ref a2), .val (.int (0 : Int32)), .val (.int (0 : Int32)), .val .null, .unset] [(.ref a19), (.ref a1)]) := fun t h => k18 t (st19 t h)
  replace sf_a1 := hR19.safe E_a1.lt sf_a1
  have hC21 := hR19.1
  have rC21 := rC14.trans hR19
  have O22 := O15.ext E19
  have K23 := K16.ext E19
  replace E_a1 := E_a1.ext E19
  replace F_a1_coder := F_a1_coder.ext E19
  replace F_a1_value := F_a1_value.ext E19
  replace Ea5 := Ea5.ext E19
  replace Ca5 := Ca5.ext E19
  replace Va5 := Va5.ext E19
  replace At5 := At5.ext E19
  have ne_a1_a19 : a1 ≠ a19 := (sfa19 a1 sf_a1).1
  have ne_a1_t19 : a1 ≠ t19 := (sfa19 a1 sf_a1).2
  obtain ⟨T24, X24, e24, st24⟩ := getF X19 hx hZ19 hown19 (host := "") (Or.inl (hw _ (List.mem_of_getElem? (i := 25) rfl))) Via.refl e19 Ca19 (g := (mkF m 20 #[.val (.ref a1), .val (.ref a2), .val (.int (0 : Int32)), .val (.int (0 : Int32)), .val .null, .unset] [(.ref a19), (.ref a1)])) rfl rfl (hb hby d3_20)
  have k25 : Rch p e below S0 T24 (mkF m 23 #[.val (.ref a1), .val (.ref a2), .val (.int (0 : Int32)), .val (.int (0 : Int32)), .val .null, .unset] [(.int (0 : Int32)), (.ref a1)]) := fun t h => k20 t (st24 t h)
  obtain ⟨T26, h26, X26, e26, W26, st26⟩ := putFN X24 hx hZ19 hown19 (hw _ (List.mem_of_getElem? (i := 25) rfl)) Via.refl e24 F_a1_coder E_a1 (Or.inr ⟨(hw _ (List.mem_of_getElem? (i := 21) rfl)), rfl, hnm⟩) (hw _ (List.mem_of_getElem? (i := 5) rfl)) (ty := .byte) (v' := (.int (0 : Int32))) (by decide) (by decide) (by decide) (g := (mkF m 23 #[.val (.ref a1), .val (.ref a2), .val (.int (0 : Int32)), .val (.int (0 : Int32)), .val .null, .unset] [(.int (0 : Int32)), (.ref a1)])) rfl rfl (hb hby d3_23)
  have k27 : Rch p e below S0 T26 (mkF m 26 #[.val (.ref a1), .val (.ref a2), .val (.int (0 : Int32)), .val (.int (0 : Int32)), .val .null, .unset] []) := fun t h => k25 t (st26 t h)
  have N26 := Fr.snoc X26 N12 ge_a1
  replace F_a1_coder := F_a1_coder.same W26
  have hC28 := hC21.wr W26 sf_a1
  have rC28 := rC21.trans (CHr.wr W26 sf_a1 hC21)
  replace sf_a1 := Safe.wr W26 sf_a1 hC21 sf_a1
  have O29 := O22.wr W26 ge_a1
  have K30 := K23.wr W26 (Or.inl (List.mem_of_getElem? (i := 0) rfl))
  replace E_a1 := E_a1.wr W26
  replace F_a1_value := F_a1_value.other W26 (Or.inr (slot_ne (Or.inr (hw _ (List.mem_of_getElem? (i := 20) rfl))) (Or.inr (hw _ (List.mem_of_getElem? (i := 21) rfl))) (by decide) (t := (.array .byte)) (t' := .byte) (by decide) (by decide)))
  replace Ea5 := Ea5.wr W26
  replace Ca5 := Ca5.other W26 (Or.inl (Ne.symm ne_a1_a5))
  replace Va5 := Va5.other W26 (Or.inl (Ne.symm ne_a1_a5))
  replace At5 := At5.other W26 (Ne.symm ne_a1_t5)
  replace Ea19 := Ea19.wr W26
  replace Ca19 := Ca19.other W26 (Or.inl (Ne.symm ne_a1_a19))
  replace Va19 := Va19.other W26 (Or.inl (Ne.symm ne_a1_a19))
  replace At19 := At19.other W26 (Ne.symm ne_a1_t19)
  have hkk31 := Nat.le_trans hk19 (Keep.of_wr W26).1
  obtain ⟨fs, hr, hrun, hended, hfin⟩ := X26.leaveW hS19 (by rw [e26]; exact hkk31) (v := none) (fun _ => rfl)
  refine ⟨_, _, ?_, hrun, hended, _, _, rfl, ?_, (by rw [hh]; have q := own_chr rC28 (CHv.at X26 hZ19 hEL hC28) e26; exact q), hfin.1, hfin.2.1, hfin.2.2.1, hfin.2.2.2.mono (by decide) (by decide)⟩
  · rw [← hS0]
    refine k27 _ ?_
    show Steps p.tables e below (T26.setTop (mkF m 26 #[.val (.ref a1), .val (.ref a2), .val (.int (0 : Int32)), .val (.int (0 : Int32)), .val .null, .unset] [])) _
    exact X26.returnOut hx Bd.returns (hb hby d3_26) hr
  · show Q_rmS4 Z a1 h0 n0 _ T26.heap _
    rw [e26]
    exact ⟨rfl, N26, K30, _, _, F_a1_value, F_a1_coder, At5⟩
def Q_rmS0 (Z : State) (a1 : Addr) (h0 : Heap) (n0 : Nat) (v : Option Value) (h : Heap) (L : List Loc) : Prop := v = none ∧ Fr n0 L ∧ Keep h0 h [a1] ∧ ∃ t kt, Fld Z h a1 "java/lang/String" "value" "[B" (.ref t) ∧ Fld Z h a1 "java/lang/String" "coder" "B" (.int (0 : Int32)) ∧ Arv Z h t kt .byte (0 : Int32) [] (.int (0 : Int32))
theorem ef_2 (m : MethodId) (x0 : Addr) (x1 : Addr) : entryFrame m #[(.ref x0), (.ref x1)] 2 = mkF m 0 #[.val (.ref x0), .val (.ref x1)] [] := by first | (simp [entryFrame, mkF, argsToLocals, Value.category]; done) | rfl
theorem d2_0 : decode jdk_42_method_3_code 0 = .ok (.aload_n 0, 1) := by decide +kernel
theorem d2_1 : decode jdk_42_method_3_code 1 = .ok (.aload_n 1, 1) := by decide +kernel
theorem d2_2 : decode jdk_42_method_3_code 2 = .ok (.iconst 0, 1) := by decide +kernel
theorem d2_3 : decode jdk_42_method_3_code 3 = .ok (.aload_n 1, 1) := by decide +kernel
theorem d2_4 : decode jdk_42_method_3_code 4 = .ok (.arraylength, 1) := by decide +kernel
theorem d2_5 : decode jdk_42_method_3_code 5 = .ok (.aconst_null, 1) := by decide +kernel
theorem pd_2 : parseMethodDescriptor "([CIILjava/lang/Void;)V" = some ⟨[(.array .char), .int, .int, (.object "java/lang/Void")], none⟩ := by decide +kernel
theorem d2_6 : decode jdk_42_method_3_code 6 = .ok (.invokespecial 27, 3) := by decide +kernel
theorem d2_9 : decode jdk_42_method_3_code 9 = .ok (.return_, 1) := by decide +kernel
set_option maxRecDepth 65536 in
set_option maxHeartbeats 40000000 in
theorem rmS0 (l : Launch) (Z : State) (a0 : Array Value) (hw : ∀ d ∈ tables_1, d.before a0 Z = true) (ws : List Jvm.Cond) (a1 : Addr) (a2 : Addr) (ka : ClassId) (h0 : Heap) (n0 : Nat) (O0 : Old Z n0 h0) (ge_a1 : n0 ≤ a1) (E_a1 : Exa Z h0 a1 "java/lang/String") (F_a1_value : Fld Z h0 a1 "java/lang/String" "value" "[B" .null) (F_a1_coder : Fld Z h0 a1 "java/lang/String" "coder" "B" (.int (0 : Int32))) (Va : Arv Z h0 a2 ka .char (0 : Int32) [] (.int (0 : Int32))) :
    MetFree l (⟨"java/lang/String", "<init>", "([C)V"⟩ : MethodName) (head1 (Jvm.Cond.code (⟨"java/lang/String", "<init>", "([C)V"⟩ : MethodName) jdk_42_method_3_code 2 none :: ws) ({ frames := 2, cells := 4, slots := 8, locals := 48 } : Room)) (fun a U => a = #[(.ref a1), (.ref a2)] ∧ Z.Warmed39 U.vm ∧ U.heap = h0 ∧ CHv Z consts_1 U.vm h0) (fun _ _ _ _ _ => True) (fun _ U o U' => ∃ v L, o = .returned v ∧ Q_rmS0 Z a1 h0 n0 v U'.heap L ∧ CHr Z consts_1 U.vm U.heap U'.vm U'.heap ∧ ReturnedEndW U o U' L ({ frames := 2, cells := 4, slots := 8, locals := 48 } : Room).cells ({ frames := 2, cells := 4, slots := 8, locals := 48 } : Room).slots) := by
  refine MetFree.of_bodySF (plainFor_of_name pn_String) hisR ?_
  intro p e s m args below meth c s₁ Bd hml0 hP hK
  obtain ⟨rfl, hZ, hh, hC0⟩ := hP
  have hx := Bd.exec
  have hby := Bd.bytes
  have hml : c.maxLocals = 2 := hml0
  have hown : s.vm.findClass "java/lang/String" = some m.cls := findClass_of_methodNamed Bd.named
  have hnm := (name_of_methodNamed Bd.named Bd.method).1
  have X0 : Stand p l e ({ frames := 2, cells := 4, slots := 8, locals := 48 } : Room) (s.setVm s.vm) m #[(.ref a1), (.ref a2)] below meth c s₁ [] 0 0 := Stand.of_body Bd
  have e0 : s₁.heap = h0 := by rw [← hh, Bd.state]; rfl
  have N0 := Fr.nil n0
  obtain ⟨S0, hS0⟩ : ∃ z, z = s₁.setTop (entryFrame m #[(.ref a1), (.ref a2)] 2) := ⟨_, rfl⟩
  have k0 : Rch p e below S0 s₁ (mkF m 0 #[.val (.ref a1), .val (.ref a2)] []) := fun t k => hS0 ▸ castTop (ef_2 m a1 a2) k
  have K0 : Keep h0 h0 [a1] := Keep.refl h0 _
  have hS : s.Since s.vm s.heap.size := (State.WarmedH.refl s).since _
  have hk : s.heap.size ≤ h0.size := by rw [← hh]; exact Nat.le_refl _
  have hwS : ∀ d ∈ Bundle.stringAtoms, d.before a0 Z = true := fun d hd => hw d ((by decide +kernel : ∀ d ∈ Bundle.stringAtoms, d ∈ tables_1) d hd)
  have rC0 : CHr Z consts_1 s.vm h0 s.vm h0 := CHr.refl hC0
  have hEL : EW Z a0 consts_1 := (EW.cons (hw _ (List.mem_of_getElem? (i := 72) rfl)) (by decide +kernel) (EW.cons (hw _ (List.mem_of_getElem? (i := 18) rfl)) (by decide +kernel) EW.nil))
  have sf_a1 : Safe Z consts_1 s.vm h0 a1 := own_safe_null hZ.alike E_a1 F_a1_value (hw _ (List.mem_of_getElem? (i := 5) rfl))
  have k33 : Rch p e below S0 s₁ (mkF m 4 #[.val (.ref a1), .val (.ref a2)] [(.ref a2), (.int (0 : Int32)), (.ref a2), (.ref a1)]) := fun t h => k0 t (by
      show Steps p.tables e below (s₁.setTop (mkF m 0 #[.val (.ref a1), .val (.ref a2)] [])) _
      refine XS.aloadN X0.here hx rfl (hb hby d2_0) rfl rfl ?_
      show Steps p.tables e below (s₁.setTop (mkF m 1 #[.val (.ref a1), .val (.ref a2)] [(.ref a1)])) _
      refine XS.aloadN X0.here hx rfl (hb hby d2_1) rfl rfl ?_
      show Steps p.tables e below (s₁.setTop (mkF m 2 #[.val (.ref a1), .val (.ref a2)] [(.ref a2), (.ref a1)])) _
      refine XS.iconst X0.here hx rfl (hb hby d2_2) ?_
      show Steps p.tables e below (s₁.setTop (mkF m 3 #[.val (.ref a1), .val (.ref a2)] [(.int (0 : Int32)), (.ref a2), (.ref a1)])) _
      refine XS.aloadN X0.here hx rfl (hb hby d2_3) rfl rfl ?_
      show Steps p.tables e below (s₁.setTop (mkF m 4 #[.val (.ref a1), .val (.ref a2)] [(.ref a2), (.int (0 : Int32)), (.ref a2), (.ref a1)])) _
      exact h)
  obtain ⟨cl32, Ar32, q32, Sz32, Ng32, Hs32, G32⟩ := id Va
  have k34 : Rch p e below S0 s₁ (mkF m 6 #[.val (.ref a1), .val (.ref a2)] [.null, (.int (0 : Int32)), (.int (0 : Int32)), (.ref a2), (.ref a1)]) := fun t h => k33 t (by
      show Steps p.tables e below (s₁.setTop (mkF m 4 #[.val (.ref a1), .val (.ref a2)] [(.ref a2), (.int (0 : Int32)), (.ref a2), (.ref a1)])) _
      refine X0.arraylength hx (by rw [e0]; exact Ar32.1) (State.isArrayOf_alike hZ.alike Ar32.2.1) (g := (mkF m 4 #[.val (.ref a1), .val (.ref a2)] [(.ref a2), (.int (0 : Int32)), (.ref a2), (.ref a1)])) rfl rfl (hb hby d2_4) _ ?_
      rw [len_of Sz32 Ng32]
      show Steps p.tables e below (s₁.setTop (mkF m 5 #[.val (.ref a1), .val (.ref a2)] [(.int (0 : Int32)), (.int (0 : Int32)), (.ref a2), (.ref a1)])) _
      refine XS.aconstNull X0.here hx rfl (hb hby d2_5) ?_
      show Steps p.tables e below (s₁.setTop (mkF m 6 #[.val (.ref a1), .val (.ref a2)] [.null, (.int (0 : Int32)), (.int (0 : Int32)), (.ref a2), (.ref a1)])) _
      exact h)
  obtain ⟨_, _, ⟨T35, L35, kk35, n35⟩, -, X35, hS35, gr35, ⟨Lc35, hQ35, l35, y35, z35, hR35⟩, st35⟩ := X0.specialBackS hx (y := (⟨"java/lang/String", "<init>", "([CIILjava/lang/Void;)V"⟩ : MethodName)) rfl hown (mvT hZ (hw _ (List.mem_of_getElem? (i := 11) rfl))) (mvT hZ (hw _ (List.mem_of_getElem? (i := 12) rfl))) (mvT hZ (hw _ (List.mem_of_getElem? (i := 14) rfl))) (by decide) (backOfSH (W := 0) (rmS4 l Z a0 hw [] a1 a2  h0 n0 O0 ge_a1 E_a1 F_a1_value F_a1_coder) hZ (hw _ (List.mem_of_getElem? (i := 14) rfl)) (hw _ (List.mem_of_getElem? (i := 6) rfl)) (by decide) (by decide) hEL hC0) (g := (mkF m 6 #[.val (.ref a1), .val (.ref a2)] [.null, (.int (0 : Int32)), (.int (0 : Int32)), (.ref a2), (.ref a1)])) rfl (by rw [hml]; rfl) (Steps.refl _) (a := a1) (argsL := [(.ref a2), (.int (0 : Int32)), (.int (0 : Int32)), .null]) (rest := []) (lenOf pd_2 rfl) rfl (by show 2 * 0 + _ ≤ _; exact Nat.le_of_eq rfl) (hb hby d2_6) (fun _ _ => ⟨rfl, e0, (by decide : 0 + 4 ≤ _), (by decide : 0 + 8 ≤ _)⟩)
  dsimp only [Pt.U, Pt.locs, Pt.cells, Pt.slots] at X35 l35 y35 z35 st35 hQ35 hS35 gr35 hR35
  subst l35 y35 z35
  have hZ35 : Z.Warmed39 (s.setVm T35.vm).vm := State.Warmed39.trans (t := (s.setVm s.vm)) hZ hS35.1
  have hown35 : (s.setVm T35.vm).vm.findClass "java/lang/String" = some m.cls := by rw [show (s.setVm T35.vm).vm = T35.vm from rfl, hS35.1.alike.findClass]; exact hown
  replace hS35 := foldS hS (by rw [e0]; exact hk) hS35 gr35
  have hk35 := Nat.le_refl T35.heap.size
  replace X35 : Stand p l e ({ frames := 2, cells := 4, slots := 8, locals := 48 } : Room) (s.setVm T35.vm) m #[(.ref a1), (.ref a2)] below meth c T35 _ _ _ := X35
  obtain ⟨rfl, Nq35, K35, t35, kt35, Fv35, Fc35, At35⟩ := hQ35
  have N35 := Fr.app N0 Nq35
  have k36 : Rch p e below S0 T35 (mkF m 9 #[.val (.ref a1), .val (.ref a2)] []) := fun t h => k34 t (st35.trans h)
  have hC37 := hR35.1
  have rC37 := rC0.trans hR35
  have O38 := O0.keep K35 (allS ge_a1 all0)
  have K39 := K0.trans K35 (allS (Or.inl (List.mem_of_getElem? (i := 0) rfl)) all0)
  replace E_a1 := E_a1.keep K35
  obtain ⟨fs, hr, hrun, hended, hfin⟩ := X35.leaveW hS35 (by exact hk35) (v := none) (fun _ => rfl)
  refine ⟨_, _, ?_, hrun, hended, _, _, rfl, ?_, (by rw [hh]; have q := own_chr rC37 (CHv.at X35 hZ35 hEL hC37) rfl; exact q), hfin.1, hfin.2.1, hfin.2.2.1, hfin.2.2.2.mono (by decide) (by decide)⟩
  · rw [← hS0]
    refine k36 _ ?_
    show Steps p.tables e below (T35.setTop (mkF m 9 #[.val (.ref a1), .val (.ref a2)] [])) _
    exact X35.returnOut hx Bd.returns (hb hby d2_9) hr
  · show Q_rmS0 Z a1 h0 n0 _ T35.heap _
    exact ⟨rfl, N35, K39, _, _, Fv35, Fc35, At35⟩
def Q_rmCE (Z : State)  (h0 : Heap) (n0 : Nat) (v : Option Value) (h : Heap) (L : List Loc) : Prop := v = some (.int (1 : Int32)) ∧ Fr n0 L ∧ h = h0
theorem ef_6 (m : MethodId) (x0 : Int32) : entryFrame m #[(.int x0)] 1 = mkF m 0 #[.val (.int x0)] [] := by first | (simp [entryFrame, mkF, argsToLocals, Value.category]; done) | rfl
theorem pn_StringLatin1 : plainName "java/lang/StringLatin1" = true := by first | (simp [plainName, overriddenIn]; done) | decide +kernel
theorem d6_0 : decode jdk_43_method_3_code 0 = .ok (.iload_n 0, 1) := by decide +kernel
theorem d6_1 : decode jdk_43_method_3_code 1 = .ok (.sipush 255, 3) := by decide +kernel
theorem d6_4 : decode jdk_43_method_3_code 4 = .ok (.if_icmp .gt 7, 3) := by decide +kernel
theorem d6_7 : decode jdk_43_method_3_code 7 = .ok (.iconst 1, 1) := by decide +kernel
theorem d6_8 : decode jdk_43_method_3_code 8 = .ok (.goto 4, 3) := by decide +kernel
theorem d6_12 : decode jdk_43_method_3_code 12 = .ok (.ireturn, 1) := by decide +kernel
set_option maxRecDepth 65536 in
set_option maxHeartbeats 40000000 in
theorem rmCE (l : Launch) (Z : State) (a0 : Array Value) (hw : ∀ d ∈ tables_1, d.before a0 Z = true) (ws : List Jvm.Cond) (p1 : Int32) (h0 : Heap) (n0 : Nat) (O0 : Old Z n0 h0) (hq : ¬ ((255 : Int32) < p1)) :
    MetFree l (⟨"java/lang/StringLatin1", "canEncode", "(C)Z"⟩ : MethodName) (head1 (Jvm.Cond.code (⟨"java/lang/StringLatin1", "canEncode", "(C)Z"⟩ : MethodName) jdk_43_method_3_code 1 (some .boolean) :: ws) ({ frames := 0, cells := 0, slots := 0, locals := 0 } : Room)) (fun a U => a = #[(.int p1)] ∧ Z.Warmed39 U.vm ∧ U.heap = h0) (fun _ _ _ _ _ => True) (fun _ U o U' => ∃ v L, o = .returned v ∧ Q_rmCE Z  h0 n0 v U'.heap L ∧ FrameEnd U o U' L ({ frames := 0, cells := 0, slots := 0, locals := 0 } : Room).cells ({ frames := 0, cells := 0, slots := 0, locals := 0 } : Room).slots) := by
  refine MetFree.of_bodySF (plainFor_of_name pn_StringLatin1) hisR ?_
  intro p e s m args below meth c s₁ Bd hml0 hP hK
  obtain ⟨rfl, hZ, hh⟩ := hP
  have hx := Bd.exec
  have hby := Bd.bytes
  have hml : c.maxLocals = 1 := hml0
  have hown : s.vm.findClass "java/lang/StringLatin1" = some m.cls := findClass_of_methodNamed Bd.named
  have hnm := (name_of_methodNamed Bd.named Bd.method).1
  have X0 : Stand p l e ({ frames := 0, cells := 0, slots := 0, locals := 0 } : Room) s m #[(.int p1)] below meth c s₁ [] 0 0 := Stand.of_body Bd
  have e0 : s₁.heap = h0 := by rw [← hh, Bd.state]; rfl
  have N0 := Fr.nil n0
  obtain ⟨S0, hS0⟩ : ∃ z, z = s₁.setTop (entryFrame m #[(.int p1)] 1) := ⟨_, rfl⟩
  have k0 : Rch p e below S0 s₁ (mkF m 0 #[.val (.int p1)] []) := fun t k => hS0 ▸ castTop (ef_6 m p1) k
  have k40 : Rch p e below S0 s₁ (mkF m 12 #[.val (.int p1)] [(.int (1 : Int32))]) := fun t h => k0 t (by
      show Steps p.tables e below (s₁.setTop (mkF m 0 #[.val (.int p1)] [])) _
      refine XS.iloadN X0.here hx rfl (hb hby d6_0) rfl ?_
      show Steps p.tables e below (s₁.setTop (mkF m 1 #[.val (.int p1)] [(.int p1)])) _
      refine XS.sipush X0.here hx rfl (hb hby d6_1) ?_
      show Steps p.tables e below (s₁.setTop (mkF m 4 #[.val (.int p1)] [(.int (255 : Int32)), (.int p1)])) _
      refine XS.icmpNo X0.here hx rfl (hb hby d6_4) rfl (flt (hq : ¬ ((255 : Int32) < p1))).2.2.1 ?_
      show Steps p.tables e below (s₁.setTop (mkF m 7 #[.val (.int p1)] [])) _
      refine XS.iconst X0.here hx rfl (hb hby d6_7) ?_
      show Steps p.tables e below (s₁.setTop (mkF m 8 #[.val (.int p1)] [(.int (1 : Int32))])) _
      refine XS.goto X0.here hx rfl (pc0 := 8) (pc' := 12) rfl (hb hby d6_8) (by decide) (by decide) ?_
      show Steps p.tables e below (s₁.setTop (mkF m 12 #[.val (.int p1)] [(.int (1 : Int32))])) _
      exact h)
  obtain ⟨fs, hr, hrun, hended, hW, hsame⟩ := X0.leave (v := (some (.int (1 : Int32)))) (fun h => by rw [Bd.returns] at h; cases h)
  refine ⟨_, _, ?_, hrun, hended, _, _, rfl, ?_, ⟨_, rfl⟩, hW, hsame.mono (by decide) (by decide)⟩
  · rw [← hS0]
    refine k40 _ ?_
    show Steps p.tables e below (s₁.setTop (mkF m 12 #[.val (.int p1)] [(.int (1 : Int32))])) _
    exact retN X0 hx (t := .boolean) Bd.returns (by simp) (hb hby d6_12) hr
  · show Q_rmCE Z  h0 n0 _ s₁.heap _
    rw [e0]
    exact ⟨rfl, N0, rfl⟩
def Q_rmTB (Z : State) (p1 : Int32) (h0 : Heap) (n0 : Nat) (v : Option Value) (h : Heap) (L : List Loc) : Prop := ∃ x kx, v = some (.ref x) ∧ Fr n0 L ∧ Ext h0 h ∧ h0.size ≤ x ∧ Arv Z h x kx .byte (1 : Int32) [.int (nar .byte (p1.toInt8.toInt32))] (.int (0 : Int32))
theorem ef_7 (m : MethodId) (x0 : Int32) : entryFrame m #[(.int x0)] 1 = mkF m 0 #[.val (.int x0)] [] := by first | (simp [entryFrame, mkF, argsToLocals, Value.category]; done) | rfl
theorem d7_0 : decode jdk_43_method_46_code 0 = .ok (.iconst 1, 1) := by decide +kernel
theorem d7_1 : decode jdk_43_method_46_code 1 = .ok (.newarray .byte, 2) := by decide +kernel
theorem d7_3 : decode jdk_43_method_46_code 3 = .ok (.dup, 1) := by decide +kernel
theorem d7_4 : decode jdk_43_method_46_code 4 = .ok (.iconst 0, 1) := by decide +kernel
theorem d7_5 : decode jdk_43_method_46_code 5 = .ok (.iload_n 0, 1) := by decide +kernel
theorem d7_6 : decode jdk_43_method_46_code 6 = .ok (.i2b, 1) := by decide +kernel
theorem d7_7 : decode jdk_43_method_46_code 7 = .ok (.bastore, 1) := by decide +kernel
theorem d7_8 : decode jdk_43_method_46_code 8 = .ok (.areturn, 1) := by decide +kernel
set_option maxRecDepth 65536 in
set_option maxHeartbeats 40000000 in
theorem rmTB (l : Launch) (Z : State) (a0 : Array Value) (hw : ∀ d ∈ tables_1, d.before a0 Z = true) (ws : List Jvm.Cond) (p1 : Int32) (h0 : Heap) (n0 : Nat) (O0 : Old Z n0 h0) :
    MetFree l (⟨"java/lang/StringLatin1", "toBytes", "(C)[B"⟩ : MethodName) (head1 (Jvm.Cond.code (⟨"java/lang/StringLatin1", "toBytes", "(C)[B"⟩ : MethodName) jdk_43_method_46_code 1 (some (.array .byte)) :: ws) ({ frames := 0, cells := 1, slots := 1, locals := 0 } : Room)) (fun a U => a = #[(.int p1)] ∧ Z.Warmed39 U.vm ∧ U.heap = h0) (fun _ _ _ _ _ => True) (fun _ U o U' => ∃ v L, o = .returned v ∧ Q_rmTB Z p1 h0 n0 v U'.heap L ∧ FrameEnd U o U' L ({ frames := 0, cells := 1, slots := 1, locals := 0 } : Room).cells ({ frames := 0, cells := 1, slots := 1, locals := 0 } : Room).slots) := by
  refine MetFree.of_bodySF (plainFor_of_name pn_StringLatin1) hisR ?_
  intro p e s m args below meth c s₁ Bd hml0 hP hK
  obtain ⟨rfl, hZ, hh⟩ := hP
  have hx := Bd.exec
  have hby := Bd.bytes
  have hml : c.maxLocals = 1 := hml0
  have hown : s.vm.findClass "java/lang/StringLatin1" = some m.cls := findClass_of_methodNamed Bd.named
  have hnm := (name_of_methodNamed Bd.named Bd.method).1
  have X0 : Stand p l e ({ frames := 0, cells := 1, slots := 1, locals := 0 } : Room) s m #[(.int p1)] below meth c s₁ [] 0 0 := Stand.of_body Bd
  have e0 : s₁.heap = h0 := by rw [← hh, Bd.state]; rfl
  have N0 := Fr.nil n0
  obtain ⟨S0, hS0⟩ : ∃ z, z = s₁.setTop (entryFrame m #[(.int p1)] 1) := ⟨_, rfl⟩
  have k0 : Rch p e below S0 s₁ (mkF m 0 #[.val (.int p1)] []) := fun t k => hS0 ▸ castTop (ef_7 m p1) k
  have K0 : Keep h0 h0 [] := Keep.refl h0 _
  have k42 : Rch p e below S0 s₁ (mkF m 1 #[.val (.int p1)] [(.int (1 : Int32))]) := fun t h => k0 t (by
      show Steps p.tables e below (s₁.setTop (mkF m 0 #[.val (.int p1)] [])) _
      refine XS.iconst X0.here hx rfl (hb hby d7_0) ?_
      show Steps p.tables e below (s₁.setTop (mkF m 1 #[.val (.int p1)] [(.int (1 : Int32))])) _
      exact h)
  obtain ⟨T41, h41, k41, X41, e41, E41, A41, st41⟩ := newP X0 hx hZ (hw _ (List.mem_of_getElem? (i := 19) rfl)) e0 (g := (mkF m 1 #[.val (.int p1)] [(.int (1 : Int32))])) rfl (hb hby d7_1) rfl (by decide) (cap := 1) (by decide) (by decide) (by decide) (by decide)
  obtain ⟨b41, g41⟩ : ∃ z, z = h0.size := ⟨_, rfl⟩
  rw [← g41] at A41 st41
  have k43 : Rch p e below S0 T41 (mkF m 3 #[.val (.int p1)] [(.ref b41)]) := fun t h => k42 t (st41 t h)
  have ge_b41 : n0 ≤ b41 := own_ge O0 (Nat.le_of_eq g41.symm)
  have sz_b41 : h0.size ≤ b41 := Nat.le_trans K0.1 (Nat.le_of_eq g41.symm)
  have O44 := O0.ext E41
  have K45 := K0.ext E41
  have V_b41 : Arv Z h41 b41 k41 .byte (1 : Int32) [(.int (0 : Int32))] (.int (0 : Int32)) := (Arv.new A41 (by decide)).pad (pad_rep [] (.int (0 : Int32)) 1)
  have k47 : Rch p e below S0 T41 (mkF m 7 #[.val (.int p1)] [(.int (p1.toInt8.toInt32)), (.int (0 : Int32)), (.ref b41), (.ref b41)]) := fun t h => k43 t (by
      show Steps p.tables e below (T41.setTop (mkF m 3 #[.val (.int p1)] [(.ref b41)])) _
      refine XS.dup X41.here hx rfl (hb hby d7_3) rfl rfl ?_
      show Steps p.tables e below (T41.setTop (mkF m 4 #[.val (.int p1)] [(.ref b41), (.ref b41)])) _
      refine XS.iconst X41.here hx rfl (hb hby d7_4) ?_
      show Steps p.tables e below (T41.setTop (mkF m 5 #[.val (.int p1)] [(.int (0 : Int32)), (.ref b41), (.ref b41)])) _
      refine XS.iloadN X41.here hx rfl (hb hby d7_5) rfl ?_
      show Steps p.tables e below (T41.setTop (mkF m 6 #[.val (.int p1)] [(.int p1), (.int (0 : Int32)), (.ref b41), (.ref b41)])) _
      refine XS.i2b X41.here hx rfl (hb hby d7_6) rfl ?_
      show Steps p.tables e below (T41.setTop (mkF m 7 #[.val (.int p1)] [(.int (p1.toInt8.toInt32)), (.int (0 : Int32)), (.ref b41), (.ref b41)])) _
      exact h)
  obtain ⟨cl46, Ar46, q46, Sz46, Ng46, Hs46, G46⟩ := id V_b41
  have hin46 : ¬ ((0 : Int32) < 0 ∨ cl46.slots.size ≤ ((0 : Int32)).toNatClampNeg) := inb_of Sz46 ⟨by decide, by decide⟩
  obtain ⟨T46, h46, X46, e46, W46, st46⟩ := stB X41 hx hZ e41 Ar46 (j := (0 : Int32)) hin46 (g := (mkF m 7 #[.val (.int p1)] [(.int (p1.toInt8.toInt32)), (.int (0 : Int32)), (.ref b41), (.ref b41)])) rfl rfl (hb hby d7_7)
  have k48 : Rch p e below S0 T46 (mkF m 8 #[.val (.int p1)] [(.ref b41)]) := fun t h => k47 t (st46 t h)
  have N46 := Fr.snoc X46 N0 ge_b41
  have V_b41' := Arv.set Ar46 q46 Sz46 Ng46 Hs46 G46 (fits_nar_byte _) W46 0 rfl (Nat.le_of_ble_eq_true rfl)
  replace V_b41 : Arv Z h46 b41 k41 .byte (1 : Int32) [(.int (nar .byte (p1.toInt8.toInt32)))] (.int (0 : Int32)) := V_b41'
  have O49 := O44.wr W46 ge_b41
  have K50 := K45.wr W46 (Or.inr sz_b41)
  obtain ⟨fs, hr, hrun, hended, hW, hsame⟩ := X46.leave (v := (some (.ref b41))) (fun h => by rw [Bd.returns] at h; cases h)
  refine ⟨_, _, ?_, hrun, hended, _, _, rfl, ?_, ⟨_, rfl⟩, hW, hsame.mono (by decide) (by decide)⟩
  · rw [← hS0]
    refine k48 _ ?_
    show Steps p.tables e below (T46.setTop (mkF m 8 #[.val (.int p1)] [(.ref b41)])) _
    jvm_step X46.here [X46.here.top, hx, (hb hby d7_8), X46.method', Bd.returns, Value.isRef, FieldType.isReference]
    first | (intro acts; rw [hr _ acts rfl rfl rfl]) | rw [hr _ _ rfl rfl rfl]
    exact Steps.refl _
  · show Q_rmTB Z p1 h0 n0 _ T46.heap _
    rw [e46]
    exact ⟨b41, k41, rfl, N46, own_ext K50, sz_b41, V_b41⟩
def Q_rmBB (Z : State) (a1 : Addr) (a2 : Addr) (h0 : Heap) (n0 : Nat) (v : Option Value) (h : Heap) (L : List Loc) : Prop := v = none ∧ Fr n0 L ∧ Keep h0 h [a1] ∧ Fld Z h a1 "java/lang/String" "value" "[B" (.ref a2) ∧ Fld Z h a1 "java/lang/String" "coder" "B" (.int (0 : Int32))
theorem ef_8 (m : MethodId) (x0 : Addr) (x1 : Addr) (x2 : Int32) : entryFrame m #[(.ref x0), (.ref x1), (.int x2)] 3 = mkF m 0 #[.val (.ref x0), .val (.ref x1), .val (.int x2)] [] := by first | (simp [entryFrame, mkF, argsToLocals, Value.category]; done) | rfl
theorem d8_0 : decode jdk_42_method_151_code 0 = .ok (.aload_n 0, 1) := by decide +kernel
theorem d8_1 : decode jdk_42_method_151_code 1 = .ok (.invokespecial 1, 3) := by decide +kernel
theorem d8_4 : decode jdk_42_method_151_code 4 = .ok (.aload_n 0, 1) := by decide +kernel
theorem d8_5 : decode jdk_42_method_151_code 5 = .ok (.aload_n 1, 1) := by decide +kernel
theorem d8_6 : decode jdk_42_method_151_code 6 = .ok (.putfield 9, 3) := by decide +kernel
theorem d8_9 : decode jdk_42_method_151_code 9 = .ok (.aload_n 0, 1) := by decide +kernel
theorem d8_10 : decode jdk_42_method_151_code 10 = .ok (.iload_n 2, 1) := by decide +kernel
theorem d8_11 : decode jdk_42_method_151_code 11 = .ok (.putfield 15, 3) := by decide +kernel
theorem d8_14 : decode jdk_42_method_151_code 14 = .ok (.return_, 1) := by decide +kernel
set_option maxRecDepth 65536 in
set_option maxHeartbeats 40000000 in
theorem rmBB (l : Launch) (Z : State) (a0 : Array Value) (hw : ∀ d ∈ tables_1, d.before a0 Z = true) (ws : List Jvm.Cond) (a1 : Addr) (a2 : Addr) (h0 : Heap) (n0 : Nat) (O0 : Old Z n0 h0) (ge_a1 : n0 ≤ a1) (E_a1 : Exa Z h0 a1 "java/lang/String") (F_a1_value : Fld Z h0 a1 "java/lang/String" "value" "[B" .null) (F_a1_coder : Fld Z h0 a1 "java/lang/String" "coder" "B" (.int (0 : Int32))) :
    MetFree l (⟨"java/lang/String", "<init>", "([BB)V"⟩ : MethodName) (head1 (Jvm.Cond.code (⟨"java/lang/String", "<init>", "([BB)V"⟩ : MethodName) jdk_42_method_151_code 3 none :: ws) ({ frames := 1, cells := 0, slots := 0, locals := 24 } : Room)) (fun a U => a = #[(.ref a1), (.ref a2), (.int (0 : Int32))] ∧ Z.Warmed39 U.vm ∧ U.heap = h0) (fun _ _ _ _ _ => True) (fun _ U o U' => ∃ v L, o = .returned v ∧ Q_rmBB Z a1 a2 h0 n0 v U'.heap L ∧ FrameEnd U o U' L ({ frames := 1, cells := 0, slots := 0, locals := 24 } : Room).cells ({ frames := 1, cells := 0, slots := 0, locals := 24 } : Room).slots) := by
  refine MetFree.of_bodySF (plainFor_of_name pn_String) hisR ?_
  intro p e s m args below meth c s₁ Bd hml0 hP hK
  obtain ⟨rfl, hZ, hh⟩ := hP
  have hx := Bd.exec
  have hby := Bd.bytes
  have hml : c.maxLocals = 3 := hml0
  have hown : s.vm.findClass "java/lang/String" = some m.cls := findClass_of_methodNamed Bd.named
  have hnm := (name_of_methodNamed Bd.named Bd.method).1
  have X0 : Stand p l e ({ frames := 1, cells := 0, slots := 0, locals := 24 } : Room) s m #[(.ref a1), (.ref a2), (.int (0 : Int32))] below meth c s₁ [] 0 0 := Stand.of_body Bd
  have e0 : s₁.heap = h0 := by rw [← hh, Bd.state]; rfl
  have N0 := Fr.nil n0
  obtain ⟨S0, hS0⟩ : ∃ z, z = s₁.setTop (entryFrame m #[(.ref a1), (.ref a2), (.int (0 : Int32))] 3) := ⟨_, rfl⟩
  have k0 : Rch p e below S0 s₁ (mkF m 0 #[.val (.ref a1), .val (.ref a2), .val (.int (0 : Int32))] []) := fun t k => hS0 ▸ castTop (ef_8 m a1 a2 (0 : Int32)) k
  have K0 : Keep h0 h0 [a1] := Keep.refl h0 _
  have k52 : Rch p e below S0 s₁ (mkF m 1 #[.val (.ref a1), .val (.ref a2), .val (.int (0 : Int32))] [(.ref a1)]) := fun t h => k0 t (by
      show Steps p.tables e below (s₁.setTop (mkF m 0 #[.val (.ref a1), .val (.ref a2), .val (.int (0 : Int32))] [])) _
      refine XS.aloadN X0.here hx rfl (hb hby d8_0) rfl rfl ?_
      show Steps p.tables e below (s₁.setTop (mkF m 1 #[.val (.ref a1), .val (.ref a2), .val (.int (0 : Int32))] [(.ref a1)])) _
      exact h)
  obtain ⟨T51, X51, e51, st51⟩ := initO X0 hx hZ hown (hw _ (List.mem_of_getElem? (i := 15) rfl)) (hw _ (List.mem_of_getElem? (i := 16) rfl)) (hw _ (List.mem_of_getElem? (i := 17) rfl)) e0 (g := (mkF m 1 #[.val (.ref a1), .val (.ref a2), .val (.int (0 : Int32))] [(.ref a1)])) rfl (by rw [hml]; rfl) rfl (hb hby d8_1) (by decide) (W := 0) (by show 2 * 0 + _ ≤ _; exact Nat.le_of_eq rfl) (by decide)
  have k53 : Rch p e below S0 T51 (mkF m 4 #[.val (.ref a1), .val (.ref a2), .val (.int (0 : Int32))] []) := fun t h => k52 t (st51 t h)
  have k55 : Rch p e below S0 T51 (mkF m 6 #[.val (.ref a1), .val (.ref a2), .val (.int (0 : Int32))] [(.ref a2), (.ref a1)]) := fun t h => k53 t (by
      show Steps p.tables e below (T51.setTop (mkF m 4 #[.val (.ref a1), .val (.ref a2), .val (.int (0 : Int32))] [])) _
      refine XS.aloadN X51.here hx rfl (hb hby d8_4) rfl rfl ?_
      show Steps p.tables e below (T51.setTop (mkF m 5 #[.val (.ref a1), .val (.ref a2), .val (.int (0 : Int32))] [(.ref a1)])) _
      refine XS.aloadN X51.here hx rfl (hb hby d8_5) rfl rfl ?_
      show Steps p.tables e below (T51.setTop (mkF m 6 #[.val (.ref a1), .val (.ref a2), .val (.int (0 : Int32))] [(.ref a2), (.ref a1)])) _
      exact h)
  obtain ⟨T54, h54, X54, e54, W54, st54⟩ := putF X51 hx hZ hown (host := "") (Or.inl (hw _ (List.mem_of_getElem? (i := 24) rfl))) Via.refl e51 F_a1_value E_a1 (Or.inr ⟨(hw _ (List.mem_of_getElem? (i := 20) rfl)), rfl, hnm⟩) (hw _ (List.mem_of_getElem? (i := 5) rfl)) (ty := (.array .byte)) (by decide) rfl rfl (g := (mkF m 6 #[.val (.ref a1), .val (.ref a2), .val (.int (0 : Int32))] [(.ref a2), (.ref a1)])) rfl rfl (hb hby d8_6)
  have k56 : Rch p e below S0 T54 (mkF m 9 #[.val (.ref a1), .val (.ref a2), .val (.int (0 : Int32))] []) := fun t h => k55 t (st54 t h)
  have N54 := Fr.snoc X54 N0 ge_a1
  replace F_a1_value := F_a1_value.same W54
  have O57 := O0.wr W54 ge_a1
  have K58 := K0.wr W54 (Or.inl (List.mem_of_getElem? (i := 0) rfl))
  replace E_a1 := E_a1.wr W54
  replace F_a1_coder := F_a1_coder.other W54 (Or.inr (slot_ne (Or.inr (hw _ (List.mem_of_getElem? (i := 21) rfl))) (Or.inr (hw _ (List.mem_of_getElem? (i := 20) rfl))) (by decide) (t := .byte) (t' := (.array .byte)) (by decide) (by decide)))
  have k60 : Rch p e below S0 T54 (mkF m 11 #[.val (.ref a1), .val (.ref a2), .val (.int (0 : Int32))] [(.int (0 : Int32)), (.ref a1)]) := fun t h => k56 t (by
      show Steps p.tables e below (T54.setTop (mkF m 9 #[.val (.ref a1), .val (.ref a2), .val (.int (0 : Int32))] [])) _
      refine XS.aloadN X54.here hx rfl (hb hby d8_9) rfl rfl ?_
      show Steps p.tables e below (T54.setTop (mkF m 10 #[.val (.ref a1), .val (.ref a2), .val (.int (0 : Int32))] [(.ref a1)])) _
      refine XS.iloadN X54.here hx rfl (hb hby d8_10) rfl ?_
      show Steps p.tables e below (T54.setTop (mkF m 11 #[.val (.ref a1), .val (.ref a2), .val (.int (0 : Int32))] [(.int (0 : Int32)), (.ref a1)])) _
      exact h)
  obtain ⟨T59, h59, X59, e59, W59, st59⟩ := putFN X54 hx hZ hown (hw _ (List.mem_of_getElem? (i := 25) rfl)) Via.refl e54 F_a1_coder E_a1 (Or.inr ⟨(hw _ (List.mem_of_getElem? (i := 21) rfl)), rfl, hnm⟩) (hw _ (List.mem_of_getElem? (i := 5) rfl)) (ty := .byte) (v' := (.int (0 : Int32))) (by decide) (by decide) (by decide) (g := (mkF m 11 #[.val (.ref a1), .val (.ref a2), .val (.int (0 : Int32))] [(.int (0 : Int32)), (.ref a1)])) rfl rfl (hb hby d8_11)
  have k61 : Rch p e below S0 T59 (mkF m 14 #[.val (.ref a1), .val (.ref a2), .val (.int (0 : Int32))] []) := fun t h => k60 t (st59 t h)
  have N59 := Fr.snoc X59 N54 ge_a1
  replace F_a1_coder := F_a1_coder.same W59
  have O62 := O57.wr W59 ge_a1
  have K63 := K58.wr W59 (Or.inl (List.mem_of_getElem? (i := 0) rfl))
  replace E_a1 := E_a1.wr W59
  replace F_a1_value := F_a1_value.other W59 (Or.inr (slot_ne (Or.inr (hw _ (List.mem_of_getElem? (i := 20) rfl))) (Or.inr (hw _ (List.mem_of_getElem? (i := 21) rfl))) (by decide) (t := (.array .byte)) (t' := .byte) (by decide) (by decide)))
  obtain ⟨fs, hr, hrun, hended, hW, hsame⟩ := X59.leave (v := none) (fun _ => rfl)
  refine ⟨_, _, ?_, hrun, hended, _, _, rfl, ?_, ⟨_, rfl⟩, hW, hsame.mono (by decide) (by decide)⟩
  · rw [← hS0]
    refine k61 _ ?_
    show Steps p.tables e below (T59.setTop (mkF m 14 #[.val (.ref a1), .val (.ref a2), .val (.int (0 : Int32))] [])) _
    exact X59.returnOut hx Bd.returns (hb hby d8_14) hr
  · show Q_rmBB Z a1 a2 h0 n0 _ T59.heap _
    rw [e59]
    exact ⟨rfl, N59, K63, F_a1_value, F_a1_coder⟩
def Q_rmVO (Z : State)  (h0 : Heap) (n0 : Nat) (v : Option Value) (h : Heap) (L : List Loc) : Prop := ∃ x, v = some (.ref x) ∧ Fr n0 L ∧ Ext h0 h ∧ h0.size ≤ x ∧ Exa Z h x "java/lang/String"
theorem ef_5 (m : MethodId) (x0 : Int32) : entryFrame m #[(.int x0)] 1 = mkF m 0 #[.val (.int x0)] [] := by first | (simp [entryFrame, mkF, argsToLocals, Value.category]; done) | rfl
theorem d5_0 : decode jdk_42_method_139_code 0 = .ok (.getstatic 38, 3) := by decide +kernel
theorem d5_3 : decode jdk_42_method_139_code 3 = .ok (.ifCond .eq 23, 3) := by decide +kernel
theorem d5_6 : decode jdk_42_method_139_code 6 = .ok (.iload_n 0, 1) := by decide +kernel
theorem pd_5 : parseMethodDescriptor "(C)Z" = some ⟨[.char], some .boolean⟩ := by decide +kernel
theorem d5_7 : decode jdk_42_method_139_code 7 = .ok (.invokestatic 1015, 3) := by decide +kernel
theorem d5_10 : decode jdk_42_method_139_code 10 = .ok (.ifCond .eq 16, 3) := by decide +kernel
theorem d5_13 : decode jdk_42_method_139_code 13 = .ok (.new 10, 3) := by decide +kernel
theorem d5_16 : decode jdk_42_method_139_code 16 = .ok (.dup, 1) := by decide +kernel
theorem d5_17 : decode jdk_42_method_139_code 17 = .ok (.iload_n 0, 1) := by decide +kernel
theorem pd_6 : parseMethodDescriptor "(C)[B" = some ⟨[.char], some (.array .byte)⟩ := by decide +kernel
theorem d5_18 : decode jdk_42_method_139_code 18 = .ok (.invokestatic 1018, 3) := by decide +kernel
theorem d5_21 : decode jdk_42_method_139_code 21 = .ok (.iconst 0, 1) := by decide +kernel
theorem pd_7 : parseMethodDescriptor "([BB)V" = some ⟨[(.array .byte), .byte], none⟩ := by decide +kernel
theorem d5_22 : decode jdk_42_method_139_code 22 = .ok (.invokespecial 209, 3) := by decide +kernel
theorem d5_25 : decode jdk_42_method_139_code 25 = .ok (.areturn, 1) := by decide +kernel
set_option maxRecDepth 65536 in
set_option maxHeartbeats 40000000 in
theorem rmVO (l : Launch) (Z : State) (a0 : Array Value) (hw : ∀ d ∈ tables_1, d.before a0 Z = true) (ws : List Jvm.Cond) (p1 : Int32) (zC : Int32) (h0 : Heap) (n0 : Nat) (O0 : Old Z n0 h0) (SC : Sta Z Z.heap "java/lang/String" "COMPACT_STRINGS" "Z" (.int zC)) (hzC : ¬ zC = 0) (hq : ¬ ((255 : Int32) < p1)) :
    MetFree l (⟨"java/lang/String", "valueOf", "(C)Ljava/lang/String;"⟩ : MethodName) (head1 (Jvm.Cond.code (⟨"java/lang/String", "valueOf", "(C)Ljava/lang/String;"⟩ : MethodName) jdk_42_method_139_code 1 (some (.object "java/lang/String")) :: ws) ({ frames := 2, cells := 2, slots := 5, locals := 50 } : Room)) (fun a U => a = #[(.int p1)] ∧ Z.Warmed39 U.vm ∧ U.heap = h0) (fun _ _ _ _ _ => True) (fun _ U o U' => ∃ v L, o = .returned v ∧ Q_rmVO Z  h0 n0 v U'.heap L ∧ FrameEnd U o U' L ({ frames := 2, cells := 2, slots := 5, locals := 50 } : Room).cells ({ frames := 2, cells := 2, slots := 5, locals := 50 } : Room).slots) := by
  refine MetFree.of_bodySF (plainFor_of_name pn_String) hisR ?_
  intro p e s m args below meth c s₁ Bd hml0 hP hK
  obtain ⟨rfl, hZ, hh⟩ := hP
  have hx := Bd.exec
  have hby := Bd.bytes
  have hml : c.maxLocals = 1 := hml0
  have hown : s.vm.findClass "java/lang/String" = some m.cls := findClass_of_methodNamed Bd.named
  have hnm := (name_of_methodNamed Bd.named Bd.method).1
  have X0 : Stand p l e ({ frames := 2, cells := 2, slots := 5, locals := 50 } : Room) s m #[(.int p1)] below meth c s₁ [] 0 0 := Stand.of_body Bd
  have e0 : s₁.heap = h0 := by rw [← hh, Bd.state]; rfl
  have N0 := Fr.nil n0
  obtain ⟨S0, hS0⟩ : ∃ z, z = s₁.setTop (entryFrame m #[(.int p1)] 1) := ⟨_, rfl⟩
  have k0 : Rch p e below S0 s₁ (mkF m 0 #[.val (.int p1)] []) := fun t k => hS0 ▸ castTop (ef_5 m p1) k
  have K0 : Keep h0 h0 [] := Keep.refl h0 _
  obtain ⟨T64, X64, e64, st64⟩ := getS2 X0 hx hZ hown (host := "") (Or.inl (hw _ (List.mem_of_getElem? (i := 33) rfl))) Via.refl e0 (SC.ext O0.2) (g := (mkF m 0 #[.val (.int p1)] [])) rfl (hb hby d5_0)
  have k65 : Rch p e below S0 T64 (mkF m 3 #[.val (.int p1)] [(.int zC)]) := fun t h => k0 t (st64 t h)
  have k66 : Rch p e below S0 T64 (mkF m 7 #[.val (.int p1)] [(.int p1)]) := fun t h => k65 t (by
      show Steps p.tables e below (T64.setTop (mkF m 3 #[.val (.int p1)] [(.int zC)])) _
      refine XS.ifNo X64.here hx rfl (hb hby d5_3) rfl ((if0 _ _).trans (feq (hzC : ¬ (zC = (0 : Int32)))).1) ?_
      show Steps p.tables e below (T64.setTop (mkF m 6 #[.val (.int p1)] [])) _
      refine XS.iloadN X64.here hx rfl (hb hby d5_6) rfl ?_
      show Steps p.tables e below (T64.setTop (mkF m 7 #[.val (.int p1)] [(.int p1)])) _
      exact h)
  obtain ⟨_, _, ⟨T67, L67, kk67, n67⟩, -, X67, ⟨Lc67, hQ67, l67, y67, z67⟩, st67⟩ := Jvm.LawKit.callS X64 hx (y := (⟨"java/lang/StringLatin1", "canEncode", "(C)Z"⟩ : MethodName)) hown (mvT hZ (hw _ (List.mem_of_getElem? (i := 34) rfl))) (mvT hZ (hw _ (List.mem_of_getElem? (i := 35) rfl))) (mvT hZ (hw _ (List.mem_of_getElem? (i := 36) rfl))) (mvT hZ (hw _ (List.mem_of_getElem? (i := 37) rfl))) (by decide) (backOf (W := 0) (rmCE l Z a0 hw [] p1  h0 n0 O0 hq) hZ (hw _ (List.mem_of_getElem? (i := 37) rfl)) (hw _ (List.mem_of_getElem? (i := 36) rfl)) (by decide) (by decide)) (g := (mkF m 7 #[.val (.int p1)] [(.int p1)])) rfl (by rw [hml]; rfl) (argsL := [(.int p1)]) (rest := []) (lenOf pd_5 rfl) rfl (by show 2 * 0 + _ ≤ _; exact Nat.le_of_eq rfl) (hb hby d5_7) (fun _ _ => ⟨rfl, e64, (by decide : 0 + 0 ≤ _), (by decide : 0 + 0 ≤ _)⟩)
  dsimp only [Pt.U, Pt.locs, Pt.cells, Pt.slots] at X67 l67 y67 z67 st67 hQ67
  subst l67 y67 z67
  obtain ⟨rfl, Nq67, hh67⟩ := hQ67
  have N67 := Fr.app N0 Nq67
  have k68 : Rch p e below S0 T67 (mkF m 10 #[.val (.int p1)] [(.int (1 : Int32))]) := fun t h => k66 t (st67 t h)
  have k70 : Rch p e below S0 T67 (mkF m 13 #[.val (.int p1)] []) := fun t h => k68 t (by
      show Steps p.tables e below (T67.setTop (mkF m 10 #[.val (.int p1)] [(.int (1 : Int32))])) _
      refine XS.ifNo X67.here hx rfl (hb hby d5_10) rfl ((if0 _ _).trans (feq (by decide : ¬ ((1 : Int32) = (0 : Int32)))).1) ?_
      show Steps p.tables e below (T67.setTop (mkF m 13 #[.val (.int p1)] [])) _
      exact h)
  obtain ⟨T69, h69, X69, e69, E69, A69, D69, -, st69⟩ := newO X67 hx hZ hown (hw _ (List.mem_of_getElem? (i := 38) rfl)) (hw _ (List.mem_of_getElem? (i := 5) rfl)) (hw _ (List.mem_of_getElem? (i := 6) rfl)) hh67 (g := (mkF m 13 #[.val (.int p1)] [])) rfl (hb hby d5_13) (by decide) (by decide)
  obtain ⟨b69, g69⟩ : ∃ z, z = h0.size := ⟨_, rfl⟩
  rw [← g69] at A69 D69 st69
  have k71 : Rch p e below S0 T69 (mkF m 16 #[.val (.int p1)] [(.ref b69)]) := fun t h => k70 t (st69 t h)
  have ge_b69 : n0 ≤ b69 := own_ge O0 (Nat.le_of_eq g69.symm)
  have sz_b69 : h0.size ≤ b69 := Nat.le_trans K0.1 (Nat.le_of_eq g69.symm)
  have O72 := O0.ext E69
  have K73 := K0.ext E69
  have E_b69 := A69
  have F_b69_value : Fld Z h69 b69 "java/lang/String" "value" "[B" .null := D69 (Or.inr (hw _ (List.mem_of_getElem? (i := 20) rfl))) (ty := (.array .byte)) (by decide)
  have F_b69_coder : Fld Z h69 b69 "java/lang/String" "coder" "B" (.int (0 : Int32)) := D69 (Or.inr (hw _ (List.mem_of_getElem? (i := 21) rfl))) (ty := .byte) (by decide)
  have k74 : Rch p e below S0 T69 (mkF m 18 #[.val (.int p1)] [(.int p1), (.ref b69), (.ref b69)]) := fun t h => k71 t (by
      show Steps p.tables e below (T69.setTop (mkF m 16 #[.val (.int p1)] [(.ref b69)])) _
      refine XS.dup X69.here hx rfl (hb hby d5_16) rfl rfl ?_
      show Steps p.tables e below (T69.setTop (mkF m 17 #[.val (.int p1)] [(.ref b69), (.ref b69)])) _
      refine XS.iloadN X69.here hx rfl (hb hby d5_17) rfl ?_
      show Steps p.tables e below (T69.setTop (mkF m 18 #[.val (.int p1)] [(.int p1), (.ref b69), (.ref b69)])) _
      exact h)
  obtain ⟨_, _, ⟨T75, L75, kk75, n75⟩, -, X75, ⟨Lc75, hQ75, l75, y75, z75⟩, st75⟩ := Jvm.LawKit.callS X69 hx (y := (⟨"java/lang/StringLatin1", "toBytes", "(C)[B"⟩ : MethodName)) hown (mvT hZ (hw _ (List.mem_of_getElem? (i := 39) rfl))) (mvT hZ (hw _ (List.mem_of_getElem? (i := 40) rfl))) (mvT hZ (hw _ (List.mem_of_getElem? (i := 36) rfl))) (mvT hZ (hw _ (List.mem_of_getElem? (i := 41) rfl))) (by decide) (backOf (W := 2) (rmTB l Z a0 hw [] p1  h69 n0 O72 ) hZ (hw _ (List.mem_of_getElem? (i := 41) rfl)) (hw _ (List.mem_of_getElem? (i := 36) rfl)) (by decide) (by decide)) (g := (mkF m 18 #[.val (.int p1)] [(.int p1), (.ref b69), (.ref b69)])) rfl (by rw [hml]; rfl) (argsL := [(.int p1)]) (rest := [(.ref b69), (.ref b69)]) (lenOf pd_6 rfl) rfl (by show 2 * 0 + _ ≤ _; exact Nat.le_of_eq rfl) (hb hby d5_18) (fun _ _ => ⟨rfl, e69, (by decide : 1 + 1 ≤ _), (by decide : 4 + 1 ≤ _)⟩)
  dsimp only [Pt.U, Pt.locs, Pt.cells, Pt.slots] at X75 l75 y75 z75 st75 hQ75
  subst l75 y75 z75
  obtain ⟨b75, kb75, rfl, Nq75, E75, z75, V75⟩ := hQ75
  have N75 := Fr.app N67 Nq75
  have k76 : Rch p e below S0 T75 (mkF m 21 #[.val (.int p1)] [(.ref b75), (.ref b69), (.ref b69)]) := fun t h => k74 t (st75 t h)
  have ne_b69_b75 : b69 ≠ b75 := own_ne E_b69.lt z75
  have ge_b75 : n0 ≤ b75 := own_ge O72 z75
  have sz_b75 : h0.size ≤ b75 := Nat.le_trans K73.1 z75
  have O77 := O72.ext E75
  have K78 := K73.ext E75
  replace E_b69 := E_b69.ext E75
  replace F_b69_value := F_b69_value.ext E75
  replace F_b69_coder := F_b69_coder.ext E75
  have k79 : Rch p e below S0 T75 (mkF m 22 #[.val (.int p1)] [(.int (0 : Int32)), (.ref b75), (.ref b69), (.ref b69)]) := fun t h => k76 t (by
      show Steps p.tables e below (T75.setTop (mkF m 21 #[.val (.int p1)] [(.ref b75), (.ref b69), (.ref b69)])) _
      refine XS.iconst X75.here hx rfl (hb hby d5_21) ?_
      show Steps p.tables e below (T75.setTop (mkF m 22 #[.val (.int p1)] [(.int (0 : Int32)), (.ref b75), (.ref b69), (.ref b69)])) _
      exact h)
  obtain ⟨_, _, ⟨T80, L80, kk80, n80⟩, -, X80, ⟨Lc80, hQ80, l80, y80, z80⟩, st80⟩ := X75.specialBack hx (y := (⟨"java/lang/String", "<init>", "([BB)V"⟩ : MethodName)) rfl hown (mvT hZ (hw _ (List.mem_of_getElem? (i := 42) rfl))) (mvT hZ (hw _ (List.mem_of_getElem? (i := 43) rfl))) (mvT hZ (hw _ (List.mem_of_getElem? (i := 44) rfl))) (by decide) (backOf (W := 1) (rmBB l Z a0 hw [] b69 b75  T75.heap n0 O77 ge_b69 E_b69 F_b69_value F_b69_coder) hZ (hw _ (List.mem_of_getElem? (i := 44) rfl)) (hw _ (List.mem_of_getElem? (i := 6) rfl)) (by decide) (by decide)) (g := (mkF m 22 #[.val (.int p1)] [(.int (0 : Int32)), (.ref b75), (.ref b69), (.ref b69)])) rfl (by rw [hml]; rfl) (Steps.refl _) (a := b69) (argsL := [(.ref b75), (.int (0 : Int32))]) (rest := [(.ref b69)]) (lenOf pd_7 rfl) rfl (by show 2 * 0 + _ ≤ _; exact Nat.le_of_eq rfl) (hb hby d5_22) (fun _ _ => ⟨rfl, rfl, (by decide : 2 + 0 ≤ _), (by decide : 5 + 0 ≤ _)⟩)
  dsimp only [Pt.U, Pt.locs, Pt.cells, Pt.slots] at X80 l80 y80 z80 st80 hQ80
  subst l80 y80 z80
  obtain ⟨rfl, Nq80, K80, Fv80, Fc80⟩ := hQ80
  have N80 := Fr.app N75 Nq80
  have k81 : Rch p e below S0 T80 (mkF m 25 #[.val (.int p1)] [(.ref b69)]) := fun t h => k79 t (st80.trans h)
  have O82 := O77.keep K80 (allS ge_b69 all0)
  have K83 := K78.trans K80 (allS (Or.inr sz_b69) all0)
  replace E_b69 := E_b69.keep K80
  replace V75 := V75.keep K80 (ninS (Ne.symm ne_b69_b75) nin0)
  obtain ⟨fs, hr, hrun, hended, hW, hsame⟩ := X80.leave (v := (some (.ref b69))) (fun h => by rw [Bd.returns] at h; cases h)
  refine ⟨_, _, ?_, hrun, hended, _, _, rfl, ?_, ⟨_, rfl⟩, hW, hsame.mono (by decide) (by decide)⟩
  · rw [← hS0]
    refine k81 _ ?_
    show Steps p.tables e below (T80.setTop (mkF m 25 #[.val (.int p1)] [(.ref b69)])) _
    jvm_step X80.here [X80.here.top, hx, (hb hby d5_25), X80.method', Bd.returns, Value.isRef, FieldType.isReference]
    first | (intro acts; rw [hr _ acts rfl rfl rfl]) | rw [hr _ _ rfl rfl rfl]
    exact Steps.refl _
  · show Q_rmVO Z  h0 n0 _ T80.heap _
    exact ⟨b69, rfl, N80, own_ext K83, sz_b69, E_b69⟩
def Q_rmP (Z : State)  (h0 : Heap) (n0 : Nat) (v : Option Value) (h : Heap) (L : List Loc) : Prop := ∃ c : Int32, v = some (.int c) ∧ Fr n0 L ∧ h = h0 ∧ ¬ c < 0 ∧ ¬ (255 : Int32) < c
theorem ef_1 (m : MethodId) (x0 : Int32) : entryFrame m #[(.int x0)] 1 = mkF m 0 #[.val (.int x0)] [] := by first | (simp [entryFrame, mkF, argsToLocals, Value.category]; done) | rfl
theorem pn_CabinetFunctionIsSigningPinLaw : plainName "com/example/suretygate/suretygate/rolemodel/CabinetFunctionIsSigningPinLaw" = true := by first | (simp [plainName, overriddenIn]; done) | decide +kernel
theorem d1_0 : decode method_3_code 0 = .ok (.iload_n 0, 1) := by decide +kernel
theorem d1_1 : decode method_3_code 1 = .ok (.iconst 1, 1) := by decide +kernel
theorem d1_2 : decode method_3_code 2 = .ok (.iand, 1) := by decide +kernel
theorem d1_3 : decode method_3_code 3 = .ok (.ifCond .eq 8, 3) := by decide +kernel
theorem d1_11 : decode method_3_code 11 = .ok (.iload_n 0, 1) := by decide +kernel
theorem d1_12 : decode method_3_code 12 = .ok (.iconst 1, 1) := by decide +kernel
theorem d1_13 : decode method_3_code 13 = .ok (.iushr, 1) := by decide +kernel
theorem d1_14 : decode method_3_code 14 = .ok (.sipush 255, 3) := by decide +kernel
theorem d1_17 : decode method_3_code 17 = .ok (.iand, 1) := by decide +kernel
theorem d1_18 : decode method_3_code 18 = .ok (.i2c, 1) := by decide +kernel
theorem d1_19 : decode method_3_code 19 = .ok (.ireturn, 1) := by decide +kernel
theorem d1_6 : decode method_3_code 6 = .ok (.bipush 45, 2) := by decide +kernel
theorem d1_8 : decode method_3_code 8 = .ok (.goto 11, 3) := by decide +kernel
set_option maxRecDepth 65536 in
set_option maxHeartbeats 40000000 in
theorem rmP (l : Launch) (Z : State) (a0 : Array Value) (hw : ∀ d ∈ tables_1, d.before a0 Z = true) (ws : List Jvm.Cond) (p1 : Int32) (h0 : Heap) (n0 : Nat) (O0 : Old Z n0 h0) :
    MetFree l (⟨"com/example/suretygate/suretygate/rolemodel/CabinetFunctionIsSigningPinLaw", "pick", "(I)C"⟩ : MethodName) (head1 (Jvm.Cond.code (⟨"com/example/suretygate/suretygate/rolemodel/CabinetFunctionIsSigningPinLaw", "pick", "(I)C"⟩ : MethodName) method_3_code 1 (some .char) :: ws) ({ frames := 0, cells := 0, slots := 0, locals := 0 } : Room)) (fun a U => a = #[(.int p1)] ∧ Z.Warmed39 U.vm ∧ U.heap = h0) (fun _ _ _ _ _ => True) (fun _ U o U' => ∃ v L, o = .returned v ∧ Q_rmP Z  h0 n0 v U'.heap L ∧ FrameEnd U o U' L ({ frames := 0, cells := 0, slots := 0, locals := 0 } : Room).cells ({ frames := 0, cells := 0, slots := 0, locals := 0 } : Room).slots) := by
  refine MetFree.of_bodySF (plainFor_of_name pn_CabinetFunctionIsSigningPinLaw) hisR ?_
  intro p e s m args below meth c s₁ Bd hml0 hP hK
  obtain ⟨rfl, hZ, hh⟩ := hP
  have hx := Bd.exec
  have hby := Bd.bytes
  have hml : c.maxLocals = 1 := hml0
  have hown : s.vm.findClass "com/example/suretygate/suretygate/rolemodel/CabinetFunctionIsSigningPinLaw" = some m.cls := findClass_of_methodNamed Bd.named
  have hnm := (name_of_methodNamed Bd.named Bd.method).1
  have X0 : Stand p l e ({ frames := 0, cells := 0, slots := 0, locals := 0 } : Room) s m #[(.int p1)] below meth c s₁ [] 0 0 := Stand.of_body Bd
  have e0 : s₁.heap = h0 := by rw [← hh, Bd.state]; rfl
  have N0 := Fr.nil n0
  obtain ⟨S0, hS0⟩ : ∃ z, z = s₁.setTop (entryFrame m #[(.int p1)] 1) := ⟨_, rfl⟩
  have k0 : Rch p e below S0 s₁ (mkF m 0 #[.val (.int p1)] []) := fun t k => hS0 ▸ castTop (ef_1 m p1) k
  by_cases hc : p1 &&& 1 = 0
  · have k84 : Rch p e below S0 s₁ (mkF m 19 #[.val (.int p1)] [(.int (((p1.toUInt32 >>> ((1 : Int32) &&& 31).toUInt32).toInt32) &&& (255 : Int32)))]) := fun t h => k0 t (by
        show Steps p.tables e below (s₁.setTop (mkF m 0 #[.val (.int p1)] [])) _
        refine XS.iloadN X0.here hx rfl (hb hby d1_0) rfl ?_
        show Steps p.tables e below (s₁.setTop (mkF m 1 #[.val (.int p1)] [(.int p1)])) _
        refine XS.iconst X0.here hx rfl (hb hby d1_1) ?_
        show Steps p.tables e below (s₁.setTop (mkF m 2 #[.val (.int p1)] [(.int (1 : Int32)), (.int p1)])) _
        refine XS.iand X0.here hx rfl (hb hby d1_2) rfl ?_
        show Steps p.tables e below (s₁.setTop (mkF m 3 #[.val (.int p1)] [(.int (p1 &&& (1 : Int32)))])) _
        refine XS.ifYes X0.here hx rfl (pc0 := 3) (pc' := 11) rfl (hb hby d1_3) rfl ((if0 _ _).trans (teq (hc : (p1 &&& (1 : Int32)) = (0 : Int32))).1) (by decide) (by decide) ?_
        show Steps p.tables e below (s₁.setTop (mkF m 11 #[.val (.int p1)] [])) _
        refine XS.iloadN X0.here hx rfl (hb hby d1_11) rfl ?_
        show Steps p.tables e below (s₁.setTop (mkF m 12 #[.val (.int p1)] [(.int p1)])) _
        refine XS.iconst X0.here hx rfl (hb hby d1_12) ?_
        show Steps p.tables e below (s₁.setTop (mkF m 13 #[.val (.int p1)] [(.int (1 : Int32)), (.int p1)])) _
        refine XS.iushr X0.here hx rfl (hb hby d1_13) rfl ?_
        show Steps p.tables e below (s₁.setTop (mkF m 14 #[.val (.int p1)] [(.int ((p1.toUInt32 >>> ((1 : Int32) &&& 31).toUInt32).toInt32))])) _
        refine XS.sipush X0.here hx rfl (hb hby d1_14) ?_
        show Steps p.tables e below (s₁.setTop (mkF m 17 #[.val (.int p1)] [(.int (255 : Int32)), (.int ((p1.toUInt32 >>> ((1 : Int32) &&& 31).toUInt32).toInt32))])) _
        refine XS.iand X0.here hx rfl (hb hby d1_17) rfl ?_
        show Steps p.tables e below (s₁.setTop (mkF m 18 #[.val (.int p1)] [(.int (((p1.toUInt32 >>> ((1 : Int32) &&& 31).toUInt32).toInt32) &&& (255 : Int32)))])) _
        refine XS.i2c X0.here hx rfl (hb hby d1_18) rfl ?_
        rw [(own_nar (((p1.toUInt32 >>> ((1 : Int32) &&& 31).toUInt32).toInt32) &&& (255 : Int32)) (own_255 ((p1.toUInt32 >>> ((1 : Int32) &&& 31).toUInt32).toInt32))).2]
        show Steps p.tables e below (s₁.setTop (mkF m 19 #[.val (.int p1)] [(.int (((p1.toUInt32 >>> ((1 : Int32) &&& 31).toUInt32).toInt32) &&& (255 : Int32)))])) _
        exact h)
    obtain ⟨fs, hr, hrun, hended, hW, hsame⟩ := X0.leave (v := (some (.int (nar .char (((p1.toUInt32 >>> ((1 : Int32) &&& 31).toUInt32).toInt32) &&& (255 : Int32)))))) (fun h => by rw [Bd.returns] at h; cases h)
    refine ⟨_, _, ?_, hrun, hended, _, _, rfl, ?_, ⟨_, rfl⟩, hW, hsame.mono (by decide) (by decide)⟩
    · rw [← hS0]
      refine k84 _ ?_
      show Steps p.tables e below (s₁.setTop (mkF m 19 #[.val (.int p1)] [(.int (((p1.toUInt32 >>> ((1 : Int32) &&& 31).toUInt32).toInt32) &&& (255 : Int32)))])) _
      exact retN X0 hx (t := .char) Bd.returns (by simp) (hb hby d1_19) hr
    · show Q_rmP Z  h0 n0 _ s₁.heap _
      rw [e0]
      exact ⟨_, rfl, N0, rfl, by rw [(own_nar _ (own_255 _)).1]; exact own_255 _⟩
  · have k85 : Rch p e below S0 s₁ (mkF m 19 #[.val (.int p1)] [(.int (45 : Int32))]) := fun t h => k0 t (by
        show Steps p.tables e below (s₁.setTop (mkF m 0 #[.val (.int p1)] [])) _
        refine XS.iloadN X0.here hx rfl (hb hby d1_0) rfl ?_
        show Steps p.tables e below (s₁.setTop (mkF m 1 #[.val (.int p1)] [(.int p1)])) _
        refine XS.iconst X0.here hx rfl (hb hby d1_1) ?_
        show Steps p.tables e below (s₁.setTop (mkF m 2 #[.val (.int p1)] [(.int (1 : Int32)), (.int p1)])) _
        refine XS.iand X0.here hx rfl (hb hby d1_2) rfl ?_
        show Steps p.tables e below (s₁.setTop (mkF m 3 #[.val (.int p1)] [(.int (p1 &&& (1 : Int32)))])) _
        refine XS.ifNo X0.here hx rfl (hb hby d1_3) rfl ((if0 _ _).trans (feq (hc : ¬ ((p1 &&& (1 : Int32)) = (0 : Int32)))).1) ?_
        show Steps p.tables e below (s₁.setTop (mkF m 6 #[.val (.int p1)] [])) _
        refine XS.bipush X0.here hx rfl (hb hby d1_6) ?_
        show Steps p.tables e below (s₁.setTop (mkF m 8 #[.val (.int p1)] [(.int (45 : Int32))])) _
        refine XS.goto X0.here hx rfl (pc0 := 8) (pc' := 19) rfl (hb hby d1_8) (by decide) (by decide) ?_
        show Steps p.tables e below (s₁.setTop (mkF m 19 #[.val (.int p1)] [(.int (45 : Int32))])) _
        exact h)
    obtain ⟨fs, hr, hrun, hended, hW, hsame⟩ := X0.leave (v := (some (.int (nar .char (45 : Int32))))) (fun h => by rw [Bd.returns] at h; cases h)
    refine ⟨_, _, ?_, hrun, hended, _, _, rfl, ?_, ⟨_, rfl⟩, hW, hsame.mono (by decide) (by decide)⟩
    · rw [← hS0]
      refine k85 _ ?_
      show Steps p.tables e below (s₁.setTop (mkF m 19 #[.val (.int p1)] [(.int (45 : Int32))])) _
      exact retN X0 hx (t := .char) Bd.returns (by simp) (hb hby d1_19) hr
    · show Q_rmP Z  h0 n0 _ s₁.heap _
      rw [e0]
      exact ⟨_, rfl, N0, rfl, by decide, by decide⟩
def Q_rmR (Z : State) (a1 : Addr) (h0 : Heap) (n0 : Nat) (v : Option Value) (h : Heap) (L : List Loc) : Prop := v = none ∧ Fr n0 L ∧ h = h0
theorem ef_10 (m : MethodId) (x0 : Addr) : entryFrame m #[(.ref x0)] 1 = mkF m 0 #[.val (.ref x0)] [] := by first | (simp [entryFrame, mkF, argsToLocals, Value.category]; done) | rfl
theorem pn_Record : plainName "java/lang/Record" = true := by first | (simp [plainName, overriddenIn]; done) | decide +kernel
theorem d10_0 : decode jdk_30_method_1_code 0 = .ok (.aload_n 0, 1) := by decide +kernel
theorem d10_1 : decode jdk_30_method_1_code 1 = .ok (.invokespecial 1, 3) := by decide +kernel
theorem d10_4 : decode jdk_30_method_1_code 4 = .ok (.return_, 1) := by decide +kernel
set_option maxRecDepth 65536 in
set_option maxHeartbeats 40000000 in
theorem rmR (l : Launch) (Z : State) (a0 : Array Value) (hw : ∀ d ∈ tables_1, d.before a0 Z = true) (ws : List Jvm.Cond) (a1 : Addr) (h0 : Heap) (n0 : Nat) (O0 : Old Z n0 h0) :
    MetFree l (⟨"java/lang/Record", "<init>", "()V"⟩ : MethodName) (head1 (Jvm.Cond.code (⟨"java/lang/Record", "<init>", "()V"⟩ : MethodName) jdk_30_method_1_code 1 none :: ws) ({ frames := 1, cells := 0, slots := 0, locals := 12 } : Room)) (fun a U => a = #[(.ref a1)] ∧ Z.Warmed39 U.vm ∧ U.heap = h0) (fun _ _ _ _ _ => True) (fun _ U o U' => ∃ v L, o = .returned v ∧ Q_rmR Z a1 h0 n0 v U'.heap L ∧ FrameEnd U o U' L ({ frames := 1, cells := 0, slots := 0, locals := 12 } : Room).cells ({ frames := 1, cells := 0, slots := 0, locals := 12 } : Room).slots) := by
  refine MetFree.of_bodySF (plainFor_of_name pn_Record) hisR ?_
  intro p e s m args below meth c s₁ Bd hml0 hP hK
  obtain ⟨rfl, hZ, hh⟩ := hP
  have hx := Bd.exec
  have hby := Bd.bytes
  have hml : c.maxLocals = 1 := hml0
  have hown : s.vm.findClass "java/lang/Record" = some m.cls := findClass_of_methodNamed Bd.named
  have hnm := (name_of_methodNamed Bd.named Bd.method).1
  have X0 : Stand p l e ({ frames := 1, cells := 0, slots := 0, locals := 12 } : Room) s m #[(.ref a1)] below meth c s₁ [] 0 0 := Stand.of_body Bd
  have e0 : s₁.heap = h0 := by rw [← hh, Bd.state]; rfl
  have N0 := Fr.nil n0
  obtain ⟨S0, hS0⟩ : ∃ z, z = s₁.setTop (entryFrame m #[(.ref a1)] 1) := ⟨_, rfl⟩
  have k0 : Rch p e below S0 s₁ (mkF m 0 #[.val (.ref a1)] []) := fun t k => hS0 ▸ castTop (ef_10 m a1) k
  have k87 : Rch p e below S0 s₁ (mkF m 1 #[.val (.ref a1)] [(.ref a1)]) := fun t h => k0 t (by
      show Steps p.tables e below (s₁.setTop (mkF m 0 #[.val (.ref a1)] [])) _
      refine XS.aloadN X0.here hx rfl (hb hby d10_0) rfl rfl ?_
      show Steps p.tables e below (s₁.setTop (mkF m 1 #[.val (.ref a1)] [(.ref a1)])) _
      exact h)
  obtain ⟨T86, X86, e86, st86⟩ := initO X0 hx hZ hown (hw _ (List.mem_of_getElem? (i := 56) rfl)) (hw _ (List.mem_of_getElem? (i := 16) rfl)) (hw _ (List.mem_of_getElem? (i := 17) rfl)) e0 (g := (mkF m 1 #[.val (.ref a1)] [(.ref a1)])) rfl (by rw [hml]; rfl) rfl (hb hby d10_1) (by decide) (W := 0) (by show 2 * 0 + _ ≤ _; exact Nat.le_of_eq rfl) (by decide)
  have k88 : Rch p e below S0 T86 (mkF m 4 #[.val (.ref a1)] []) := fun t h => k87 t (st86 t h)
  obtain ⟨fs, hr, hrun, hended, hW, hsame⟩ := X86.leave (v := none) (fun _ => rfl)
  refine ⟨_, _, ?_, hrun, hended, _, _, rfl, ?_, ⟨_, rfl⟩, hW, hsame.mono (by decide) (by decide)⟩
  · rw [← hS0]
    refine k88 _ ?_
    show Steps p.tables e below (T86.setTop (mkF m 4 #[.val (.ref a1)] [])) _
    exact X86.returnOut hx Bd.returns (hb hby d10_4) hr
  · show Q_rmR Z a1 h0 n0 _ T86.heap _
    rw [e86]
    exact ⟨rfl, N0, rfl⟩
def Q_rmN (Z : State) (a1 : Addr) (a2 : Addr) (a3 : Addr) (a4 : Addr) (a5 : Addr) (a6 : Addr) (h0 : Heap) (n0 : Nat) (v : Option Value) (h : Heap) (L : List Loc) : Prop := v = none ∧ Fr n0 L ∧ Keep h0 h [a1] ∧ Fld Z h a1 "com/example/suretygate/suretygate/rolemodel/CabinetFunction" "signs" "Ljava/lang/String;" (.ref a6)
theorem ef_9 (m : MethodId) (x0 : Addr) (x1 : Addr) (x2 : Addr) (x3 : Addr) (x4 : Addr) (x5 : Addr) : entryFrame m #[(.ref x0), (.ref x1), (.ref x2), (.ref x3), (.ref x4), (.ref x5)] 6 = mkF m 0 #[.val (.ref x0), .val (.ref x1), .val (.ref x2), .val (.ref x3), .val (.ref x4), .val (.ref x5)] [] := by first | (simp [entryFrame, mkF, argsToLocals, Value.category]; done) | rfl
theorem pn_CabinetFunction : plainName "com/example/suretygate/suretygate/rolemodel/CabinetFunction" = true := by first | (simp [plainName, overriddenIn]; done) | decide +kernel
theorem d9_0 : decode prog_13_method_1_code 0 = .ok (.aload_n 0, 1) := by decide +kernel
theorem pd_3 : parseMethodDescriptor "()V" = some ⟨[], none⟩ := by decide +kernel
theorem d9_1 : decode prog_13_method_1_code 1 = .ok (.invokespecial 1, 3) := by decide +kernel
theorem d9_4 : decode prog_13_method_1_code 4 = .ok (.aload_n 0, 1) := by decide +kernel
theorem d9_5 : decode prog_13_method_1_code 5 = .ok (.aload_n 1, 1) := by decide +kernel
theorem d9_6 : decode prog_13_method_1_code 6 = .ok (.putfield 7, 3) := by decide +kernel
theorem d9_9 : decode prog_13_method_1_code 9 = .ok (.aload_n 0, 1) := by decide +kernel
theorem d9_10 : decode prog_13_method_1_code 10 = .ok (.aload_n 2, 1) := by decide +kernel
theorem d9_11 : decode prog_13_method_1_code 11 = .ok (.putfield 13, 3) := by decide +kernel
theorem d9_14 : decode prog_13_method_1_code 14 = .ok (.aload_n 0, 1) := by decide +kernel
theorem d9_15 : decode prog_13_method_1_code 15 = .ok (.aload_n 3, 1) := by decide +kernel
theorem d9_16 : decode prog_13_method_1_code 16 = .ok (.putfield 17, 3) := by decide +kernel
theorem d9_19 : decode prog_13_method_1_code 19 = .ok (.aload_n 0, 1) := by decide +kernel
theorem d9_20 : decode prog_13_method_1_code 20 = .ok (.aload 4, 2) := by decide +kernel
theorem d9_22 : decode prog_13_method_1_code 22 = .ok (.putfield 20, 3) := by decide +kernel
theorem d9_25 : decode prog_13_method_1_code 25 = .ok (.aload_n 0, 1) := by decide +kernel
theorem d9_26 : decode prog_13_method_1_code 26 = .ok (.aload 5, 2) := by decide +kernel
theorem d9_28 : decode prog_13_method_1_code 28 = .ok (.putfield 23, 3) := by decide +kernel
theorem d9_31 : decode prog_13_method_1_code 31 = .ok (.return_, 1) := by decide +kernel
set_option maxRecDepth 65536 in
set_option maxHeartbeats 40000000 in
theorem rmN (l : Launch) (Z : State) (a0 : Array Value) (hw : ∀ d ∈ tables_1, d.before a0 Z = true) (ws : List Jvm.Cond) (a1 : Addr) (a2 : Addr) (a3 : Addr) (a4 : Addr) (a5 : Addr) (a6 : Addr) (h0 : Heap) (n0 : Nat) (O0 : Old Z n0 h0) (ge_a1 : n0 ≤ a1) (E_a1 : Exa Z h0 a1 "com/example/suretygate/suretygate/rolemodel/CabinetFunction") (F_a1_name : Fld Z h0 a1 "com/example/suretygate/suretygate/rolemodel/CabinetFunction" "name" "Ljava/lang/String;" .null) (F_a1_kind : Fld Z h0 a1 "com/example/suretygate/suretygate/rolemodel/CabinetFunction" "kind" "Lcom/example/suretygate/suretygate/rolemodel/CabinetFunction$Kind;" .null) (F_a1_label : Fld Z h0 a1 "com/example/suretygate/suretygate/rolemodel/CabinetFunction" "label" "Ljava/lang/String;" .null) (F_a1_path : Fld Z h0 a1 "com/example/suretygate/suretygate/rolemodel/CabinetFunction" "path" "Ljava/lang/String;" .null) (F_a1_signs : Fld Z h0 a1 "com/example/suretygate/suretygate/rolemodel/CabinetFunction" "signs" "Ljava/lang/String;" .null) :
    MetFree l (⟨"com/example/suretygate/suretygate/rolemodel/CabinetFunction", "<init>", "(Ljava/lang/String;Lcom/example/suretygate/suretygate/rolemodel/CabinetFunction$Kind;Ljava/lang/String;Ljava/lang/String;Ljava/lang/String;)V"⟩ : MethodName) (head1 (Jvm.Cond.code (⟨"com/example/suretygate/suretygate/rolemodel/CabinetFunction", "<init>", "(Ljava/lang/String;Lcom/example/suretygate/suretygate/rolemodel/CabinetFunction$Kind;Ljava/lang/String;Ljava/lang/String;Ljava/lang/String;)V"⟩ : MethodName) prog_13_method_1_code 6 none :: ws) ({ frames := 2, cells := 0, slots := 0, locals := 24 } : Room)) (fun a U => a = #[(.ref a1), (.ref a2), (.ref a3), (.ref a4), (.ref a5), (.ref a6)] ∧ Z.Warmed39 U.vm ∧ U.heap = h0) (fun _ _ _ _ _ => True) (fun _ U o U' => ∃ v L, o = .returned v ∧ Q_rmN Z a1 a2 a3 a4 a5 a6 h0 n0 v U'.heap L ∧ FrameEnd U o U' L ({ frames := 2, cells := 0, slots := 0, locals := 24 } : Room).cells ({ frames := 2, cells := 0, slots := 0, locals := 24 } : Room).slots) := by
  refine MetFree.of_bodySF (plainFor_of_name pn_CabinetFunction) hisR ?_
  intro p e s m args below meth c s₁ Bd hml0 hP hK
  obtain ⟨rfl, hZ, hh⟩ := hP
  have hx := Bd.exec
  have hby := Bd.bytes
  have hml : c.maxLocals = 6 := hml0
  have hown : s.vm.findClass "com/example/suretygate/suretygate/rolemodel/CabinetFunction" = some m.cls := findClass_of_methodNamed Bd.named
  have hnm := (name_of_methodNamed Bd.named Bd.method).1
  have X0 : Stand p l e ({ frames := 2, cells := 0, slots := 0, locals := 24 } : Room) s m #[(.ref a1), (.ref a2), (.ref a3), (.ref a4), (.ref a5), (.ref a6)] below meth c s₁ [] 0 0 := Stand.of_body Bd
  have e0 : s₁.heap = h0 := by rw [← hh, Bd.state]; rfl
  have N0 := Fr.nil n0
  obtain ⟨S0, hS0⟩ : ∃ z, z = s₁.setTop (entryFrame m #[(.ref a1), (.ref a2), (.ref a3), (.ref a4), (.ref a5), (.ref a6)] 6) := ⟨_, rfl⟩
  have k0 : Rch p e below S0 s₁ (mkF m 0 #[.val (.ref a1), .val (.ref a2), .val (.ref a3), .val (.ref a4), .val (.ref a5), .val (.ref a6)] []) := fun t k => hS0 ▸ castTop (ef_9 m a1 a2 a3 a4 a5 a6) k
  have K0 : Keep h0 h0 [a1] := Keep.refl h0 _
  have k89 : Rch p e below S0 s₁ (mkF m 1 #[.val (.ref a1), .val (.ref a2), .val (.ref a3), .val (.ref a4), .val (.ref a5), .val (.ref a6)] [(.ref a1)]) := fun t h => k0 t (by
      show Steps p.tables e below (s₁.setTop (mkF m 0 #[.val (.ref a1), .val (.ref a2), .val (.ref a3), .val (.ref a4), .val (.ref a5), .val (.ref a6)] [])) _
      refine XS.aloadN X0.here hx rfl (hb hby d9_0) rfl rfl ?_
      show Steps p.tables e below (s₁.setTop (mkF m 1 #[.val (.ref a1), .val (.ref a2), .val (.ref a3), .val (.ref a4), .val (.ref a5), .val (.ref a6)] [(.ref a1)])) _
      exact h)
  obtain ⟨_, _, ⟨T90, L90, kk90, n90⟩, -, X90, ⟨Lc90, hQ90, l90, y90, z90⟩, st90⟩ := X0.specialBack hx (y := (⟨"java/lang/Record", "<init>", "()V"⟩ : MethodName)) rfl hown (mvT hZ (hw _ (List.mem_of_getElem? (i := 51) rfl))) (mvT hZ (hw _ (List.mem_of_getElem? (i := 52) rfl))) (mvT hZ (hw _ (List.mem_of_getElem? (i := 55) rfl))) (by decide) (backOf (W := 0) (rmR l Z a0 hw [] a1  h0 n0 O0 ) hZ (hw _ (List.mem_of_getElem? (i := 55) rfl)) (hw _ (List.mem_of_getElem? (i := 54) rfl)) (by decide) (by decide)) (g := (mkF m 1 #[.val (.ref a1), .val (.ref a2), .val (.ref a3), .val (.ref a4), .val (.ref a5), .val (.ref a6)] [(.ref a1)])) rfl (by rw [hml]; rfl) (Steps.refl _) (a := a1) (argsL := []) (rest := []) (lenOf pd_3 rfl) rfl (by show 2 * 0 + _ ≤ _; exact Nat.le_of_eq rfl) (hb hby d9_1) (fun _ _ => ⟨rfl, e0, (by decide : 0 + 0 ≤ _), (by decide : 0 + 0 ≤ _)⟩)
  dsimp only [Pt.U, Pt.locs, Pt.cells, Pt.slots] at X90 l90 y90 z90 st90 hQ90
  subst l90 y90 z90
  obtain ⟨rfl, Nq90, hh90⟩ := hQ90
  have N90 := Fr.app N0 Nq90
  have k91 : Rch p e below S0 T90 (mkF m 4 #[.val (.ref a1), .val (.ref a2), .val (.ref a3), .val (.ref a4), .val (.ref a5), .val (.ref a6)] []) := fun t h => k89 t (st90.trans h)
  have k93 : Rch p e below S0 T90 (mkF m 6 #[.val (.ref a1), .val (.ref a2), .val (.ref a3), .val (.ref a4), .val (.ref a5), .val (.ref a6)] [(.ref a2), (.ref a1)]) := fun t h => k91 t (by
      show Steps p.tables e below (T90.setTop (mkF m 4 #[.val (.ref a1), .val (.ref a2), .val (.ref a3), .val (.ref a4), .val (.ref a5), .val (.ref a6)] [])) _
      refine XS.aloadN X90.here hx rfl (hb hby d9_4) rfl rfl ?_
      show Steps p.tables e below (T90.setTop (mkF m 5 #[.val (.ref a1), .val (.ref a2), .val (.ref a3), .val (.ref a4), .val (.ref a5), .val (.ref a6)] [(.ref a1)])) _
      refine XS.aloadN X90.here hx rfl (hb hby d9_5) rfl rfl ?_
      show Steps p.tables e below (T90.setTop (mkF m 6 #[.val (.ref a1), .val (.ref a2), .val (.ref a3), .val (.ref a4), .val (.ref a5), .val (.ref a6)] [(.ref a2), (.ref a1)])) _
      exact h)
  obtain ⟨T92, h92, X92, e92, W92, st92⟩ := putF X90 hx hZ hown (host := "") (Or.inl (hw _ (List.mem_of_getElem? (i := 57) rfl))) Via.refl hh90 F_a1_name E_a1 (Or.inr ⟨(hw _ (List.mem_of_getElem? (i := 58) rfl)), rfl, hnm⟩) (hw _ (List.mem_of_getElem? (i := 46) rfl)) (ty := (.object "java/lang/String")) (by decide) rfl rfl (g := (mkF m 6 #[.val (.ref a1), .val (.ref a2), .val (.ref a3), .val (.ref a4), .val (.ref a5), .val (.ref a6)] [(.ref a2), (.ref a1)])) rfl rfl (hb hby d9_6)
  have k94 : Rch p e below S0 T92 (mkF m 9 #[.val (.ref a1), .val (.ref a2), .val (.ref a3), .val (.ref a4), .val (.ref a5), .val (.ref a6)] []) := fun t h => k93 t (st92 t h)
  have N92 := Fr.snoc X92 N90 ge_a1
  replace F_a1_name := F_a1_name.same W92
  have O95 := O0.wr W92 ge_a1
  have K96 := K0.wr W92 (Or.inl (List.mem_of_getElem? (i := 0) rfl))
  replace E_a1 := E_a1.wr W92
  replace F_a1_kind := F_a1_kind.other W92 (Or.inr (slot_ne (Or.inr (hw _ (List.mem_of_getElem? (i := 60) rfl))) (Or.inr (hw _ (List.mem_of_getElem? (i := 58) rfl))) (by decide) (t := (.object "com/example/suretygate/suretygate/rolemodel/CabinetFunction$Kind")) (t' := (.object "java/lang/String")) (by decide) (by decide)))
  replace F_a1_label := F_a1_label.other W92 (Or.inr (slot_ne (Or.inr (hw _ (List.mem_of_getElem? (i := 62) rfl))) (Or.inr (hw _ (List.mem_of_getElem? (i := 58) rfl))) (by decide) (t := (.object "java/lang/String")) (t' := (.object "java/lang/String")) (by decide) (by decide)))
  replace F_a1_path := F_a1_path.other W92 (Or.inr (slot_ne (Or.inr (hw _ (List.mem_of_getElem? (i := 64) rfl))) (Or.inr (hw _ (List.mem_of_getElem? (i := 58) rfl))) (by decide) (t := (.object "java/lang/String")) (t' := (.object "java/lang/String")) (by decide) (by decide)))
  replace F_a1_signs := F_a1_signs.other W92 (Or.inr (slot_ne (Or.inr (hw _ (List.mem_of_getElem? (i := 66) rfl))) (Or.inr (hw _ (List.mem_of_getElem? (i := 58) rfl))) (by decide) (t := (.object "java/lang/String")) (t' := (.object "java/lang/String")) (by decide) (by decide)))
  have k98 : Rch p e below S0 T92 (mkF m 11 #[.val (.ref a1), .val (.ref a2), .val (.ref a3), .val (.ref a4), .val (.ref a5), .val (.ref a6)] [(.ref a3), (.ref a1)]) := fun t h => k94 t (by
      show Steps p.tables e below (T92.setTop (mkF m 9 #[.val (.ref a1), .val (.ref a2), .val (.ref a3), .val (.ref a4), .val (.ref a5), .val (.ref a6)] [])) _
      refine XS.aloadN X92.here hx rfl (hb hby d9_9) rfl rfl ?_
      show Steps p.tables e below (T92.setTop (mkF m 10 #[.val (.ref a1), .val (.ref a2), .val (.ref a3), .val (.ref a4), .val (.ref a5), .val (.ref a6)] [(.ref a1)])) _
      refine XS.aloadN X92.here hx rfl (hb hby d9_10) rfl rfl ?_
      show Steps p.tables e below (T92.setTop (mkF m 11 #[.val (.ref a1), .val (.ref a2), .val (.ref a3), .val (.ref a4), .val (.ref a5), .val (.ref a6)] [(.ref a3), (.ref a1)])) _
      exact h)
  obtain ⟨T97, h97, X97, e97, W97, st97⟩ := putF X92 hx hZ hown (host := "") (Or.inl (hw _ (List.mem_of_getElem? (i := 59) rfl))) Via.refl e92 F_a1_kind E_a1 (Or.inr ⟨(hw _ (List.mem_of_getElem? (i := 60) rfl)), rfl, hnm⟩) (hw _ (List.mem_of_getElem? (i := 46) rfl)) (ty := (.object "com/example/suretygate/suretygate/rolemodel/CabinetFunction$Kind")) (by decide) rfl rfl (g := (mkF m 11 #[.val (.ref a1), .val (.ref a2), .val (.ref a3), .val (.ref a4), .val (.ref a5), .val (.ref a6)] [(.ref a3), (.ref a1)])) rfl rfl (hb hby d9_11)
  have k99 : Rch p e below S0 T97 (mkF m 14 #[.val (.ref a1), .val (.ref a2), .val (.ref a3), .val (.ref a4), .val (.ref a5), .val (.ref a6)] []) := fun t h => k98 t (st97 t h)
  have N97 := Fr.snoc X97 N92 ge_a1
  replace F_a1_kind := F_a1_kind.same W97
  have O100 := O95.wr W97 ge_a1
  have K101 := K96.wr W97 (Or.inl (List.mem_of_getElem? (i := 0) rfl))
  replace E_a1 := E_a1.wr W97
  replace F_a1_label := F_a1_label.other W97 (Or.inr (slot_ne (Or.inr (hw _ (List.mem_of_getElem? (i := 62) rfl))) (Or.inr (hw _ (List.mem_of_getElem? (i := 60) rfl))) (by decide) (t := (.object "java/lang/String")) (t' := (.object "com/example/suretygate/suretygate/rolemodel/CabinetFunction$Kind")) (by decide) (by decide)))
  replace F_a1_path := F_a1_path.other W97 (Or.inr (slot_ne (Or.inr (hw _ (List.mem_of_getElem? (i := 64) rfl))) (Or.inr (hw _ (List.mem_of_getElem? (i := 60) rfl))) (by decide) (t := (.object "java/lang/String")) (t' := (.object "com/example/suretygate/suretygate/rolemodel/CabinetFunction$Kind")) (by decide) (by decide)))
  replace F_a1_signs := F_a1_signs.other W97 (Or.inr (slot_ne (Or.inr (hw _ (List.mem_of_getElem? (i := 66) rfl))) (Or.inr (hw _ (List.mem_of_getElem? (i := 60) rfl))) (by decide) (t := (.object "java/lang/String")) (t' := (.object "com/example/suretygate/suretygate/rolemodel/CabinetFunction$Kind")) (by decide) (by decide)))
  replace F_a1_name := F_a1_name.other W97 (Or.inr (slot_ne (Or.inr (hw _ (List.mem_of_getElem? (i := 58) rfl))) (Or.inr (hw _ (List.mem_of_getElem? (i := 60) rfl))) (by decide) (t := (.object "java/lang/String")) (t' := (.object "com/example/suretygate/suretygate/rolemodel/CabinetFunction$Kind")) (by decide) (by decide)))
  have k103 : Rch p e below S0 T97 (mkF m 16 #[.val (.ref a1), .val (.ref a2), .val (.ref a3), .val (.ref a4), .val (.ref a5), .val (.ref a6)] [(.ref a4), (.ref a1)]) := fun t h => k99 t (by
      show Steps p.tables e below (T97.setTop (mkF m 14 #[.val (.ref a1), .val (.ref a2), .val (.ref a3), .val (.ref a4), .val (.ref a5), .val (.ref a6)] [])) _
      refine XS.aloadN X97.here hx rfl (hb hby d9_14) rfl rfl ?_
      show Steps p.tables e below (T97.setTop (mkF m 15 #[.val (.ref a1), .val (.ref a2), .val (.ref a3), .val (.ref a4), .val (.ref a5), .val (.ref a6)] [(.ref a1)])) _
      refine XS.aloadN X97.here hx rfl (hb hby d9_15) rfl rfl ?_
      show Steps p.tables e below (T97.setTop (mkF m 16 #[.val (.ref a1), .val (.ref a2), .val (.ref a3), .val (.ref a4), .val (.ref a5), .val (.ref a6)] [(.ref a4), (.ref a1)])) _
      exact h)
  obtain ⟨T102, h102, X102, e102, W102, st102⟩ := putF X97 hx hZ hown (host := "") (Or.inl (hw _ (List.mem_of_getElem? (i := 61) rfl))) Via.refl e97 F_a1_label E_a1 (Or.inr ⟨(hw _ (List.mem_of_getElem? (i := 62) rfl)), rfl, hnm⟩) (hw _ (List.mem_of_getElem? (i := 46) rfl)) (ty := (.object "java/lang/String")) (by decide) rfl rfl (g := (mkF m 16 #[.val (.ref a1), .val (.ref a2), .val (.ref a3), .val (.ref a4), .val (.ref a5), .val (.ref a6)] [(.ref a4), (.ref a1)])) rfl rfl (hb hby d9_16)
  have k104 : Rch p e below S0 T102 (mkF m 19 #[.val (.ref a1), .val (.ref a2), .val (.ref a3), .val (.ref a4), .val (.ref a5), .val (.ref a6)] []) := fun t h => k103 t (st102 t h)
  have N102 := Fr.snoc X102 N97 ge_a1
  replace F_a1_label := F_a1_label.same W102
  have O105 := O100.wr W102 ge_a1
  have K106 := K101.wr W102 (Or.inl (List.mem_of_getElem? (i := 0) rfl))
  replace E_a1 := E_a1.wr W102
  replace F_a1_path := F_a1_path.other W102 (Or.inr (slot_ne (Or.inr (hw _ (List.mem_of_getElem? (i := 64) rfl))) (Or.inr (hw _ (List.mem_of_getElem? (i := 62) rfl))) (by decide) (t := (.object "java/lang/String")) (t' := (.object "java/lang/String")) (by decide) (by decide)))
  replace F_a1_signs := F_a1_signs.other W102 (Or.inr (slot_ne (Or.inr (hw _ (List.mem_of_getElem? (i := 66) rfl))) (Or.inr (hw _ (List.mem_of_getElem? (i := 62) rfl))) (by decide) (t := (.object "java/lang/String")) (t' := (.object "java/lang/String")) (by decide) (by decide)))
  replace F_a1_name := F_a1_name.other W102 (Or.inr (slot_ne (Or.inr (hw _ (List.mem_of_getElem? (i := 58) rfl))) (Or.inr (hw _ (List.mem_of_getElem? (i := 62) rfl))) (by decide) (t := (.object "java/lang/String")) (t' := (.object "java/lang/String")) (by decide) (by decide)))
  replace F_a1_kind := F_a1_kind.other W102 (Or.inr (slot_ne (Or.inr (hw _ (List.mem_of_getElem? (i := 60) rfl))) (Or.inr (hw _ (List.mem_of_getElem? (i := 62) rfl))) (by decide) (t := (.object "com/example/suretygate/suretygate/rolemodel/CabinetFunction$Kind")) (t' := (.object "java/lang/String")) (by decide) (by decide)))
  have k108 : Rch p e below S0 T102 (mkF m 22 #[.val (.ref a1), .val (.ref a2), .val (.ref a3), .val (.ref a4), .val (.ref a5), .val (.ref a6)] [(.ref a5), (.ref a1)]) := fun t h => k104 t (by
      show Steps p.tables e below (T102.setTop (mkF m 19 #[.val (.ref a1), .val (.ref a2), .val (.ref a3), .val (.ref a4), .val (.ref a5), .val (.ref a6)] [])) _
      refine XS.aloadN X102.here hx rfl (hb hby d9_19) rfl rfl ?_
      show Steps p.tables e below (T102.setTop (mkF m 20 #[.val (.ref a1), .val (.ref a2), .val (.ref a3), .val (.ref a4), .val (.ref a5), .val (.ref a6)] [(.ref a1)])) _
      refine XS.aload X102.here hx rfl (hb hby d9_20) rfl rfl ?_
      show Steps p.tables e below (T102.setTop (mkF m 22 #[.val (.ref a1), .val (.ref a2), .val (.ref a3), .val (.ref a4), .val (.ref a5), .val (.ref a6)] [(.ref a5), (.ref a1)])) _
      exact h)
  obtain ⟨T107, h107, X107, e107, W107, st107⟩ := putF X102 hx hZ hown (host := "") (Or.inl (hw _ (List.mem_of_getElem? (i := 63) rfl))) Via.refl e102 F_a1_path E_a1 (Or.inr ⟨(hw _ (List.mem_of_getElem? (i := 64) rfl)), rfl, hnm⟩) (hw _ (List.mem_of_getElem? (i := 46) rfl)) (ty := (.object "java/lang/String")) (by decide) rfl rfl (g := (mkF m 22 #[.val (.ref a1), .val (.ref a2), .val (.ref a3), .val (.ref a4), .val (.ref a5), .val (.ref a6)] [(.ref a5), (.ref a1)])) rfl rfl (hb hby d9_22)
  have k109 : Rch p e below S0 T107 (mkF m 25 #[.val (.ref a1), .val (.ref a2), .val (.ref a3), .val (.ref a4), .val (.ref a5), .val (.ref a6)] []) := fun t h => k108 t (st107 t h)
  have N107 := Fr.snoc X107 N102 ge_a1
  replace F_a1_path := F_a1_path.same W107
  have O110 := O105.wr W107 ge_a1
  have K111 := K106.wr W107 (Or.inl (List.mem_of_getElem? (i := 0) rfl))
  replace E_a1 := E_a1.wr W107
  replace F_a1_signs := F_a1_signs.other W107 (Or.inr (slot_ne (Or.inr (hw _ (List.mem_of_getElem? (i := 66) rfl))) (Or.inr (hw _ (List.mem_of_getElem? (i := 64) rfl))) (by decide) (t := (.object "java/lang/String")) (t' := (.object "java/lang/String")) (by decide) (by decide)))
  replace F_a1_name := F_a1_name.other W107 (Or.inr (slot_ne (Or.inr (hw _ (List.mem_of_getElem? (i := 58) rfl))) (Or.inr (hw _ (List.mem_of_getElem? (i := 64) rfl))) (by decide) (t := (.object "java/lang/String")) (t' := (.object "java/lang/String")) (by decide) (by decide)))
  replace F_a1_kind := F_a1_kind.other W107 (Or.inr (slot_ne (Or.inr (hw _ (List.mem_of_getElem? (i := 60) rfl))) (Or.inr (hw _ (List.mem_of_getElem? (i := 64) rfl))) (by decide) (t := (.object "com/example/suretygate/suretygate/rolemodel/CabinetFunction$Kind")) (t' := (.object "java/lang/String")) (by decide) (by decide)))
  replace F_a1_label := F_a1_label.other W107 (Or.inr (slot_ne (Or.inr (hw _ (List.mem_of_getElem? (i := 62) rfl))) (Or.inr (hw _ (List.mem_of_getElem? (i := 64) rfl))) (by decide) (t := (.object "java/lang/String")) (t' := (.object "java/lang/String")) (by decide) (by decide)))
  have k113 : Rch p e below S0 T107 (mkF m 28 #[.val (.ref a1), .val (.ref a2), .val (.ref a3), .val (.ref a4), .val (.ref a5), .val (.ref a6)] [(.ref a6), (.ref a1)]) := fun t h => k109 t (by
      show Steps p.tables e below (T107.setTop (mkF m 25 #[.val (.ref a1), .val (.ref a2), .val (.ref a3), .val (.ref a4), .val (.ref a5), .val (.ref a6)] [])) _
      refine XS.aloadN X107.here hx rfl (hb hby d9_25) rfl rfl ?_
      show Steps p.tables e below (T107.setTop (mkF m 26 #[.val (.ref a1), .val (.ref a2), .val (.ref a3), .val (.ref a4), .val (.ref a5), .val (.ref a6)] [(.ref a1)])) _
      refine XS.aload X107.here hx rfl (hb hby d9_26) rfl rfl ?_
      show Steps p.tables e below (T107.setTop (mkF m 28 #[.val (.ref a1), .val (.ref a2), .val (.ref a3), .val (.ref a4), .val (.ref a5), .val (.ref a6)] [(.ref a6), (.ref a1)])) _
      exact h)
  obtain ⟨T112, h112, X112, e112, W112, st112⟩ := putF X107 hx hZ hown (host := "") (Or.inl (hw _ (List.mem_of_getElem? (i := 65) rfl))) Via.refl e107 F_a1_signs E_a1 (Or.inr ⟨(hw _ (List.mem_of_getElem? (i := 66) rfl)), rfl, hnm⟩) (hw _ (List.mem_of_getElem? (i := 46) rfl)) (ty := (.object "java/lang/String")) (by decide) rfl rfl (g := (mkF m 28 #[.val (.ref a1), .val (.ref a2), .val (.ref a3), .val (.ref a4), .val (.ref a5), .val (.ref a6)] [(.ref a6), (.ref a1)])) rfl rfl (hb hby d9_28)
  have k114 : Rch p e below S0 T112 (mkF m 31 #[.val (.ref a1), .val (.ref a2), .val (.ref a3), .val (.ref a4), .val (.ref a5), .val (.ref a6)] []) := fun t h => k113 t (st112 t h)
  have N112 := Fr.snoc X112 N107 ge_a1
  replace F_a1_signs := F_a1_signs.same W112
  have O115 := O110.wr W112 ge_a1
  have K116 := K111.wr W112 (Or.inl (List.mem_of_getElem? (i := 0) rfl))
  replace E_a1 := E_a1.wr W112
  replace F_a1_name := F_a1_name.other W112 (Or.inr (slot_ne (Or.inr (hw _ (List.mem_of_getElem? (i := 58) rfl))) (Or.inr (hw _ (List.mem_of_getElem? (i := 66) rfl))) (by decide) (t := (.object "java/lang/String")) (t' := (.object "java/lang/String")) (by decide) (by decide)))
  replace F_a1_kind := F_a1_kind.other W112 (Or.inr (slot_ne (Or.inr (hw _ (List.mem_of_getElem? (i := 60) rfl))) (Or.inr (hw _ (List.mem_of_getElem? (i := 66) rfl))) (by decide) (t := (.object "com/example/suretygate/suretygate/rolemodel/CabinetFunction$Kind")) (t' := (.object "java/lang/String")) (by decide) (by decide)))
  replace F_a1_label := F_a1_label.other W112 (Or.inr (slot_ne (Or.inr (hw _ (List.mem_of_getElem? (i := 62) rfl))) (Or.inr (hw _ (List.mem_of_getElem? (i := 66) rfl))) (by decide) (t := (.object "java/lang/String")) (t' := (.object "java/lang/String")) (by decide) (by decide)))
  replace F_a1_path := F_a1_path.other W112 (Or.inr (slot_ne (Or.inr (hw _ (List.mem_of_getElem? (i := 64) rfl))) (Or.inr (hw _ (List.mem_of_getElem? (i := 66) rfl))) (by decide) (t := (.object "java/lang/String")) (t' := (.object "java/lang/String")) (by decide) (by decide)))
  obtain ⟨fs, hr, hrun, hended, hW, hsame⟩ := X112.leave (v := none) (fun _ => rfl)
  refine ⟨_, _, ?_, hrun, hended, _, _, rfl, ?_, ⟨_, rfl⟩, hW, hsame.mono (by decide) (by decide)⟩
  · rw [← hS0]
    refine k114 _ ?_
    show Steps p.tables e below (T112.setTop (mkF m 31 #[.val (.ref a1), .val (.ref a2), .val (.ref a3), .val (.ref a4), .val (.ref a5), .val (.ref a6)] [])) _
    exact X112.returnOut hx Bd.returns (hb hby d9_31) hr
  · show Q_rmN Z a1 a2 a3 a4 a5 a6 h0 n0 _ T112.heap _
    rw [e112]
    exact ⟨rfl, N112, K116, F_a1_signs⟩
theorem own_up (cs : List Int32) (h : ∀ c ∈ cs, ¬ c < 0 ∧ ¬ (255 : Int32) < c) : ∀ c ∈ cs, ¬ c < 0 ∧ ¬ (65535 : Int32) < c := fun c hc => ⟨(h c hc).1, fun q => (h c hc).2 (by rw [Int32.lt_iff_toInt_lt] at q ⊢; have e1 : (65535 : Int32).toInt = 65535 := rfl; have e2 : (255 : Int32).toInt = 255 := rfl; omega)⟩
def Q_rmG (Z : State) (cs : List Int32) (h0 : Heap) (n0 : Nat) (v : Option Value) (h : Heap) (L : List Loc) : Prop := ∃ r : Int32, v = some (.int r) ∧ Fr n0 L ∧ Ext h0 h ∧ ((r = 0 ∧ cs = [45]) ∨ (r = 1 ∧ ¬ cs = [45]))
theorem ef_11 (m : MethodId) (x0 : Addr) : entryFrame m #[(.ref x0)] 1 = mkF m 0 #[.val (.ref x0)] [] := by first | (simp [entryFrame, mkF, argsToLocals, Value.category]; done) | rfl
theorem d11_0 : decode prog_13_method_3_code 0 = .ok (.aload_n 0, 1) := by decide +kernel
theorem d11_1 : decode prog_13_method_3_code 1 = .ok (.getfield 23, 3) := by decide +kernel
theorem d11_4 : decode prog_13_method_3_code 4 = .ok (.ldc 31, 2) := by decide +kernel
theorem pd_10 : parseMethodDescriptor "(Ljava/lang/Object;)Z" = some ⟨[(.object "java/lang/Object")], some .boolean⟩ := by decide +kernel
theorem d11_6 : decode prog_13_method_3_code 6 = .ok (.invokevirtual 33, 3) := by decide +kernel
theorem d11_9 : decode prog_13_method_3_code 9 = .ok (.ifCond .ne 7, 3) := by decide +kernel
theorem d11_16 : decode prog_13_method_3_code 16 = .ok (.iconst 0, 1) := by decide +kernel
theorem d11_17 : decode prog_13_method_3_code 17 = .ok (.ireturn, 1) := by decide +kernel
theorem d11_12 : decode prog_13_method_3_code 12 = .ok (.iconst 1, 1) := by decide +kernel
theorem d11_13 : decode prog_13_method_3_code 13 = .ok (.goto 4, 3) := by decide +kernel
set_option maxRecDepth 65536 in
set_option maxHeartbeats 40000000 in
theorem rmG (l : Launch) (Z : State) (a0 : Array Value) (hw : ∀ d ∈ tables_1, d.before a0 Z = true) (ws : List Jvm.Cond) (a1 : Addr) (x : Addr) (t : Addr) (kt : ClassId) (N : Int32) (vs : List Value) (cs : List Int32) (zC : Int32) (h0 : Heap) (n0 : Nat) (O0 : Old Z n0 h0) (SC : Sta Z Z.heap "java/lang/String" "COMPACT_STRINGS" "Z" (.int zC)) (hzC : ¬ zC = 0) (Fs : Fld Z h0 a1 "com/example/suretygate/suretygate/rolemodel/CabinetFunction" "signs" "Ljava/lang/String;" (.ref x)) (Ex : Exa Z h0 x "java/lang/String") (Vx : Fld Z h0 x "java/lang/String" "value" "[B" (.ref t)) (Cx : Fld Z h0 x "java/lang/String" "coder" "B" (.int (0 : Int32))) (Kt : Arv Z h0 t kt .byte N vs (.int (0 : Int32))) (hcd : StrChars.Road.CodA cs 0 N vs) (hp : ∀ c ∈ cs, ¬ c < 0 ∧ ¬ (255 : Int32) < c) (hl : cs.length ≤ 4000) :
    MetFree l (⟨"com/example/suretygate/suretygate/rolemodel/CabinetFunction", "isSigning", "()Z"⟩ : MethodName) (head1 (Jvm.Cond.code (⟨"com/example/suretygate/suretygate/rolemodel/CabinetFunction", "isSigning", "()Z"⟩ : MethodName) prog_13_method_3_code 1 (some .boolean) :: ws) ({ frames := 3, cells := 2, slots := 8, locals := 60 } : Room)) (fun a U => a = #[(.ref a1)] ∧ Z.Warmed39 U.vm ∧ U.heap = h0 ∧ CHv Z consts_1 U.vm h0) (fun _ _ _ _ _ => True) (fun _ U o U' => ∃ v L, o = .returned v ∧ Q_rmG Z cs h0 n0 v U'.heap L ∧ CHr Z consts_1 U.vm U.heap U'.vm U'.heap ∧ ReturnedEndW U o U' L ({ frames := 3, cells := 2, slots := 8, locals := 60 } : Room).cells ({ frames := 3, cells := 2, slots := 8, locals := 60 } : Room).slots) := by
  refine MetFree.of_bodySF (plainFor_of_name pn_CabinetFunction) hisR ?_
  intro p e s m args below meth c s₁ Bd hml0 hP hK
  obtain ⟨rfl, hZ, hh, hC0⟩ := hP
  have hx := Bd.exec
  have hby := Bd.bytes
  have hml : c.maxLocals = 1 := hml0
  have hown : s.vm.findClass "com/example/suretygate/suretygate/rolemodel/CabinetFunction" = some m.cls := findClass_of_methodNamed Bd.named
  have hnm := (name_of_methodNamed Bd.named Bd.method).1
  have X0 : Stand p l e ({ frames := 3, cells := 2, slots := 8, locals := 60 } : Room) (s.setVm s.vm) m #[(.ref a1)] below meth c s₁ [] 0 0 := Stand.of_body Bd
  have e0 : s₁.heap = h0 := by rw [← hh, Bd.state]; rfl
  have N0 := Fr.nil n0
  obtain ⟨S0, hS0⟩ : ∃ z, z = s₁.setTop (entryFrame m #[(.ref a1)] 1) := ⟨_, rfl⟩
  have k0 : Rch p e below S0 s₁ (mkF m 0 #[.val (.ref a1)] []) := fun t k => hS0 ▸ castTop (ef_11 m a1) k
  have K0 : Keep h0 h0 [] := Keep.refl h0 _
  have hS : s.Since s.vm s.heap.size := (State.WarmedH.refl s).since _
  have hk : s.heap.size ≤ h0.size := by rw [← hh]; exact Nat.le_refl _
  have hwS : ∀ d ∈ Bundle.stringAtoms, d.before a0 Z = true := fun d hd => hw d ((by decide +kernel : ∀ d ∈ Bundle.stringAtoms, d ∈ tables_1) d hd)
  have rC0 : CHr Z consts_1 s.vm h0 s.vm h0 := CHr.refl hC0
  have hEL : EW Z a0 consts_1 := (EW.cons (hw _ (List.mem_of_getElem? (i := 72) rfl)) (by decide +kernel) (EW.cons (hw _ (List.mem_of_getElem? (i := 18) rfl)) (by decide +kernel) EW.nil))
  have k118 : Rch p e below S0 s₁ (mkF m 1 #[.val (.ref a1)] [(.ref a1)]) := fun t h => k0 t (by
      show Steps p.tables e below (s₁.setTop (mkF m 0 #[.val (.ref a1)] [])) _
      refine XS.aloadN X0.here hx rfl (hb hby d11_0) rfl rfl ?_
      show Steps p.tables e below (s₁.setTop (mkF m 1 #[.val (.ref a1)] [(.ref a1)])) _
      exact h)
  obtain ⟨T117, X117, e117, st117⟩ := getF X0 hx hZ hown (host := "") (Or.inl (hw _ (List.mem_of_getElem? (i := 65) rfl))) Via.refl e0 Fs (g := (mkF m 1 #[.val (.ref a1)] [(.ref a1)])) rfl rfl (hb hby d11_1)
  have k119 : Rch p e below S0 T117 (mkF m 4 #[.val (.ref a1)] [(.ref x)]) := fun t h => k118 t (st117 t h)
  obtain ⟨a120, T120, h120, kk120, t120, kt120, X120, e120, E120, hS120, hk120, hZ120, hown120, Ea120, Ca120, Va120, At120, la120, lt120, hR120, hL120, sfa120, st120⟩ := ldcCH X117 hx hZ hown (hw _ (List.mem_of_getElem? (i := 72) rfl)) hwS e117 hS hk hEL (by decide +kernel) hC0 (vs := [(.int (45 : Int32))]) (z := (1 : Int32)) ⟨by decide +kernel, by decide +kernel⟩ (by decide) (by decide) (g := (mkF m 4 #[.val (.ref a1)] [(.ref x)])) rfl (hb hby d11_4) (n := 4) (by decide +kernel) (by decide) (by decide) (by decide)
  have k121 : Rch p e below S0 T120 (mkF m 6 #[.val (.ref a1)] [(.ref a120), (.ref x)]) := fun t h => k119 t (st120 t h)
  have hC122 := hR120.1
  have rC122 := rC0.trans hR120
  have O123 := O0.ext E120
  have K124 := K0.ext E120
  replace Fs := Fs.ext E120
  replace Ex := Ex.ext E120
  replace Vx := Vx.ext E120
  replace Cx := Cx.ext E120
  replace Kt := Kt.ext E120
  have heq : ∀ d ∈ StrChars.Road.wordsEq, d.before a0 Z = true := fun d hd => hw d ((by decide +kernel : ∀ d ∈ StrChars.Road.wordsEq, d ∈ tables_1) d hd)
  have hcd2 : StrChars.Road.CodA [45] 0 (1 : Int32) [(.int (45 : Int32))] := Or.inl ⟨rfl, by decide, by decide, by decide⟩
  obtain ⟨cq125, kq125, q125a, q125b, q125c⟩ := isOf hZ120 e120 Ex
  obtain ⟨_, _, ⟨T125, L125, kk125, n125⟩, -, X125, ⟨Lc125, hQ125, l125, y125, z125⟩, st125⟩ := X120.virtualBack hx (y := (⟨"java/lang/String", "equals", "(Ljava/lang/Object;)Z"⟩ : MethodName)) (z := (⟨"java/lang/String", "equals", "(Ljava/lang/Object;)Z"⟩ : MethodName)) hown120 (mvT hZ120 (hw _ (List.mem_of_getElem? (i := 73) rfl))) (mvT hZ120 (hw _ (List.mem_of_getElem? (i := 74) rfl))) (notFace_of_selects (args := #[]) (mvT hZ120 (hw _ (List.mem_of_getElem? (i := 76) rfl)))) (mvT hZ120 (hw _ (List.mem_of_getElem? (i := 76) rfl))) (mvT hZ120 (hw _ (List.mem_of_getElem? (i := 75) rfl))) (by decide) (StrChars.Road.eqW (W := 0) hZ120 heq (kI := 4) (hw _ (List.mem_of_getElem? (i := 5) rfl)) Ex Vx Cx Kt hcd (own_up _ hp) hl Ea120 Va120 Ca120 At120 hcd2 (by decide) (by decide) (SC.ext O123.2) hzC (by decide) (by decide)) q125a q125c (g := (mkF m 6 #[.val (.ref a1)] [(.ref a120), (.ref x)])) rfl (by rw [hml]; rfl) (Steps.refl _) (argsL := [(.ref a120)]) (rest := []) (lenOf pd_10 rfl) rfl (by show 2 * 0 + _ ≤ _; exact Nat.le_of_eq rfl) (hb hby d11_6) (fun _ _ => ⟨rfl, e120, (by decide : 2 + 0 ≤ _), (by decide : 8 + 0 ≤ _)⟩)
  dsimp only [Pt.U, Pt.locs, Pt.cells, Pt.slots] at X125 l125 y125 z125 st125 hQ125
  subst l125 y125 z125
  obtain ⟨⟨rfl, hcs⟩ | ⟨rfl, hcs⟩, rfl, hh125⟩ := hQ125
  · have N125 := Fr.app N0 (Fr.nil n0)
    have k126 : Rch p e below S0 T125 (mkF m 9 #[.val (.ref a1)] [(.int (1 : Int32))]) := fun t h => k121 t (st125.trans h)
    have k128 : Rch p e below S0 T125 (mkF m 17 #[.val (.ref a1)] [(.int (0 : Int32))]) := fun t h => k126 t (by
        show Steps p.tables e below (T125.setTop (mkF m 9 #[.val (.ref a1)] [(.int (1 : Int32))])) _
        refine XS.ifYes X125.here hx rfl (pc0 := 9) (pc' := 16) rfl (hb hby d11_9) rfl ((if0 _ _).trans (feq (by decide : ¬ ((1 : Int32) = (0 : Int32)))).2) (by decide) (by decide) ?_
        show Steps p.tables e below (T125.setTop (mkF m 16 #[.val (.ref a1)] [])) _
        refine XS.iconst X125.here hx rfl (hb hby d11_16) ?_
        show Steps p.tables e below (T125.setTop (mkF m 17 #[.val (.ref a1)] [(.int (0 : Int32))])) _
        exact h)
    obtain ⟨fs, hr, hrun, hended, hfin⟩ := X125.leaveW hS120 (by rw [hh125]; exact hk120) (v := (some (.int (0 : Int32)))) (fun h => by rw [Bd.returns] at h; cases h)
    refine ⟨_, _, ?_, hrun, hended, _, _, rfl, ?_, (by rw [hh]; have q := own_chr rC122 (CHv.at X125 hZ120 hEL hC122) hh125; exact q), hfin.1, hfin.2.1, hfin.2.2.1, hfin.2.2.2.mono (by decide) (by decide)⟩
    · rw [← hS0]
      refine k128 _ ?_
      show Steps p.tables e below (T125.setTop (mkF m 17 #[.val (.ref a1)] [(.int (0 : Int32))])) _
      exact retN X125 hx (t := .boolean) Bd.returns (by simp) (hb hby d11_17) hr
    · show Q_rmG Z cs h0 n0 _ T125.heap _
      rw [hh125]
      exact ⟨_, rfl, N125, own_ext K124, Or.inl ⟨rfl, hcs⟩⟩
  · have N125 := Fr.app N0 (Fr.nil n0)
    have k127 : Rch p e below S0 T125 (mkF m 9 #[.val (.ref a1)] [(.int (0 : Int32))]) := fun t h => k121 t (st125.trans h)
    have k129 : Rch p e below S0 T125 (mkF m 17 #[.val (.ref a1)] [(.int (1 : Int32))]) := fun t h => k127 t (by
        show Steps p.tables e below (T125.setTop (mkF m 9 #[.val (.ref a1)] [(.int (0 : Int32))])) _
        refine XS.ifNo X125.here hx rfl (hb hby d11_9) rfl ((if0 _ _).trans (teq (by decide : (0 : Int32) = (0 : Int32))).2) ?_
        show Steps p.tables e below (T125.setTop (mkF m 12 #[.val (.ref a1)] [])) _
        refine XS.iconst X125.here hx rfl (hb hby d11_12) ?_
        show Steps p.tables e below (T125.setTop (mkF m 13 #[.val (.ref a1)] [(.int (1 : Int32))])) _
        refine XS.goto X125.here hx rfl (pc0 := 13) (pc' := 17) rfl (hb hby d11_13) (by decide) (by decide) ?_
        show Steps p.tables e below (T125.setTop (mkF m 17 #[.val (.ref a1)] [(.int (1 : Int32))])) _
        exact h)
    obtain ⟨fs, hr, hrun, hended, hfin⟩ := X125.leaveW hS120 (by rw [hh125]; exact hk120) (v := (some (.int (1 : Int32)))) (fun h => by rw [Bd.returns] at h; cases h)
    refine ⟨_, _, ?_, hrun, hended, _, _, rfl, ?_, (by rw [hh]; have q := own_chr rC122 (CHv.at X125 hZ120 hEL hC122) hh125; exact q), hfin.1, hfin.2.1, hfin.2.2.1, hfin.2.2.2.mono (by decide) (by decide)⟩
    · rw [← hS0]
      refine k129 _ ?_
      show Steps p.tables e below (T125.setTop (mkF m 17 #[.val (.ref a1)] [(.int (1 : Int32))])) _
      exact retN X125 hx (t := .boolean) Bd.returns (by simp) (hb hby d11_17) hr
    · show Q_rmG Z cs h0 n0 _ T125.heap _
      rw [hh125]
      exact ⟨_, rfl, N125, own_ext K124, Or.inr ⟨rfl, hcs⟩⟩
theorem own_and3 (x : Int32) : x &&& 3 = 0 ∨ x &&& 3 = 1 ∨ x &&& 3 = 2 ∨ x &&& 3 = 3 := by
  have h := c_mask x 3 2 (by decide) (by decide)
  have e : ∀ k : Int32, k.toInt = (x &&& 3).toInt → x &&& 3 = k := fun k q => (Int32.toInt_inj.mp q).symm
  have q : (x &&& 3).toInt = 0 ∨ (x &&& 3).toInt = 1 ∨ (x &&& 3).toInt = 2 ∨ (x &&& 3).toInt = 3 := by omega
  rcases q with q | q | q | q
  · exact Or.inl (e 0 q.symm)
  · exact Or.inr (Or.inl (e 1 q.symm))
  · exact Or.inr (Or.inr (Or.inl (e 2 q.symm)))
  · exact Or.inr (Or.inr (Or.inr (e 3 q.symm)))
theorem own_sel (p5 : Int32) : ((p5 &&& (2147483647 : Int32)) % (3 : Int32)) = 0 ∨ ((p5 &&& (2147483647 : Int32)) % (3 : Int32)) = 1 ∨ ((p5 &&& (2147483647 : Int32)) % (3 : Int32)) = 2 := by
  have h1 := c_mask p5 2147483647 31 (by decide) (by decide)
  have h2 := (c_irem (p5 &&& 2147483647) 3 3 (by decide)).1 (by omega)
  have e : ∀ k : Int32, k.toInt = ((p5 &&& 2147483647) % 3).toInt → (p5 &&& 2147483647) % 3 = k := fun k q => (Int32.toInt_inj.mp q).symm
  have q : ((p5 &&& 2147483647) % 3).toInt = 0 ∨ ((p5 &&& 2147483647) % 3).toInt = 1 ∨ ((p5 &&& 2147483647) % 3).toInt = 2 := by omega
  rcases q with q | q | q
  · exact Or.inl (e 0 q.symm)
  · exact Or.inr (Or.inl (e 1 q.symm))
  · exact Or.inr (Or.inr (e 2 q.symm))
def Q_rm0_0 (Z : State)  (h0 : Heap) (n0 : Nat) (v : Option Value) (h : Heap) (L : List Loc) : Prop := v = some (.int (1 : Int32)) ∧ Fr n0 L
theorem ef_0 (m : MethodId) (x0 : Int32) (x1 : Int32) (x2 : Int32) (x3 : Int32) (x4 : Int32) (x5 : Int32) : entryFrame m #[(.int x0), (.int x1), (.int x2), (.int x3), (.int x4), (.int x5)] maxLocals = mkF m 0 #[.val (.int x0), .val (.int x1), .val (.int x2), .val (.int x3), .val (.int x4), .val (.int x5), .unset, .unset, .unset, .unset, .unset, .unset, .unset, .unset, .unset, .unset, .unset, .unset] [] := by first | (simp [entryFrame, mkF, argsToLocals, Value.category, maxLocals]; done) | rfl
theorem pd_0 : parseMethodDescriptor "(I)C" = some ⟨[.int], some .char⟩ := by decide +kernel
theorem pd_1 : parseMethodDescriptor "([C)V" = some ⟨[(.array .char)], none⟩ := by decide +kernel
theorem pd_4 : parseMethodDescriptor "(C)Ljava/lang/String;" = some ⟨[.char], some (.object "java/lang/String")⟩ := by decide +kernel
theorem pd_8 : parseMethodDescriptor "(Ljava/lang/String;Lcom/example/suretygate/suretygate/rolemodel/CabinetFunction$Kind;Ljava/lang/String;Ljava/lang/String;Ljava/lang/String;)V" = some ⟨[(.object "java/lang/String"), (.object "com/example/suretygate/suretygate/rolemodel/CabinetFunction$Kind"), (.object "java/lang/String"), (.object "java/lang/String"), (.object "java/lang/String")], none⟩ := by decide +kernel
theorem pd_9 : parseMethodDescriptor "()Z" = some ⟨[], some .boolean⟩ := by decide +kernel
set_option maxRecDepth 65536 in
set_option maxHeartbeats 40000000 in
theorem rm0_0 (l : Launch) (Z : State) (a0 : Array Value) (hw : ∀ d ∈ tables_1, d.before a0 Z = true) (ws : List Jvm.Cond) (p1 : Int32) (p2 : Int32) (p3 : Int32) (p4 : Int32) (p5 : Int32) (p6 : Int32) (zC : Int32) (wM : Addr) (wP : Addr) (wA : Addr) (h0 : Heap) (n0 : Nat) (O0 : Old Z n0 h0) (SC : Sta Z Z.heap "java/lang/String" "COMPACT_STRINGS" "Z" (.int zC)) (hzC : ¬ zC = 0) (SM : Sta Z Z.heap "com/example/suretygate/suretygate/rolemodel/CabinetFunction$Kind" "MENU" "Lcom/example/suretygate/suretygate/rolemodel/CabinetFunction$Kind;" (.ref wM)) (SP : Sta Z Z.heap "com/example/suretygate/suretygate/rolemodel/CabinetFunction$Kind" "PAGE" "Lcom/example/suretygate/suretygate/rolemodel/CabinetFunction$Kind;" (.ref wP)) (SA : Sta Z Z.heap "com/example/suretygate/suretygate/rolemodel/CabinetFunction$Kind" "ACTION" "Lcom/example/suretygate/suretygate/rolemodel/CabinetFunction$Kind;" (.ref wA)) (hk0 : (p1 &&& (3 : Int32)) = (0 : Int32)) :
    MetFree l x (head1 (Jvm.Cond.code x code maxLocals ret :: ws) room_1) (fun a U => a = #[(.int p1), (.int p2), (.int p3), (.int p4), (.int p5), (.int p6)] ∧ Z.Warmed39 U.vm ∧ U.heap = h0 ∧ CHv Z consts_1 U.vm h0) (fun _ _ _ _ _ => True) (fun _ U o U' => ∃ v L, o = .returned v ∧ Q_rm0_0 Z  h0 n0 v U'.heap L ∧ CHr Z consts_1 U.vm U.heap U'.vm U'.heap ∧ ReturnedEndW U o U' L room_1.cells room_1.slots) := by
  refine MetFree.of_bodySF (plainFor_of_name pn_CabinetFunctionIsSigningPinLaw) hisR ?_
  intro p e s m args below meth c s₁ Bd hml0 hP hK
  obtain ⟨rfl, hZ, hh, hC0⟩ := hP
  have hx := Bd.exec
  have hby := Bd.bytes
  have hml : c.maxLocals = 18 := hml0
  have hown : s.vm.findClass "com/example/suretygate/suretygate/rolemodel/CabinetFunctionIsSigningPinLaw" = some m.cls := findClass_of_methodNamed Bd.named
  have hnm := (name_of_methodNamed Bd.named Bd.method).1
  have X0 : Stand p l e room_1 (s.setVm s.vm) m #[(.int p1), (.int p2), (.int p3), (.int p4), (.int p5), (.int p6)] below meth c s₁ [] 0 0 := Stand.of_body Bd
  have e0 : s₁.heap = h0 := by rw [← hh, Bd.state]; rfl
  have N0 := Fr.nil n0
  obtain ⟨S0, hS0⟩ : ∃ z, z = s₁.setTop (entryFrame m #[(.int p1), (.int p2), (.int p3), (.int p4), (.int p5), (.int p6)] maxLocals) := ⟨_, rfl⟩
  have k0 : Rch p e below S0 s₁ (mkF m 0 #[.val (.int p1), .val (.int p2), .val (.int p3), .val (.int p4), .val (.int p5), .val (.int p6), .unset, .unset, .unset, .unset, .unset, .unset, .unset, .unset, .unset, .unset, .unset, .unset] []) := fun t k => hS0 ▸ castTop (ef_0 m p1 p2 p3 p4 p5 p6) k
  have hS : s.Since s.vm s.heap.size := (State.WarmedH.refl s).since _
  have hk : s.heap.size ≤ h0.size := by rw [← hh]; exact Nat.le_refl _
  have hwS : ∀ d ∈ Bundle.stringAtoms, d.before a0 Z = true := fun d hd => hw d ((by decide +kernel : ∀ d ∈ Bundle.stringAtoms, d ∈ tables_1) d hd)
  have rC0 : CHr Z consts_1 s.vm h0 s.vm h0 := CHr.refl hC0
  have hEL : EW Z a0 consts_1 := (EW.cons (hw _ (List.mem_of_getElem? (i := 72) rfl)) (by decide +kernel) (EW.cons (hw _ (List.mem_of_getElem? (i := 18) rfl)) (by decide +kernel) EW.nil))
  have k130 : Rch p e below S0 s₁ (mkF m 1 #[.val (.int p1), .val (.int p2), .val (.int p3), .val (.int p4), .val (.int p5), .val (.int p6), .unset, .unset, .unset, .unset, .unset, .unset, .unset, .unset, .unset, .unset, .unset, .unset] [(.int p2)]) := fun t h => k0 t (by
      show Steps p.tables e below (s₁.setTop (mkF m 0 #[.val (.int p1), .val (.int p2), .val (.int p3), .val (.int p4), .val (.int p5), .val (.int p6), .unset, .unset, .unset, .unset, .unset, .unset, .unset, .unset, .unset, .unset, .unset, .unset] [])) _
      refine XS.iloadN X0.here hx rfl (hb hby at_0) rfl ?_
      show Steps p.tables e below (s₁.setTop (mkF m 1 #[.val (.int p1), .val (.int p2), .val (.int p3), .val (.int p4), .val (.int p5), .val (.int p6), .unset, .unset, .unset, .unset, .unset, .unset, .unset, .unset, .unset, .unset, .unset, .unset] [(.int p2)])) _
      exact h)
  obtain ⟨_, _, ⟨T131, L131, kk131, n131⟩, -, X131, ⟨Lc131, hQ131, l131, y131, z131⟩, st131⟩ := Jvm.LawKit.callS X0 hx (y := (⟨"com/example/suretygate/suretygate/rolemodel/CabinetFunctionIsSigningPinLaw", "pick", "(I)C"⟩ : MethodName)) hown (mvT hZ (hw _ (List.mem_of_getElem? (i := 0) rfl))) (mvT hZ (hw _ (List.mem_of_getElem? (i := 1) rfl))) (mvT hZ (hw _ (List.mem_of_getElem? (i := 2) rfl))) (mvT hZ (hw _ (List.mem_of_getElem? (i := 3) rfl))) (by decide) (backOf (W := 0) (rmP l Z a0 hw [] p2  h0 n0 O0 ) hZ (hw _ (List.mem_of_getElem? (i := 3) rfl)) (hw _ (List.mem_of_getElem? (i := 2) rfl)) (by decide) (by decide)) (g := (mkF m 1 #[.val (.int p1), .val (.int p2), .val (.int p3), .val (.int p4), .val (.int p5), .val (.int p6), .unset, .unset, .unset, .unset, .unset, .unset, .unset, .unset, .unset, .unset, .unset, .unset] [(.int p2)])) rfl (by rw [hml]; rfl) (argsL := [(.int p2)]) (rest := []) (lenOf pd_0 rfl) rfl (by show 2 * 0 + _ ≤ _; exact Nat.le_of_eq rfl) (hb hby at_1) (fun _ _ => ⟨rfl, e0, (by decide : 0 + 0 ≤ _), (by decide : 0 + 0 ≤ _)⟩)
  dsimp only [Pt.U, Pt.locs, Pt.cells, Pt.slots] at X131 l131 y131 z131 st131 hQ131
  subst l131 y131 z131
  obtain ⟨c131, rfl, Nq131, hh131, hc131⟩ := hQ131
  have N131 := Fr.app N0 Nq131
  have k132 : Rch p e below S0 T131 (mkF m 4 #[.val (.int p1), .val (.int p2), .val (.int p3), .val (.int p4), .val (.int p5), .val (.int p6), .unset, .unset, .unset, .unset, .unset, .unset, .unset, .unset, .unset, .unset, .unset, .unset] [(.int c131)]) := fun t h => k130 t (st131 t h)
  have k133 : Rch p e below S0 T131 (mkF m 7 #[.val (.int p1), .val (.int p2), .val (.int p3), .val (.int p4), .val (.int p5), .val (.int p6), .val (.int c131), .unset, .unset, .unset, .unset, .unset, .unset, .unset, .unset, .unset, .unset, .unset] [(.int p3)]) := fun t h => k132 t (by
      show Steps p.tables e below (T131.setTop (mkF m 4 #[.val (.int p1), .val (.int p2), .val (.int p3), .val (.int p4), .val (.int p5), .val (.int p6), .unset, .unset, .unset, .unset, .unset, .unset, .unset, .unset, .unset, .unset, .unset, .unset] [(.int c131)])) _
      refine XS.istore X131.here hx rfl (hb hby at_4) rfl (l' := #[.val (.int p1), .val (.int p2), .val (.int p3), .val (.int p4), .val (.int p5), .val (.int p6), .val (.int c131), .unset, .unset, .unset, .unset, .unset, .unset, .unset, .unset, .unset, .unset, .unset]) rfl ?_
      show Steps p.tables e below (T131.setTop (mkF m 6 #[.val (.int p1), .val (.int p2), .val (.int p3), .val (.int p4), .val (.int p5), .val (.int p6), .val (.int c131), .unset, .unset, .unset, .unset, .unset, .unset, .unset, .unset, .unset, .unset, .unset] [])) _
      refine XS.iloadN X131.here hx rfl (hb hby at_6) rfl ?_
      show Steps p.tables e below (T131.setTop (mkF m 7 #[.val (.int p1), .val (.int p2), .val (.int p3), .val (.int p4), .val (.int p5), .val (.int p6), .val (.int c131), .unset, .unset, .unset, .unset, .unset, .unset, .unset, .unset, .unset, .unset, .unset] [(.int p3)])) _
      exact h)
  obtain ⟨_, _, ⟨T134, L134, kk134, n134⟩, -, X134, ⟨Lc134, hQ134, l134, y134, z134⟩, st134⟩ := Jvm.LawKit.callS X131 hx (y := (⟨"com/example/suretygate/suretygate/rolemodel/CabinetFunctionIsSigningPinLaw", "pick", "(I)C"⟩ : MethodName)) hown (mvT hZ (hw _ (List.mem_of_getElem? (i := 0) rfl))) (mvT hZ (hw _ (List.mem_of_getElem? (i := 1) rfl))) (mvT hZ (hw _ (List.mem_of_getElem? (i := 2) rfl))) (mvT hZ (hw _ (List.mem_of_getElem? (i := 3) rfl))) (by decide) (backOf (W := 0) (rmP l Z a0 hw [] p3  h0 n0 O0 ) hZ (hw _ (List.mem_of_getElem? (i := 3) rfl)) (hw _ (List.mem_of_getElem? (i := 2) rfl)) (by decide) (by decide)) (g := (mkF m 7 #[.val (.int p1), .val (.int p2), .val (.int p3), .val (.int p4), .val (.int p5), .val (.int p6), .val (.int c131), .unset, .unset, .unset, .unset, .unset, .unset, .unset, .unset, .unset, .unset, .unset] [(.int p3)])) rfl (by rw [hml]; rfl) (argsL := [(.int p3)]) (rest := []) (lenOf pd_0 rfl) rfl (by show 2 * 0 + _ ≤ _; exact Nat.le_of_eq rfl) (hb hby at_7) (fun _ _ => ⟨rfl, hh131, (by decide : 0 + 0 ≤ _), (by decide : 0 + 0 ≤ _)⟩)
  dsimp only [Pt.U, Pt.locs, Pt.cells, Pt.slots] at X134 l134 y134 z134 st134 hQ134
  subst l134 y134 z134
  obtain ⟨c134, rfl, Nq134, hh134, hc134⟩ := hQ134
  have N134 := Fr.app N131 Nq134
  have k135 : Rch p e below S0 T134 (mkF m 10 #[.val (.int p1), .val (.int p2), .val (.int p3), .val (.int p4), .val (.int p5), .val (.int p6), .val (.int c131), .unset, .unset, .unset, .unset, .unset, .unset, .unset, .unset, .unset, .unset, .unset] [(.int c134)]) := fun t h => k133 t (st134 t h)
  have k136 : Rch p e below S0 T134 (mkF m 13 #[.val (.int p1), .val (.int p2), .val (.int p3), .val (.int p4), .val (.int p5), .val (.int p6), .val (.int c131), .val (.int c134), .unset, .unset, .unset, .unset, .unset, .unset, .unset, .unset, .unset, .unset] [(.int p4)]) := fun t h => k135 t (by
      show Steps p.tables e below (T134.setTop (mkF m 10 #[.val (.int p1), .val (.int p2), .val (.int p3), .val (.int p4), .val (.int p5), .val (.int p6), .val (.int c131), .unset, .unset, .unset, .unset, .unset, .unset, .unset, .unset, .unset, .unset, .unset] [(.int c134)])) _
      refine XS.istore X134.here hx rfl (hb hby at_10) rfl (l' := #[.val (.int p1), .val (.int p2), .val (.int p3), .val (.int p4), .val (.int p5), .val (.int p6), .val (.int c131), .val (.int c134), .unset, .unset, .unset, .unset, .unset, .unset, .unset, .unset, .unset, .unset]) rfl ?_
      show Steps p.tables e below (T134.setTop (mkF m 12 #[.val (.int p1), .val (.int p2), .val (.int p3), .val (.int p4), .val (.int p5), .val (.int p6), .val (.int c131), .val (.int c134), .unset, .unset, .unset, .unset, .unset, .unset, .unset, .unset, .unset, .unset] [])) _
      refine XS.iloadN X134.here hx rfl (hb hby at_12) rfl ?_
      show Steps p.tables e below (T134.setTop (mkF m 13 #[.val (.int p1), .val (.int p2), .val (.int p3), .val (.int p4), .val (.int p5), .val (.int p6), .val (.int c131), .val (.int c134), .unset, .unset, .unset, .unset, .unset, .unset, .unset, .unset, .unset, .unset] [(.int p4)])) _
      exact h)
  obtain ⟨_, _, ⟨T137, L137, kk137, n137⟩, -, X137, ⟨Lc137, hQ137, l137, y137, z137⟩, st137⟩ := Jvm.LawKit.callS X134 hx (y := (⟨"com/example/suretygate/suretygate/rolemodel/CabinetFunctionIsSigningPinLaw", "pick", "(I)C"⟩ : MethodName)) hown (mvT hZ (hw _ (List.mem_of_getElem? (i := 0) rfl))) (mvT hZ (hw _ (List.mem_of_getElem? (i := 1) rfl))) (mvT hZ (hw _ (List.mem_of_getElem? (i := 2) rfl))) (mvT hZ (hw _ (List.mem_of_getElem? (i := 3) rfl))) (by decide) (backOf (W := 0) (rmP l Z a0 hw [] p4  h0 n0 O0 ) hZ (hw _ (List.mem_of_getElem? (i := 3) rfl)) (hw _ (List.mem_of_getElem? (i := 2) rfl)) (by decide) (by decide)) (g := (mkF m 13 #[.val (.int p1), .val (.int p2), .val (.int p3), .val (.int p4), .val (.int p5), .val (.int p6), .val (.int c131), .val (.int c134), .unset, .unset, .unset, .unset, .unset, .unset, .unset, .unset, .unset, .unset] [(.int p4)])) rfl (by rw [hml]; rfl) (argsL := [(.int p4)]) (rest := []) (lenOf pd_0 rfl) rfl (by show 2 * 0 + _ ≤ _; exact Nat.le_of_eq rfl) (hb hby at_13) (fun _ _ => ⟨rfl, hh134, (by decide : 0 + 0 ≤ _), (by decide : 0 + 0 ≤ _)⟩)
  dsimp only [Pt.U, Pt.locs, Pt.cells, Pt.slots] at X137 l137 y137 z137 st137 hQ137
  subst l137 y137 z137
  obtain ⟨c137, rfl, Nq137, hh137, hc137⟩ := hQ137
  have N137 := Fr.app N134 Nq137
  have k138 : Rch p e below S0 T137 (mkF m 16 #[.val (.int p1), .val (.int p2), .val (.int p3), .val (.int p4), .val (.int p5), .val (.int p6), .val (.int c131), .val (.int c134), .unset, .unset, .unset, .unset, .unset, .unset, .unset, .unset, .unset, .unset] [(.int c137)]) := fun t h => k136 t (st137 t h)
  have k139 : Rch p e below S0 T137 (mkF m 23 #[.val (.int p1), .val (.int p2), .val (.int p3), .val (.int p4), .val (.int p5), .val (.int p6), .val (.int c131), .val (.int c134), .val (.int c137), .val (.int (0 : Int32)), .unset, .unset, .unset, .unset, .unset, .unset, .unset, .unset] []) := fun t h => k138 t (by
      show Steps p.tables e below (T137.setTop (mkF m 16 #[.val (.int p1), .val (.int p2), .val (.int p3), .val (.int p4), .val (.int p5), .val (.int p6), .val (.int c131), .val (.int c134), .unset, .unset, .unset, .unset, .unset, .unset, .unset, .unset, .unset, .unset] [(.int c137)])) _
      refine XS.istore X137.here hx rfl (hb hby at_16) rfl (l' := #[.val (.int p1), .val (.int p2), .val (.int p3), .val (.int p4), .val (.int p5), .val (.int p6), .val (.int c131), .val (.int c134), .val (.int c137), .unset, .unset, .unset, .unset, .unset, .unset, .unset, .unset, .unset]) rfl ?_
      show Steps p.tables e below (T137.setTop (mkF m 18 #[.val (.int p1), .val (.int p2), .val (.int p3), .val (.int p4), .val (.int p5), .val (.int p6), .val (.int c131), .val (.int c134), .val (.int c137), .unset, .unset, .unset, .unset, .unset, .unset, .unset, .unset, .unset] [])) _
      refine XS.iloadN X137.here hx rfl (hb hby at_18) rfl ?_
      show Steps p.tables e below (T137.setTop (mkF m 19 #[.val (.int p1), .val (.int p2), .val (.int p3), .val (.int p4), .val (.int p5), .val (.int p6), .val (.int c131), .val (.int c134), .val (.int c137), .unset, .unset, .unset, .unset, .unset, .unset, .unset, .unset, .unset] [(.int p1)])) _
      refine XS.iconst X137.here hx rfl (hb hby at_19) ?_
      show Steps p.tables e below (T137.setTop (mkF m 20 #[.val (.int p1), .val (.int p2), .val (.int p3), .val (.int p4), .val (.int p5), .val (.int p6), .val (.int c131), .val (.int c134), .val (.int c137), .unset, .unset, .unset, .unset, .unset, .unset, .unset, .unset, .unset] [(.int (3 : Int32)), (.int p1)])) _
      refine XS.iand X137.here hx rfl (hb hby at_20) rfl ?_
      rw [hk0]
      show Steps p.tables e below (T137.setTop (mkF m 21 #[.val (.int p1), .val (.int p2), .val (.int p3), .val (.int p4), .val (.int p5), .val (.int p6), .val (.int c131), .val (.int c134), .val (.int c137), .unset, .unset, .unset, .unset, .unset, .unset, .unset, .unset, .unset] [(.int (0 : Int32))])) _
      refine XS.istore X137.here hx rfl (hb hby at_21) rfl (l' := #[.val (.int p1), .val (.int p2), .val (.int p3), .val (.int p4), .val (.int p5), .val (.int p6), .val (.int c131), .val (.int c134), .val (.int c137), .val (.int (0 : Int32)), .unset, .unset, .unset, .unset, .unset, .unset, .unset, .unset]) rfl ?_
      show Steps p.tables e below (T137.setTop (mkF m 23 #[.val (.int p1), .val (.int p2), .val (.int p3), .val (.int p4), .val (.int p5), .val (.int p6), .val (.int c131), .val (.int c134), .val (.int c137), .val (.int (0 : Int32)), .unset, .unset, .unset, .unset, .unset, .unset, .unset, .unset] [])) _
      exact h)
  have k141 : Rch p e below S0 T137 (mkF m 28 #[.val (.int p1), .val (.int p2), .val (.int p3), .val (.int p4), .val (.int p5), .val (.int p6), .val (.int c131), .val (.int c134), .val (.int c137), .val (.int (0 : Int32)), .unset, .unset, .unset, .unset, .unset, .unset, .unset, .unset] []) := fun t h => k139 t (by
      show Steps p.tables e below (T137.setTop (mkF m 23 #[.val (.int p1), .val (.int p2), .val (.int p3), .val (.int p4), .val (.int p5), .val (.int p6), .val (.int c131), .val (.int c134), .val (.int c137), .val (.int (0 : Int32)), .unset, .unset, .unset, .unset, .unset, .unset, .unset, .unset] [])) _
      refine XS.iload X137.here hx rfl (hb hby at_23) rfl ?_
      show Steps p.tables e below (T137.setTop (mkF m 25 #[.val (.int p1), .val (.int p2), .val (.int p3), .val (.int p4), .val (.int p5), .val (.int p6), .val (.int c131), .val (.int c134), .val (.int c137), .val (.int (0 : Int32)), .unset, .unset, .unset, .unset, .unset, .unset, .unset, .unset] [(.int (0 : Int32))])) _
      refine XS.ifNo X137.here hx rfl (hb hby at_25) rfl ((if0 _ _).trans (teq (by decide : (0 : Int32) = (0 : Int32))).2) ?_
      show Steps p.tables e below (T137.setTop (mkF m 28 #[.val (.int p1), .val (.int p2), .val (.int p3), .val (.int p4), .val (.int p5), .val (.int p6), .val (.int c131), .val (.int c134), .val (.int c137), .val (.int (0 : Int32)), .unset, .unset, .unset, .unset, .unset, .unset, .unset, .unset] [])) _
      exact h)
  obtain ⟨T140, h140, X140, e140, E140, A140, D140, -, st140⟩ := newO X137 hx hZ hown (hw _ (List.mem_of_getElem? (i := 4) rfl)) (hw _ (List.mem_of_getElem? (i := 5) rfl)) (hw _ (List.mem_of_getElem? (i := 6) rfl)) hh137 (g := (mkF m 28 #[.val (.int p1), .val (.int p2), .val (.int p3), .val (.int p4), .val (.int p5), .val (.int p6), .val (.int c131), .val (.int c134), .val (.int c137), .val (.int (0 : Int32)), .unset, .unset, .unset, .unset, .unset, .unset, .unset, .unset] [])) rfl (hb hby at_28) (by decide) (by decide)
  obtain ⟨b140, g140⟩ : ∃ z, z = h0.size := ⟨_, rfl⟩
  rw [← g140] at A140 D140 st140
  have k142 : Rch p e below S0 T140 (mkF m 31 #[.val (.int p1), .val (.int p2), .val (.int p3), .val (.int p4), .val (.int p5), .val (.int p6), .val (.int c131), .val (.int c134), .val (.int c137), .val (.int (0 : Int32)), .unset, .unset, .unset, .unset, .unset, .unset, .unset, .unset] [(.ref b140)]) := fun t h => k141 t (st140 t h)
  have ge_b140 : n0 ≤ b140 := own_ge O0 (Nat.le_of_eq g140.symm)
  have sf_b140 : Safe Z consts_1 s.vm h0 b140 := Safe.new (Nat.le_of_eq g140.symm)
  replace sf_b140 := Safe.ext E140 hC0 sf_b140
  have hC143 := hC0.ext E140
  have rC143 := rC0.trans (CHr.ext E140 hC0)
  have O144 := O0.ext E140
  have hkk145 := Nat.le_trans hk E140.1
  have E_b140 := A140
  have F_b140_value : Fld Z h140 b140 "java/lang/String" "value" "[B" .null := D140 (Or.inr (hw _ (List.mem_of_getElem? (i := 20) rfl))) (ty := (.array .byte)) (by decide)
  have F_b140_coder : Fld Z h140 b140 "java/lang/String" "coder" "B" (.int (0 : Int32)) := D140 (Or.inr (hw _ (List.mem_of_getElem? (i := 21) rfl))) (ty := .byte) (by decide)
  have k147 : Rch p e below S0 T140 (mkF m 33 #[.val (.int p1), .val (.int p2), .val (.int p3), .val (.int p4), .val (.int p5), .val (.int p6), .val (.int c131), .val (.int c134), .val (.int c137), .val (.int (0 : Int32)), .unset, .unset, .unset, .unset, .unset, .unset, .unset, .unset] [(.int (0 : Int32)), (.ref b140), (.ref b140)]) := fun t h => k142 t (by
      show Steps p.tables e below (T140.setTop (mkF m 31 #[.val (.int p1), .val (.int p2), .val (.int p3), .val (.int p4), .val (.int p5), .val (.int p6), .val (.int c131), .val (.int c134), .val (.int c137), .val (.int (0 : Int32)), .unset, .unset, .unset, .unset, .unset, .unset, .unset, .unset] [(.ref b140)])) _
      refine XS.dup X140.here hx rfl (hb hby at_31) rfl rfl ?_
      show Steps p.tables e below (T140.setTop (mkF m 32 #[.val (.int p1), .val (.int p2), .val (.int p3), .val (.int p4), .val (.int p5), .val (.int p6), .val (.int c131), .val (.int c134), .val (.int c137), .val (.int (0 : Int32)), .unset, .unset, .unset, .unset, .unset, .unset, .unset, .unset] [(.ref b140), (.ref b140)])) _
      refine XS.iconst X140.here hx rfl (hb hby at_32) ?_
      show Steps p.tables e below (T140.setTop (mkF m 33 #[.val (.int p1), .val (.int p2), .val (.int p3), .val (.int p4), .val (.int p5), .val (.int p6), .val (.int c131), .val (.int c134), .val (.int c137), .val (.int (0 : Int32)), .unset, .unset, .unset, .unset, .unset, .unset, .unset, .unset] [(.int (0 : Int32)), (.ref b140), (.ref b140)])) _
      exact h)
  obtain ⟨T146, h146, k146, X146, e146, E146, A146, st146⟩ := newP X140 hx hZ (hw _ (List.mem_of_getElem? (i := 7) rfl)) e140 (g := (mkF m 33 #[.val (.int p1), .val (.int p2), .val (.int p3), .val (.int p4), .val (.int p5), .val (.int p6), .val (.int c131), .val (.int c134), .val (.int c137), .val (.int (0 : Int32)), .unset, .unset, .unset, .unset, .unset, .unset, .unset, .unset] [(.int (0 : Int32)), (.ref b140), (.ref b140)])) rfl (hb hby at_33) rfl (by decide) (cap := 0) (by decide) (by decide) (by decide) (by decide)
  obtain ⟨b146, g146⟩ : ∃ z, z = h140.size := ⟨_, rfl⟩
  rw [← g146] at A146 st146
  have k148 : Rch p e below S0 T146 (mkF m 35 #[.val (.int p1), .val (.int p2), .val (.int p3), .val (.int p4), .val (.int p5), .val (.int p6), .val (.int c131), .val (.int c134), .val (.int c137), .val (.int (0 : Int32)), .unset, .unset, .unset, .unset, .unset, .unset, .unset, .unset] [(.ref b146), (.ref b140), (.ref b140)]) := fun t h => k147 t (st146 t h)
  have ne_b140_b146 : b140 ≠ b146 := own_ne E_b140.lt (Nat.le_of_eq g146.symm)
  have ge_b146 : n0 ≤ b146 := own_ge O144 (Nat.le_of_eq g146.symm)
  have sf_b146 : Safe Z consts_1 s.vm h140 b146 := Safe.new (Nat.le_of_eq g146.symm)
  replace sf_b140 := Safe.ext E146 hC143 sf_b140
  replace sf_b146 := Safe.ext E146 hC143 sf_b146
  have hC149 := hC143.ext E146
  have rC149 := rC143.trans (CHr.ext E146 hC143)
  have O150 := O144.ext E146
  replace E_b140 := E_b140.ext E146
  replace F_b140_value := F_b140_value.ext E146
  replace F_b140_coder := F_b140_coder.ext E146
  have hkk151 := Nat.le_trans hkk145 E146.1
  have V_b146 : Arv Z h146 b146 k146 .char (0 : Int32) [] (.int (0 : Int32)) := (Arv.new A146 (by decide)).pad (pad_rep [] (.int (0 : Int32)) 0)
  obtain ⟨_, _, ⟨T152, L152, kk152, n152⟩, -, X152, hS152, gr152, ⟨Lc152, hQ152, l152, y152, z152, hR152⟩, st152⟩ := X146.specialBackS hx (y := (⟨"java/lang/String", "<init>", "([C)V"⟩ : MethodName)) rfl hown (mvT hZ (hw _ (List.mem_of_getElem? (i := 8) rfl))) (mvT hZ (hw _ (List.mem_of_getElem? (i := 9) rfl))) (mvT hZ (hw _ (List.mem_of_getElem? (i := 10) rfl))) (by decide) (backOfSH (W := 1) (rmS0 l Z a0 hw [] b140 b146 k146 h146 n0 O150 ge_b140 E_b140 F_b140_value F_b140_coder V_b146) hZ (hw _ (List.mem_of_getElem? (i := 10) rfl)) (hw _ (List.mem_of_getElem? (i := 6) rfl)) (by decide) (by decide) hEL hC149) (g := (mkF m 35 #[.val (.int p1), .val (.int p2), .val (.int p3), .val (.int p4), .val (.int p5), .val (.int p6), .val (.int c131), .val (.int c134), .val (.int c137), .val (.int (0 : Int32)), .unset, .unset, .unset, .unset, .unset, .unset, .unset, .unset] [(.ref b146), (.ref b140), (.ref b140)])) rfl (by rw [hml]; rfl) (Steps.refl _) (a := b140) (argsL := [(.ref b146)]) (rest := [(.ref b140)]) (lenOf pd_1 rfl) rfl (by show 2 * 0 + _ ≤ _; exact Nat.le_of_eq rfl) (hb hby at_35) (fun _ _ => ⟨rfl, e146, (by decide : 2 + 4 ≤ _), (by decide : 4 + 8 ≤ _)⟩)
  dsimp only [Pt.U, Pt.locs, Pt.cells, Pt.slots] at X152 l152 y152 z152 st152 hQ152 hS152 gr152 hR152
  subst l152 y152 z152
  have hZ152 : Z.Warmed39 (s.setVm T152.vm).vm := State.Warmed39.trans (t := (s.setVm s.vm)) hZ hS152.1
  have hown152 : (s.setVm T152.vm).vm.findClass "com/example/suretygate/suretygate/rolemodel/CabinetFunctionIsSigningPinLaw" = some m.cls := by rw [show (s.setVm T152.vm).vm = T152.vm from rfl, hS152.1.alike.findClass]; exact hown
  replace hS152 := foldS hS (by rw [e146]; exact hkk151) hS152 gr152
  have hk152 := Nat.le_refl T152.heap.size
  replace X152 : Stand p l e room_1 (s.setVm T152.vm) m #[(.int p1), (.int p2), (.int p3), (.int p4), (.int p5), (.int p6)] below meth c T152 _ _ _ := X152
  obtain ⟨rfl, Nq152, K152, t152, kt152, Fv152, Fc152, At152⟩ := hQ152
  have N152 := Fr.app N137 Nq152
  have k153 : Rch p e below S0 T152 (mkF m 38 #[.val (.int p1), .val (.int p2), .val (.int p3), .val (.int p4), .val (.int p5), .val (.int p6), .val (.int c131), .val (.int c134), .val (.int c137), .val (.int (0 : Int32)), .unset, .unset, .unset, .unset, .unset, .unset, .unset, .unset] [(.ref b140)]) := fun t h => k148 t (st152.trans h)
  replace sf_b140 := hR152.safe E_b140.lt sf_b140
  replace sf_b146 := hR152.safe V_b146.lt sf_b146
  have hC154 := hR152.1
  have rC154 := rC149.trans hR152
  have O155 := O150.keep K152 (allS ge_b140 all0)
  replace E_b140 := E_b140.keep K152
  replace V_b146 := V_b146.keep K152 (ninS (Ne.symm ne_b140_b146) nin0)
  have k156 : Rch p e below S0 T152 (mkF m 127 #[.val (.int p1), .val (.int p2), .val (.int p3), .val (.int p4), .val (.int p5), .val (.int p6), .val (.int c131), .val (.int c134), .val (.int c137), .val (.int (0 : Int32)), .val (.ref b140), .unset, .unset, .unset, .unset, .unset, .unset, .unset] []) := fun t h => k153 t (by
      show Steps p.tables e below (T152.setTop (mkF m 38 #[.val (.int p1), .val (.int p2), .val (.int p3), .val (.int p4), .val (.int p5), .val (.int p6), .val (.int c131), .val (.int c134), .val (.int c137), .val (.int (0 : Int32)), .unset, .unset, .unset, .unset, .unset, .unset, .unset, .unset] [(.ref b140)])) _
      refine XS.astore X152.here hx rfl (hb hby at_38) rfl rfl (l' := #[.val (.int p1), .val (.int p2), .val (.int p3), .val (.int p4), .val (.int p5), .val (.int p6), .val (.int c131), .val (.int c134), .val (.int c137), .val (.int (0 : Int32)), .val (.ref b140), .unset, .unset, .unset, .unset, .unset, .unset, .unset]) rfl ?_
      show Steps p.tables e below (T152.setTop (mkF m 40 #[.val (.int p1), .val (.int p2), .val (.int p3), .val (.int p4), .val (.int p5), .val (.int p6), .val (.int c131), .val (.int c134), .val (.int c137), .val (.int (0 : Int32)), .val (.ref b140), .unset, .unset, .unset, .unset, .unset, .unset, .unset] [])) _
      refine XS.goto X152.here hx rfl (pc0 := 40) (pc' := 127) rfl (hb hby at_40) (by decide) (by decide) ?_
      show Steps p.tables e below (T152.setTop (mkF m 127 #[.val (.int p1), .val (.int p2), .val (.int p3), .val (.int p4), .val (.int p5), .val (.int p6), .val (.int c131), .val (.int c134), .val (.int c137), .val (.int (0 : Int32)), .val (.ref b140), .unset, .unset, .unset, .unset, .unset, .unset, .unset] [])) _
      exact h)
  obtain ⟨T169, kk, wK, X169, e169, k169⟩ : ∃ (T' : State) (kk : Int32) (wK : Addr), Like X152 T' ∧ T'.heap = T152.heap ∧ Rch p e below S0 T' (mkF m 168 #[.val (.int p1), .val (.int p2), .val (.int p3), .val (.int p4), .val (.int p5), .val (.int p6), .val (.int c131), .val (.int c134), .val (.int c137), .val (.int (0 : Int32)), .val (.ref b140), .val (.int kk), .val (.ref wK), .unset, .unset, .unset, .unset, .unset] []) := by
    rcases own_sel p5 with hk1 | hk1 | hk1
    · have k158 : Rch p e below S0 T152 (mkF m 141 #[.val (.int p1), .val (.int p2), .val (.int p3), .val (.int p4), .val (.int p5), .val (.int p6), .val (.int c131), .val (.int c134), .val (.int c137), .val (.int (0 : Int32)), .val (.ref b140), .val (.int (0 : Int32)), .unset, .unset, .unset, .unset, .unset, .unset] []) := fun t h => k156 t (by
          show Steps p.tables e below (T152.setTop (mkF m 127 #[.val (.int p1), .val (.int p2), .val (.int p3), .val (.int p4), .val (.int p5), .val (.int p6), .val (.int c131), .val (.int c134), .val (.int c137), .val (.int (0 : Int32)), .val (.ref b140), .unset, .unset, .unset, .unset, .unset, .unset, .unset] [])) _
          refine XS.iload X152.here hx rfl (hb hby at_127) rfl ?_
          show Steps p.tables e below (T152.setTop (mkF m 129 #[.val (.int p1), .val (.int p2), .val (.int p3), .val (.int p4), .val (.int p5), .val (.int p6), .val (.int c131), .val (.int c134), .val (.int c137), .val (.int (0 : Int32)), .val (.ref b140), .unset, .unset, .unset, .unset, .unset, .unset, .unset] [(.int p5)])) _
          refine X152.ldcInt hx hown152 (mvT hZ152 (hw _ (List.mem_of_getElem? (i := 26) rfl))) (g := (mkF m 129 #[.val (.int p1), .val (.int p2), .val (.int p3), .val (.int p4), .val (.int p5), .val (.int p6), .val (.int c131), .val (.int c134), .val (.int c137), .val (.int (0 : Int32)), .val (.ref b140), .unset, .unset, .unset, .unset, .unset, .unset, .unset] [(.int p5)])) rfl (hb hby at_129) _ ?_
          show Steps p.tables e below (T152.setTop (mkF m 131 #[.val (.int p1), .val (.int p2), .val (.int p3), .val (.int p4), .val (.int p5), .val (.int p6), .val (.int c131), .val (.int c134), .val (.int c137), .val (.int (0 : Int32)), .val (.ref b140), .unset, .unset, .unset, .unset, .unset, .unset, .unset] [(.int (2147483647 : Int32)), (.int p5)])) _
          refine XS.iand X152.here hx rfl (hb hby at_131) rfl ?_
          show Steps p.tables e below (T152.setTop (mkF m 132 #[.val (.int p1), .val (.int p2), .val (.int p3), .val (.int p4), .val (.int p5), .val (.int p6), .val (.int c131), .val (.int c134), .val (.int c137), .val (.int (0 : Int32)), .val (.ref b140), .unset, .unset, .unset, .unset, .unset, .unset, .unset] [(.int (p5 &&& (2147483647 : Int32)))])) _
          refine XS.iconst X152.here hx rfl (hb hby at_132) ?_
          show Steps p.tables e below (T152.setTop (mkF m 133 #[.val (.int p1), .val (.int p2), .val (.int p3), .val (.int p4), .val (.int p5), .val (.int p6), .val (.int c131), .val (.int c134), .val (.int c137), .val (.int (0 : Int32)), .val (.ref b140), .unset, .unset, .unset, .unset, .unset, .unset, .unset] [(.int (3 : Int32)), (.int (p5 &&& (2147483647 : Int32)))])) _
          refine iremM X152 hx rfl (hb hby at_133) rfl (by decide) ?_
          rw [hk1]
          show Steps p.tables e below (T152.setTop (mkF m 134 #[.val (.int p1), .val (.int p2), .val (.int p3), .val (.int p4), .val (.int p5), .val (.int p6), .val (.int c131), .val (.int c134), .val (.int c137), .val (.int (0 : Int32)), .val (.ref b140), .unset, .unset, .unset, .unset, .unset, .unset, .unset] [(.int (0 : Int32))])) _
          refine XS.istore X152.here hx rfl (hb hby at_134) rfl (l' := #[.val (.int p1), .val (.int p2), .val (.int p3), .val (.int p4), .val (.int p5), .val (.int p6), .val (.int c131), .val (.int c134), .val (.int c137), .val (.int (0 : Int32)), .val (.ref b140), .val (.int (0 : Int32)), .unset, .unset, .unset, .unset, .unset, .unset]) rfl ?_
          show Steps p.tables e below (T152.setTop (mkF m 136 #[.val (.int p1), .val (.int p2), .val (.int p3), .val (.int p4), .val (.int p5), .val (.int p6), .val (.int c131), .val (.int c134), .val (.int c137), .val (.int (0 : Int32)), .val (.ref b140), .val (.int (0 : Int32)), .unset, .unset, .unset, .unset, .unset, .unset] [])) _
          refine XS.iload X152.here hx rfl (hb hby at_136) rfl ?_
          show Steps p.tables e below (T152.setTop (mkF m 138 #[.val (.int p1), .val (.int p2), .val (.int p3), .val (.int p4), .val (.int p5), .val (.int p6), .val (.int c131), .val (.int c134), .val (.int c137), .val (.int (0 : Int32)), .val (.ref b140), .val (.int (0 : Int32)), .unset, .unset, .unset, .unset, .unset, .unset] [(.int (0 : Int32))])) _
          refine XS.ifNo X152.here hx rfl (hb hby at_138) rfl ((if0 _ _).trans (teq (by decide : (0 : Int32) = (0 : Int32))).2) ?_
          show Steps p.tables e below (T152.setTop (mkF m 141 #[.val (.int p1), .val (.int p2), .val (.int p3), .val (.int p4), .val (.int p5), .val (.int p6), .val (.int c131), .val (.int c134), .val (.int c137), .val (.int (0 : Int32)), .val (.ref b140), .val (.int (0 : Int32)), .unset, .unset, .unset, .unset, .unset, .unset] [])) _
          exact h)
      obtain ⟨T157, X157, e157, st157⟩ := getS2 X152 hx hZ152 hown152 (host := "") (Or.inl (hw _ (List.mem_of_getElem? (i := 27) rfl))) Via.refl rfl (SM.ext O155.2) (g := (mkF m 141 #[.val (.int p1), .val (.int p2), .val (.int p3), .val (.int p4), .val (.int p5), .val (.int p6), .val (.int c131), .val (.int c134), .val (.int c137), .val (.int (0 : Int32)), .val (.ref b140), .val (.int (0 : Int32)), .unset, .unset, .unset, .unset, .unset, .unset] [])) rfl (hb hby at_141)
      have k159 : Rch p e below S0 T157 (mkF m 144 #[.val (.int p1), .val (.int p2), .val (.int p3), .val (.int p4), .val (.int p5), .val (.int p6), .val (.int c131), .val (.int c134), .val (.int c137), .val (.int (0 : Int32)), .val (.ref b140), .val (.int (0 : Int32)), .unset, .unset, .unset, .unset, .unset, .unset] [(.ref wM)]) := fun t h => k158 t (st157 t h)
      have k160 : Rch p e below S0 T157 (mkF m 168 #[.val (.int p1), .val (.int p2), .val (.int p3), .val (.int p4), .val (.int p5), .val (.int p6), .val (.int c131), .val (.int c134), .val (.int c137), .val (.int (0 : Int32)), .val (.ref b140), .val (.int (0 : Int32)), .val (.ref wM), .unset, .unset, .unset, .unset, .unset] []) := fun t h => k159 t (by
          show Steps p.tables e below (T157.setTop (mkF m 144 #[.val (.int p1), .val (.int p2), .val (.int p3), .val (.int p4), .val (.int p5), .val (.int p6), .val (.int c131), .val (.int c134), .val (.int c137), .val (.int (0 : Int32)), .val (.ref b140), .val (.int (0 : Int32)), .unset, .unset, .unset, .unset, .unset, .unset] [(.ref wM)])) _
          refine XS.astore X157.here hx rfl (hb hby at_144) rfl rfl (l' := #[.val (.int p1), .val (.int p2), .val (.int p3), .val (.int p4), .val (.int p5), .val (.int p6), .val (.int c131), .val (.int c134), .val (.int c137), .val (.int (0 : Int32)), .val (.ref b140), .val (.int (0 : Int32)), .val (.ref wM), .unset, .unset, .unset, .unset, .unset]) rfl ?_
          show Steps p.tables e below (T157.setTop (mkF m 146 #[.val (.int p1), .val (.int p2), .val (.int p3), .val (.int p4), .val (.int p5), .val (.int p6), .val (.int c131), .val (.int c134), .val (.int c137), .val (.int (0 : Int32)), .val (.ref b140), .val (.int (0 : Int32)), .val (.ref wM), .unset, .unset, .unset, .unset, .unset] [])) _
          refine XS.goto X157.here hx rfl (pc0 := 146) (pc' := 168) rfl (hb hby at_146) (by decide) (by decide) ?_
          show Steps p.tables e below (T157.setTop (mkF m 168 #[.val (.int p1), .val (.int p2), .val (.int p3), .val (.int p4), .val (.int p5), .val (.int p6), .val (.int c131), .val (.int c134), .val (.int c137), .val (.int (0 : Int32)), .val (.ref b140), .val (.int (0 : Int32)), .val (.ref wM), .unset, .unset, .unset, .unset, .unset] [])) _
          exact h)
      exact ⟨_, (0 : Int32), wM, X157, e157, k160⟩
    · have k162 : Rch p e below S0 T152 (mkF m 155 #[.val (.int p1), .val (.int p2), .val (.int p3), .val (.int p4), .val (.int p5), .val (.int p6), .val (.int c131), .val (.int c134), .val (.int c137), .val (.int (0 : Int32)), .val (.ref b140), .val (.int (1 : Int32)), .unset, .unset, .unset, .unset, .unset, .unset] []) := fun t h => k156 t (by
          show Steps p.tables e below (T152.setTop (mkF m 127 #[.val (.int p1), .val (.int p2), .val (.int p3), .val (.int p4), .val (.int p5), .val (.int p6), .val (.int c131), .val (.int c134), .val (.int c137), .val (.int (0 : Int32)), .val (.ref b140), .unset, .unset, .unset, .unset, .unset, .unset, .unset] [])) _
          refine XS.iload X152.here hx rfl (hb hby at_127) rfl ?_
          show Steps p.tables e below (T152.setTop (mkF m 129 #[.val (.int p1), .val (.int p2), .val (.int p3), .val (.int p4), .val (.int p5), .val (.int p6), .val (.int c131), .val (.int c134), .val (.int c137), .val (.int (0 : Int32)), .val (.ref b140), .unset, .unset, .unset, .unset, .unset, .unset, .unset] [(.int p5)])) _
          refine X152.ldcInt hx hown152 (mvT hZ152 (hw _ (List.mem_of_getElem? (i := 26) rfl))) (g := (mkF m 129 #[.val (.int p1), .val (.int p2), .val (.int p3), .val (.int p4), .val (.int p5), .val (.int p6), .val (.int c131), .val (.int c134), .val (.int c137), .val (.int (0 : Int32)), .val (.ref b140), .unset, .unset, .unset, .unset, .unset, .unset, .unset] [(.int p5)])) rfl (hb hby at_129) _ ?_
          show Steps p.tables e below (T152.setTop (mkF m 131 #[.val (.int p1), .val (.int p2), .val (.int p3), .val (.int p4), .val (.int p5), .val (.int p6), .val (.int c131), .val (.int c134), .val (.int c137), .val (.int (0 : Int32)), .val (.ref b140), .unset, .unset, .unset, .unset, .unset, .unset, .unset] [(.int (2147483647 : Int32)), (.int p5)])) _
          refine XS.iand X152.here hx rfl (hb hby at_131) rfl ?_
          show Steps p.tables e below (T152.setTop (mkF m 132 #[.val (.int p1), .val (.int p2), .val (.int p3), .val (.int p4), .val (.int p5), .val (.int p6), .val (.int c131), .val (.int c134), .val (.int c137), .val (.int (0 : Int32)), .val (.ref b140), .unset, .unset, .unset, .unset, .unset, .unset, .unset] [(.int (p5 &&& (2147483647 : Int32)))])) _
          refine XS.iconst X152.here hx rfl (hb hby at_132) ?_
          show Steps p.tables e below (T152.setTop (mkF m 133 #[.val (.int p1), .val (.int p2), .val (.int p3), .val (.int p4), .val (.int p5), .val (.int p6), .val (.int c131), .val (.int c134), .val (.int c137), .val (.int (0 : Int32)), .val (.ref b140), .unset, .unset, .unset, .unset, .unset, .unset, .unset] [(.int (3 : Int32)), (.int (p5 &&& (2147483647 : Int32)))])) _
          refine iremM X152 hx rfl (hb hby at_133) rfl (by decide) ?_
          rw [hk1]
          show Steps p.tables e below (T152.setTop (mkF m 134 #[.val (.int p1), .val (.int p2), .val (.int p3), .val (.int p4), .val (.int p5), .val (.int p6), .val (.int c131), .val (.int c134), .val (.int c137), .val (.int (0 : Int32)), .val (.ref b140), .unset, .unset, .unset, .unset, .unset, .unset, .unset] [(.int (1 : Int32))])) _
          refine XS.istore X152.here hx rfl (hb hby at_134) rfl (l' := #[.val (.int p1), .val (.int p2), .val (.int p3), .val (.int p4), .val (.int p5), .val (.int p6), .val (.int c131), .val (.int c134), .val (.int c137), .val (.int (0 : Int32)), .val (.ref b140), .val (.int (1 : Int32)), .unset, .unset, .unset, .unset, .unset, .unset]) rfl ?_
          show Steps p.tables e below (T152.setTop (mkF m 136 #[.val (.int p1), .val (.int p2), .val (.int p3), .val (.int p4), .val (.int p5), .val (.int p6), .val (.int c131), .val (.int c134), .val (.int c137), .val (.int (0 : Int32)), .val (.ref b140), .val (.int (1 : Int32)), .unset, .unset, .unset, .unset, .unset, .unset] [])) _
          refine XS.iload X152.here hx rfl (hb hby at_136) rfl ?_
          show Steps p.tables e below (T152.setTop (mkF m 138 #[.val (.int p1), .val (.int p2), .val (.int p3), .val (.int p4), .val (.int p5), .val (.int p6), .val (.int c131), .val (.int c134), .val (.int c137), .val (.int (0 : Int32)), .val (.ref b140), .val (.int (1 : Int32)), .unset, .unset, .unset, .unset, .unset, .unset] [(.int (1 : Int32))])) _
          refine XS.ifYes X152.here hx rfl (pc0 := 138) (pc' := 149) rfl (hb hby at_138) rfl ((if0 _ _).trans (feq (by decide : ¬ ((1 : Int32) = (0 : Int32)))).2) (by decide) (by decide) ?_
          show Steps p.tables e below (T152.setTop (mkF m 149 #[.val (.int p1), .val (.int p2), .val (.int p3), .val (.int p4), .val (.int p5), .val (.int p6), .val (.int c131), .val (.int c134), .val (.int c137), .val (.int (0 : Int32)), .val (.ref b140), .val (.int (1 : Int32)), .unset, .unset, .unset, .unset, .unset, .unset] [])) _
          refine XS.iload X152.here hx rfl (hb hby at_149) rfl ?_
          show Steps p.tables e below (T152.setTop (mkF m 151 #[.val (.int p1), .val (.int p2), .val (.int p3), .val (.int p4), .val (.int p5), .val (.int p6), .val (.int c131), .val (.int c134), .val (.int c137), .val (.int (0 : Int32)), .val (.ref b140), .val (.int (1 : Int32)), .unset, .unset, .unset, .unset, .unset, .unset] [(.int (1 : Int32))])) _
          refine XS.iconst X152.here hx rfl (hb hby at_151) ?_
          show Steps p.tables e below (T152.setTop (mkF m 152 #[.val (.int p1), .val (.int p2), .val (.int p3), .val (.int p4), .val (.int p5), .val (.int p6), .val (.int c131), .val (.int c134), .val (.int c137), .val (.int (0 : Int32)), .val (.ref b140), .val (.int (1 : Int32)), .unset, .unset, .unset, .unset, .unset, .unset] [(.int (1 : Int32)), (.int (1 : Int32))])) _
          refine XS.icmpNo X152.here hx rfl (hb hby at_152) rfl (teq (by decide : (1 : Int32) = (1 : Int32))).2 ?_
          show Steps p.tables e below (T152.setTop (mkF m 155 #[.val (.int p1), .val (.int p2), .val (.int p3), .val (.int p4), .val (.int p5), .val (.int p6), .val (.int c131), .val (.int c134), .val (.int c137), .val (.int (0 : Int32)), .val (.ref b140), .val (.int (1 : Int32)), .unset, .unset, .unset, .unset, .unset, .unset] [])) _
          exact h)
      obtain ⟨T161, X161, e161, st161⟩ := getS2 X152 hx hZ152 hown152 (host := "") (Or.inl (hw _ (List.mem_of_getElem? (i := 93) rfl))) Via.refl rfl (SP.ext O155.2) (g := (mkF m 155 #[.val (.int p1), .val (.int p2), .val (.int p3), .val (.int p4), .val (.int p5), .val (.int p6), .val (.int c131), .val (.int c134), .val (.int c137), .val (.int (0 : Int32)), .val (.ref b140), .val (.int (1 : Int32)), .unset, .unset, .unset, .unset, .unset, .unset] [])) rfl (hb hby at_155)
      have k163 : Rch p e below S0 T161 (mkF m 158 #[.val (.int p1), .val (.int p2), .val (.int p3), .val (.int p4), .val (.int p5), .val (.int p6), .val (.int c131), .val (.int c134), .val (.int c137), .val (.int (0 : Int32)), .val (.ref b140), .val (.int (1 : Int32)), .unset, .unset, .unset, .unset, .unset, .unset] [(.ref wP)]) := fun t h => k162 t (st161 t h)
      have k164 : Rch p e below S0 T161 (mkF m 168 #[.val (.int p1), .val (.int p2), .val (.int p3), .val (.int p4), .val (.int p5), .val (.int p6), .val (.int c131), .val (.int c134), .val (.int c137), .val (.int (0 : Int32)), .val (.ref b140), .val (.int (1 : Int32)), .val (.ref wP), .unset, .unset, .unset, .unset, .unset] []) := fun t h => k163 t (by
          show Steps p.tables e below (T161.setTop (mkF m 158 #[.val (.int p1), .val (.int p2), .val (.int p3), .val (.int p4), .val (.int p5), .val (.int p6), .val (.int c131), .val (.int c134), .val (.int c137), .val (.int (0 : Int32)), .val (.ref b140), .val (.int (1 : Int32)), .unset, .unset, .unset, .unset, .unset, .unset] [(.ref wP)])) _
          refine XS.astore X161.here hx rfl (hb hby at_158) rfl rfl (l' := #[.val (.int p1), .val (.int p2), .val (.int p3), .val (.int p4), .val (.int p5), .val (.int p6), .val (.int c131), .val (.int c134), .val (.int c137), .val (.int (0 : Int32)), .val (.ref b140), .val (.int (1 : Int32)), .val (.ref wP), .unset, .unset, .unset, .unset, .unset]) rfl ?_
          show Steps p.tables e below (T161.setTop (mkF m 160 #[.val (.int p1), .val (.int p2), .val (.int p3), .val (.int p4), .val (.int p5), .val (.int p6), .val (.int c131), .val (.int c134), .val (.int c137), .val (.int (0 : Int32)), .val (.ref b140), .val (.int (1 : Int32)), .val (.ref wP), .unset, .unset, .unset, .unset, .unset] [])) _
          refine XS.goto X161.here hx rfl (pc0 := 160) (pc' := 168) rfl (hb hby at_160) (by decide) (by decide) ?_
          show Steps p.tables e below (T161.setTop (mkF m 168 #[.val (.int p1), .val (.int p2), .val (.int p3), .val (.int p4), .val (.int p5), .val (.int p6), .val (.int c131), .val (.int c134), .val (.int c137), .val (.int (0 : Int32)), .val (.ref b140), .val (.int (1 : Int32)), .val (.ref wP), .unset, .unset, .unset, .unset, .unset] [])) _
          exact h)
      exact ⟨_, (1 : Int32), wP, X161, e161, k164⟩
    · have k166 : Rch p e below S0 T152 (mkF m 163 #[.val (.int p1), .val (.int p2), .val (.int p3), .val (.int p4), .val (.int p5), .val (.int p6), .val (.int c131), .val (.int c134), .val (.int c137), .val (.int (0 : Int32)), .val (.ref b140), .val (.int (2 : Int32)), .unset, .unset, .unset, .unset, .unset, .unset] []) := fun t h => k156 t (by
          show Steps p.tables e below (T152.setTop (mkF m 127 #[.val (.int p1), .val (.int p2), .val (.int p3), .val (.int p4), .val (.int p5), .val (.int p6), .val (.int c131), .val (.int c134), .val (.int c137), .val (.int (0 : Int32)), .val (.ref b140), .unset, .unset, .unset, .unset, .unset, .unset, .unset] [])) _
          refine XS.iload X152.here hx rfl (hb hby at_127) rfl ?_
          show Steps p.tables e below (T152.setTop (mkF m 129 #[.val (.int p1), .val (.int p2), .val (.int p3), .val (.int p4), .val (.int p5), .val (.int p6), .val (.int c131), .val (.int c134), .val (.int c137), .val (.int (0 : Int32)), .val (.ref b140), .unset, .unset, .unset, .unset, .unset, .unset, .unset] [(.int p5)])) _
          refine X152.ldcInt hx hown152 (mvT hZ152 (hw _ (List.mem_of_getElem? (i := 26) rfl))) (g := (mkF m 129 #[.val (.int p1), .val (.int p2), .val (.int p3), .val (.int p4), .val (.int p5), .val (.int p6), .val (.int c131), .val (.int c134), .val (.int c137), .val (.int (0 : Int32)), .val (.ref b140), .unset, .unset, .unset, .unset, .unset, .unset, .unset] [(.int p5)])) rfl (hb hby at_129) _ ?_
          show Steps p.tables e below (T152.setTop (mkF m 131 #[.val (.int p1), .val (.int p2), .val (.int p3), .val (.int p4), .val (.int p5), .val (.int p6), .val (.int c131), .val (.int c134), .val (.int c137), .val (.int (0 : Int32)), .val (.ref b140), .unset, .unset, .unset, .unset, .unset, .unset, .unset] [(.int (2147483647 : Int32)), (.int p5)])) _
          refine XS.iand X152.here hx rfl (hb hby at_131) rfl ?_
          show Steps p.tables e below (T152.setTop (mkF m 132 #[.val (.int p1), .val (.int p2), .val (.int p3), .val (.int p4), .val (.int p5), .val (.int p6), .val (.int c131), .val (.int c134), .val (.int c137), .val (.int (0 : Int32)), .val (.ref b140), .unset, .unset, .unset, .unset, .unset, .unset, .unset] [(.int (p5 &&& (2147483647 : Int32)))])) _
          refine XS.iconst X152.here hx rfl (hb hby at_132) ?_
          show Steps p.tables e below (T152.setTop (mkF m 133 #[.val (.int p1), .val (.int p2), .val (.int p3), .val (.int p4), .val (.int p5), .val (.int p6), .val (.int c131), .val (.int c134), .val (.int c137), .val (.int (0 : Int32)), .val (.ref b140), .unset, .unset, .unset, .unset, .unset, .unset, .unset] [(.int (3 : Int32)), (.int (p5 &&& (2147483647 : Int32)))])) _
          refine iremM X152 hx rfl (hb hby at_133) rfl (by decide) ?_
          rw [hk1]
          show Steps p.tables e below (T152.setTop (mkF m 134 #[.val (.int p1), .val (.int p2), .val (.int p3), .val (.int p4), .val (.int p5), .val (.int p6), .val (.int c131), .val (.int c134), .val (.int c137), .val (.int (0 : Int32)), .val (.ref b140), .unset, .unset, .unset, .unset, .unset, .unset, .unset] [(.int (2 : Int32))])) _
          refine XS.istore X152.here hx rfl (hb hby at_134) rfl (l' := #[.val (.int p1), .val (.int p2), .val (.int p3), .val (.int p4), .val (.int p5), .val (.int p6), .val (.int c131), .val (.int c134), .val (.int c137), .val (.int (0 : Int32)), .val (.ref b140), .val (.int (2 : Int32)), .unset, .unset, .unset, .unset, .unset, .unset]) rfl ?_
          show Steps p.tables e below (T152.setTop (mkF m 136 #[.val (.int p1), .val (.int p2), .val (.int p3), .val (.int p4), .val (.int p5), .val (.int p6), .val (.int c131), .val (.int c134), .val (.int c137), .val (.int (0 : Int32)), .val (.ref b140), .val (.int (2 : Int32)), .unset, .unset, .unset, .unset, .unset, .unset] [])) _
          refine XS.iload X152.here hx rfl (hb hby at_136) rfl ?_
          show Steps p.tables e below (T152.setTop (mkF m 138 #[.val (.int p1), .val (.int p2), .val (.int p3), .val (.int p4), .val (.int p5), .val (.int p6), .val (.int c131), .val (.int c134), .val (.int c137), .val (.int (0 : Int32)), .val (.ref b140), .val (.int (2 : Int32)), .unset, .unset, .unset, .unset, .unset, .unset] [(.int (2 : Int32))])) _
          refine XS.ifYes X152.here hx rfl (pc0 := 138) (pc' := 149) rfl (hb hby at_138) rfl ((if0 _ _).trans (feq (by decide : ¬ ((2 : Int32) = (0 : Int32)))).2) (by decide) (by decide) ?_
          show Steps p.tables e below (T152.setTop (mkF m 149 #[.val (.int p1), .val (.int p2), .val (.int p3), .val (.int p4), .val (.int p5), .val (.int p6), .val (.int c131), .val (.int c134), .val (.int c137), .val (.int (0 : Int32)), .val (.ref b140), .val (.int (2 : Int32)), .unset, .unset, .unset, .unset, .unset, .unset] [])) _
          refine XS.iload X152.here hx rfl (hb hby at_149) rfl ?_
          show Steps p.tables e below (T152.setTop (mkF m 151 #[.val (.int p1), .val (.int p2), .val (.int p3), .val (.int p4), .val (.int p5), .val (.int p6), .val (.int c131), .val (.int c134), .val (.int c137), .val (.int (0 : Int32)), .val (.ref b140), .val (.int (2 : Int32)), .unset, .unset, .unset, .unset, .unset, .unset] [(.int (2 : Int32))])) _
          refine XS.iconst X152.here hx rfl (hb hby at_151) ?_
          show Steps p.tables e below (T152.setTop (mkF m 152 #[.val (.int p1), .val (.int p2), .val (.int p3), .val (.int p4), .val (.int p5), .val (.int p6), .val (.int c131), .val (.int c134), .val (.int c137), .val (.int (0 : Int32)), .val (.ref b140), .val (.int (2 : Int32)), .unset, .unset, .unset, .unset, .unset, .unset] [(.int (1 : Int32)), (.int (2 : Int32))])) _
          refine XS.icmpYes X152.here hx rfl (pc0 := 152) (pc' := 163) rfl (hb hby at_152) rfl (feq (by decide : ¬ ((2 : Int32) = (1 : Int32)))).2 (by decide) (by decide) ?_
          show Steps p.tables e below (T152.setTop (mkF m 163 #[.val (.int p1), .val (.int p2), .val (.int p3), .val (.int p4), .val (.int p5), .val (.int p6), .val (.int c131), .val (.int c134), .val (.int c137), .val (.int (0 : Int32)), .val (.ref b140), .val (.int (2 : Int32)), .unset, .unset, .unset, .unset, .unset, .unset] [])) _
          exact h)
      obtain ⟨T165, X165, e165, st165⟩ := getS2 X152 hx hZ152 hown152 (host := "") (Or.inl (hw _ (List.mem_of_getElem? (i := 81) rfl))) Via.refl rfl (SA.ext O155.2) (g := (mkF m 163 #[.val (.int p1), .val (.int p2), .val (.int p3), .val (.int p4), .val (.int p5), .val (.int p6), .val (.int c131), .val (.int c134), .val (.int c137), .val (.int (0 : Int32)), .val (.ref b140), .val (.int (2 : Int32)), .unset, .unset, .unset, .unset, .unset, .unset] [])) rfl (hb hby at_163)
      have k167 : Rch p e below S0 T165 (mkF m 166 #[.val (.int p1), .val (.int p2), .val (.int p3), .val (.int p4), .val (.int p5), .val (.int p6), .val (.int c131), .val (.int c134), .val (.int c137), .val (.int (0 : Int32)), .val (.ref b140), .val (.int (2 : Int32)), .unset, .unset, .unset, .unset, .unset, .unset] [(.ref wA)]) := fun t h => k166 t (st165 t h)
      have k168 : Rch p e below S0 T165 (mkF m 168 #[.val (.int p1), .val (.int p2), .val (.int p3), .val (.int p4), .val (.int p5), .val (.int p6), .val (.int c131), .val (.int c134), .val (.int c137), .val (.int (0 : Int32)), .val (.ref b140), .val (.int (2 : Int32)), .val (.ref wA), .unset, .unset, .unset, .unset, .unset] []) := fun t h => k167 t (by
          show Steps p.tables e below (T165.setTop (mkF m 166 #[.val (.int p1), .val (.int p2), .val (.int p3), .val (.int p4), .val (.int p5), .val (.int p6), .val (.int c131), .val (.int c134), .val (.int c137), .val (.int (0 : Int32)), .val (.ref b140), .val (.int (2 : Int32)), .unset, .unset, .unset, .unset, .unset, .unset] [(.ref wA)])) _
          refine XS.astore X165.here hx rfl (hb hby at_166) rfl rfl (l' := #[.val (.int p1), .val (.int p2), .val (.int p3), .val (.int p4), .val (.int p5), .val (.int p6), .val (.int c131), .val (.int c134), .val (.int c137), .val (.int (0 : Int32)), .val (.ref b140), .val (.int (2 : Int32)), .val (.ref wA), .unset, .unset, .unset, .unset, .unset]) rfl ?_
          show Steps p.tables e below (T165.setTop (mkF m 168 #[.val (.int p1), .val (.int p2), .val (.int p3), .val (.int p4), .val (.int p5), .val (.int p6), .val (.int c131), .val (.int c134), .val (.int c137), .val (.int (0 : Int32)), .val (.ref b140), .val (.int (2 : Int32)), .val (.ref wA), .unset, .unset, .unset, .unset, .unset] [])) _
          exact h)
      exact ⟨_, (2 : Int32), wA, X165, e165, k168⟩
  replace X169 := X169.out
  have k170 : Rch p e below S0 T169 (mkF m 178 #[.val (.int p1), .val (.int p2), .val (.int p3), .val (.int p4), .val (.int p5), .val (.int p6), .val (.int c131), .val (.int c134), .val (.int c137), .val (.int (0 : Int32)), .val (.ref b140), .val (.int kk), .val (.ref wK), .unset, .unset, .unset, .unset, .unset] [(.int (((p6.toUInt32 >>> ((18 : Int32) &&& 31).toUInt32).toInt32) &&& (255 : Int32)))]) := fun t h => k169 t (by
      show Steps p.tables e below (T169.setTop (mkF m 168 #[.val (.int p1), .val (.int p2), .val (.int p3), .val (.int p4), .val (.int p5), .val (.int p6), .val (.int c131), .val (.int c134), .val (.int c137), .val (.int (0 : Int32)), .val (.ref b140), .val (.int kk), .val (.ref wK), .unset, .unset, .unset, .unset, .unset] [])) _
      refine XS.iload X169.here hx rfl (hb hby at_168) rfl ?_
      show Steps p.tables e below (T169.setTop (mkF m 170 #[.val (.int p1), .val (.int p2), .val (.int p3), .val (.int p4), .val (.int p5), .val (.int p6), .val (.int c131), .val (.int c134), .val (.int c137), .val (.int (0 : Int32)), .val (.ref b140), .val (.int kk), .val (.ref wK), .unset, .unset, .unset, .unset, .unset] [(.int p6)])) _
      refine XS.bipush X169.here hx rfl (hb hby at_170) ?_
      show Steps p.tables e below (T169.setTop (mkF m 172 #[.val (.int p1), .val (.int p2), .val (.int p3), .val (.int p4), .val (.int p5), .val (.int p6), .val (.int c131), .val (.int c134), .val (.int c137), .val (.int (0 : Int32)), .val (.ref b140), .val (.int kk), .val (.ref wK), .unset, .unset, .unset, .unset, .unset] [(.int (18 : Int32)), (.int p6)])) _
      refine XS.iushr X169.here hx rfl (hb hby at_172) rfl ?_
      show Steps p.tables e below (T169.setTop (mkF m 173 #[.val (.int p1), .val (.int p2), .val (.int p3), .val (.int p4), .val (.int p5), .val (.int p6), .val (.int c131), .val (.int c134), .val (.int c137), .val (.int (0 : Int32)), .val (.ref b140), .val (.int kk), .val (.ref wK), .unset, .unset, .unset, .unset, .unset] [(.int ((p6.toUInt32 >>> ((18 : Int32) &&& 31).toUInt32).toInt32))])) _
      refine XS.sipush X169.here hx rfl (hb hby at_173) ?_
      show Steps p.tables e below (T169.setTop (mkF m 176 #[.val (.int p1), .val (.int p2), .val (.int p3), .val (.int p4), .val (.int p5), .val (.int p6), .val (.int c131), .val (.int c134), .val (.int c137), .val (.int (0 : Int32)), .val (.ref b140), .val (.int kk), .val (.ref wK), .unset, .unset, .unset, .unset, .unset] [(.int (255 : Int32)), (.int ((p6.toUInt32 >>> ((18 : Int32) &&& 31).toUInt32).toInt32))])) _
      refine XS.iand X169.here hx rfl (hb hby at_176) rfl ?_
      show Steps p.tables e below (T169.setTop (mkF m 177 #[.val (.int p1), .val (.int p2), .val (.int p3), .val (.int p4), .val (.int p5), .val (.int p6), .val (.int c131), .val (.int c134), .val (.int c137), .val (.int (0 : Int32)), .val (.ref b140), .val (.int kk), .val (.ref wK), .unset, .unset, .unset, .unset, .unset] [(.int (((p6.toUInt32 >>> ((18 : Int32) &&& 31).toUInt32).toInt32) &&& (255 : Int32)))])) _
      refine XS.i2c X169.here hx rfl (hb hby at_177) rfl ?_
      rw [(own_nar (((p6.toUInt32 >>> ((18 : Int32) &&& 31).toUInt32).toInt32) &&& (255 : Int32)) (own_255 ((p6.toUInt32 >>> ((18 : Int32) &&& 31).toUInt32).toInt32))).2]
      show Steps p.tables e below (T169.setTop (mkF m 178 #[.val (.int p1), .val (.int p2), .val (.int p3), .val (.int p4), .val (.int p5), .val (.int p6), .val (.int c131), .val (.int c134), .val (.int c137), .val (.int (0 : Int32)), .val (.ref b140), .val (.int kk), .val (.ref wK), .unset, .unset, .unset, .unset, .unset] [(.int (((p6.toUInt32 >>> ((18 : Int32) &&& 31).toUInt32).toInt32) &&& (255 : Int32)))])) _
      exact h)
  obtain ⟨_, _, ⟨T171, L171, kk171, n171⟩, -, X171, ⟨Lc171, hQ171, l171, y171, z171⟩, st171⟩ := Jvm.LawKit.callS X169 hx (y := (⟨"java/lang/String", "valueOf", "(C)Ljava/lang/String;"⟩ : MethodName)) hown152 (mvT hZ152 (hw _ (List.mem_of_getElem? (i := 30) rfl))) (mvT hZ152 (hw _ (List.mem_of_getElem? (i := 31) rfl))) (mvT hZ152 (hw _ (List.mem_of_getElem? (i := 6) rfl))) (mvT hZ152 (hw _ (List.mem_of_getElem? (i := 32) rfl))) (by decide) (backOf (W := 0) (rmVO l Z a0 hw [] (((p6.toUInt32 >>> ((18 : Int32) &&& 31).toUInt32).toInt32) &&& (255 : Int32)) zC T152.heap n0 O155 SC hzC (own_255 ((p6.toUInt32 >>> ((18 : Int32) &&& 31).toUInt32).toInt32)).2) hZ152 (hw _ (List.mem_of_getElem? (i := 32) rfl)) (hw _ (List.mem_of_getElem? (i := 6) rfl)) (by decide) (by decide)) (g := (mkF m 178 #[.val (.int p1), .val (.int p2), .val (.int p3), .val (.int p4), .val (.int p5), .val (.int p6), .val (.int c131), .val (.int c134), .val (.int c137), .val (.int (0 : Int32)), .val (.ref b140), .val (.int kk), .val (.ref wK), .unset, .unset, .unset, .unset, .unset] [(.int (((p6.toUInt32 >>> ((18 : Int32) &&& 31).toUInt32).toInt32) &&& (255 : Int32)))])) rfl (by rw [hml]; rfl) (argsL := [(.int (((p6.toUInt32 >>> ((18 : Int32) &&& 31).toUInt32).toInt32) &&& (255 : Int32)))]) (rest := []) (lenOf pd_4 rfl) rfl (by show 2 * 0 + _ ≤ _; exact Nat.le_of_eq rfl) (hb hby at_178) (fun _ _ => ⟨rfl, e169, (by decide : 6 + 2 ≤ _), (by decide : 12 + 5 ≤ _)⟩)
  dsimp only [Pt.U, Pt.locs, Pt.cells, Pt.slots] at X171 l171 y171 z171 st171 hQ171
  subst l171 y171 z171
  obtain ⟨b171, rfl, Nq171, E171, z171, X171E⟩ := hQ171
  have N171 := Fr.app N152 Nq171
  have k172 : Rch p e below S0 T171 (mkF m 181 #[.val (.int p1), .val (.int p2), .val (.int p3), .val (.int p4), .val (.int p5), .val (.int p6), .val (.int c131), .val (.int c134), .val (.int c137), .val (.int (0 : Int32)), .val (.ref b140), .val (.int kk), .val (.ref wK), .unset, .unset, .unset, .unset, .unset] [(.ref b171)]) := fun t h => k170 t (st171 t h)
  replace sf_b140 := Safe.ext E171 hC154 sf_b140
  replace sf_b146 := Safe.ext E171 hC154 sf_b146
  have hC173 := hC154.ext E171
  have rC173 := rC154.trans (CHr.ext E171 hC154)
  have O174 := O155.ext E171
  replace E_b140 := E_b140.ext E171
  replace Fv152 := Fv152.ext E171
  replace Fc152 := Fc152.ext E171
  replace V_b146 := V_b146.ext E171
  replace At152 := At152.ext E171
  have hkk175 := Nat.le_trans hk152 E171.1
  have k176 : Rch p e below S0 T171 (mkF m 185 #[.val (.int p1), .val (.int p2), .val (.int p3), .val (.int p4), .val (.int p5), .val (.int p6), .val (.int c131), .val (.int c134), .val (.int c137), .val (.int (0 : Int32)), .val (.ref b140), .val (.int kk), .val (.ref wK), .val (.ref b171), .unset, .unset, .unset, .unset] [(.int p6)]) := fun t h => k172 t (by
      show Steps p.tables e below (T171.setTop (mkF m 181 #[.val (.int p1), .val (.int p2), .val (.int p3), .val (.int p4), .val (.int p5), .val (.int p6), .val (.int c131), .val (.int c134), .val (.int c137), .val (.int (0 : Int32)), .val (.ref b140), .val (.int kk), .val (.ref wK), .unset, .unset, .unset, .unset, .unset] [(.ref b171)])) _
      refine XS.astore X171.here hx rfl (hb hby at_181) rfl rfl (l' := #[.val (.int p1), .val (.int p2), .val (.int p3), .val (.int p4), .val (.int p5), .val (.int p6), .val (.int c131), .val (.int c134), .val (.int c137), .val (.int (0 : Int32)), .val (.ref b140), .val (.int kk), .val (.ref wK), .val (.ref b171), .unset, .unset, .unset, .unset]) rfl ?_
      show Steps p.tables e below (T171.setTop (mkF m 183 #[.val (.int p1), .val (.int p2), .val (.int p3), .val (.int p4), .val (.int p5), .val (.int p6), .val (.int c131), .val (.int c134), .val (.int c137), .val (.int (0 : Int32)), .val (.ref b140), .val (.int kk), .val (.ref wK), .val (.ref b171), .unset, .unset, .unset, .unset] [])) _
      refine XS.iload X171.here hx rfl (hb hby at_183) rfl ?_
      show Steps p.tables e below (T171.setTop (mkF m 185 #[.val (.int p1), .val (.int p2), .val (.int p3), .val (.int p4), .val (.int p5), .val (.int p6), .val (.int c131), .val (.int c134), .val (.int c137), .val (.int (0 : Int32)), .val (.ref b140), .val (.int kk), .val (.ref wK), .val (.ref b171), .unset, .unset, .unset, .unset] [(.int p6)])) _
      exact h)
  obtain ⟨_, _, ⟨T177, L177, kk177, n177⟩, -, X177, ⟨Lc177, hQ177, l177, y177, z177⟩, st177⟩ := Jvm.LawKit.callS X171 hx (y := (⟨"com/example/suretygate/suretygate/rolemodel/CabinetFunctionIsSigningPinLaw", "pick", "(I)C"⟩ : MethodName)) hown152 (mvT hZ152 (hw _ (List.mem_of_getElem? (i := 0) rfl))) (mvT hZ152 (hw _ (List.mem_of_getElem? (i := 1) rfl))) (mvT hZ152 (hw _ (List.mem_of_getElem? (i := 2) rfl))) (mvT hZ152 (hw _ (List.mem_of_getElem? (i := 3) rfl))) (by decide) (backOf (W := 0) (rmP l Z a0 hw [] p6  T171.heap n0 O174 ) hZ152 (hw _ (List.mem_of_getElem? (i := 3) rfl)) (hw _ (List.mem_of_getElem? (i := 2) rfl)) (by decide) (by decide)) (g := (mkF m 185 #[.val (.int p1), .val (.int p2), .val (.int p3), .val (.int p4), .val (.int p5), .val (.int p6), .val (.int c131), .val (.int c134), .val (.int c137), .val (.int (0 : Int32)), .val (.ref b140), .val (.int kk), .val (.ref wK), .val (.ref b171), .unset, .unset, .unset, .unset] [(.int p6)])) rfl (by rw [hml]; rfl) (argsL := [(.int p6)]) (rest := []) (lenOf pd_0 rfl) rfl (by show 2 * 0 + _ ≤ _; exact Nat.le_of_eq rfl) (hb hby at_185) (fun _ _ => ⟨rfl, rfl, (by decide : 8 + 0 ≤ _), (by decide : 17 + 0 ≤ _)⟩)
  dsimp only [Pt.U, Pt.locs, Pt.cells, Pt.slots] at X177 l177 y177 z177 st177 hQ177
  subst l177 y177 z177
  obtain ⟨c177, rfl, Nq177, hh177, hc177⟩ := hQ177
  have N177 := Fr.app N171 Nq177
  have k178 : Rch p e below S0 T177 (mkF m 188 #[.val (.int p1), .val (.int p2), .val (.int p3), .val (.int p4), .val (.int p5), .val (.int p6), .val (.int c131), .val (.int c134), .val (.int c137), .val (.int (0 : Int32)), .val (.ref b140), .val (.int kk), .val (.ref wK), .val (.ref b171), .unset, .unset, .unset, .unset] [(.int c177)]) := fun t h => k176 t (st177 t h)
  obtain ⟨_, _, ⟨T179, L179, kk179, n179⟩, -, X179, ⟨Lc179, hQ179, l179, y179, z179⟩, st179⟩ := Jvm.LawKit.callS X177 hx (y := (⟨"java/lang/String", "valueOf", "(C)Ljava/lang/String;"⟩ : MethodName)) hown152 (mvT hZ152 (hw _ (List.mem_of_getElem? (i := 30) rfl))) (mvT hZ152 (hw _ (List.mem_of_getElem? (i := 31) rfl))) (mvT hZ152 (hw _ (List.mem_of_getElem? (i := 6) rfl))) (mvT hZ152 (hw _ (List.mem_of_getElem? (i := 32) rfl))) (by decide) (backOf (W := 0) (rmVO l Z a0 hw [] c177 zC T171.heap n0 O174 SC hzC hc177.2) hZ152 (hw _ (List.mem_of_getElem? (i := 32) rfl)) (hw _ (List.mem_of_getElem? (i := 6) rfl)) (by decide) (by decide)) (g := (mkF m 188 #[.val (.int p1), .val (.int p2), .val (.int p3), .val (.int p4), .val (.int p5), .val (.int p6), .val (.int c131), .val (.int c134), .val (.int c137), .val (.int (0 : Int32)), .val (.ref b140), .val (.int kk), .val (.ref wK), .val (.ref b171), .unset, .unset, .unset, .unset] [(.int c177)])) rfl (by rw [hml]; rfl) (argsL := [(.int c177)]) (rest := []) (lenOf pd_4 rfl) rfl (by show 2 * 0 + _ ≤ _; exact Nat.le_of_eq rfl) (hb hby at_188) (fun _ _ => ⟨rfl, hh177, (by decide : 8 + 2 ≤ _), (by decide : 17 + 5 ≤ _)⟩)
  dsimp only [Pt.U, Pt.locs, Pt.cells, Pt.slots] at X179 l179 y179 z179 st179 hQ179
  subst l179 y179 z179
  obtain ⟨b179, rfl, Nq179, E179, z179, X179E⟩ := hQ179
  have N179 := Fr.app N177 Nq179
  have k180 : Rch p e below S0 T179 (mkF m 191 #[.val (.int p1), .val (.int p2), .val (.int p3), .val (.int p4), .val (.int p5), .val (.int p6), .val (.int c131), .val (.int c134), .val (.int c137), .val (.int (0 : Int32)), .val (.ref b140), .val (.int kk), .val (.ref wK), .val (.ref b171), .unset, .unset, .unset, .unset] [(.ref b179)]) := fun t h => k178 t (st179 t h)
  replace sf_b140 := Safe.ext E179 hC173 sf_b140
  replace sf_b146 := Safe.ext E179 hC173 sf_b146
  have hC181 := hC173.ext E179
  have rC181 := rC173.trans (CHr.ext E179 hC173)
  have O182 := O174.ext E179
  replace E_b140 := E_b140.ext E179
  replace Fv152 := Fv152.ext E179
  replace Fc152 := Fc152.ext E179
  replace V_b146 := V_b146.ext E179
  replace At152 := At152.ext E179
  replace X171E := X171E.ext E179
  have hkk183 := Nat.le_trans hkk175 E179.1
  have k184 : Rch p e below S0 T179 (mkF m 198 #[.val (.int p1), .val (.int p2), .val (.int p3), .val (.int p4), .val (.int p5), .val (.int p6), .val (.int c131), .val (.int c134), .val (.int c137), .val (.int (0 : Int32)), .val (.ref b140), .val (.int kk), .val (.ref wK), .val (.ref b171), .val (.ref b179), .unset, .unset, .unset] [(.int ((p6.toUInt32 >>> ((9 : Int32) &&& 31).toUInt32).toInt32))]) := fun t h => k180 t (by
      show Steps p.tables e below (T179.setTop (mkF m 191 #[.val (.int p1), .val (.int p2), .val (.int p3), .val (.int p4), .val (.int p5), .val (.int p6), .val (.int c131), .val (.int c134), .val (.int c137), .val (.int (0 : Int32)), .val (.ref b140), .val (.int kk), .val (.ref wK), .val (.ref b171), .unset, .unset, .unset, .unset] [(.ref b179)])) _
      refine XS.astore X179.here hx rfl (hb hby at_191) rfl rfl (l' := #[.val (.int p1), .val (.int p2), .val (.int p3), .val (.int p4), .val (.int p5), .val (.int p6), .val (.int c131), .val (.int c134), .val (.int c137), .val (.int (0 : Int32)), .val (.ref b140), .val (.int kk), .val (.ref wK), .val (.ref b171), .val (.ref b179), .unset, .unset, .unset]) rfl ?_
      show Steps p.tables e below (T179.setTop (mkF m 193 #[.val (.int p1), .val (.int p2), .val (.int p3), .val (.int p4), .val (.int p5), .val (.int p6), .val (.int c131), .val (.int c134), .val (.int c137), .val (.int (0 : Int32)), .val (.ref b140), .val (.int kk), .val (.ref wK), .val (.ref b171), .val (.ref b179), .unset, .unset, .unset] [])) _
      refine XS.iload X179.here hx rfl (hb hby at_193) rfl ?_
      show Steps p.tables e below (T179.setTop (mkF m 195 #[.val (.int p1), .val (.int p2), .val (.int p3), .val (.int p4), .val (.int p5), .val (.int p6), .val (.int c131), .val (.int c134), .val (.int c137), .val (.int (0 : Int32)), .val (.ref b140), .val (.int kk), .val (.ref wK), .val (.ref b171), .val (.ref b179), .unset, .unset, .unset] [(.int p6)])) _
      refine XS.bipush X179.here hx rfl (hb hby at_195) ?_
      show Steps p.tables e below (T179.setTop (mkF m 197 #[.val (.int p1), .val (.int p2), .val (.int p3), .val (.int p4), .val (.int p5), .val (.int p6), .val (.int c131), .val (.int c134), .val (.int c137), .val (.int (0 : Int32)), .val (.ref b140), .val (.int kk), .val (.ref wK), .val (.ref b171), .val (.ref b179), .unset, .unset, .unset] [(.int (9 : Int32)), (.int p6)])) _
      refine XS.iushr X179.here hx rfl (hb hby at_197) rfl ?_
      show Steps p.tables e below (T179.setTop (mkF m 198 #[.val (.int p1), .val (.int p2), .val (.int p3), .val (.int p4), .val (.int p5), .val (.int p6), .val (.int c131), .val (.int c134), .val (.int c137), .val (.int (0 : Int32)), .val (.ref b140), .val (.int kk), .val (.ref wK), .val (.ref b171), .val (.ref b179), .unset, .unset, .unset] [(.int ((p6.toUInt32 >>> ((9 : Int32) &&& 31).toUInt32).toInt32))])) _
      exact h)
  obtain ⟨_, _, ⟨T185, L185, kk185, n185⟩, -, X185, ⟨Lc185, hQ185, l185, y185, z185⟩, st185⟩ := Jvm.LawKit.callS X179 hx (y := (⟨"com/example/suretygate/suretygate/rolemodel/CabinetFunctionIsSigningPinLaw", "pick", "(I)C"⟩ : MethodName)) hown152 (mvT hZ152 (hw _ (List.mem_of_getElem? (i := 0) rfl))) (mvT hZ152 (hw _ (List.mem_of_getElem? (i := 1) rfl))) (mvT hZ152 (hw _ (List.mem_of_getElem? (i := 2) rfl))) (mvT hZ152 (hw _ (List.mem_of_getElem? (i := 3) rfl))) (by decide) (backOf (W := 0) (rmP l Z a0 hw [] ((p6.toUInt32 >>> ((9 : Int32) &&& 31).toUInt32).toInt32)  T179.heap n0 O182 ) hZ152 (hw _ (List.mem_of_getElem? (i := 3) rfl)) (hw _ (List.mem_of_getElem? (i := 2) rfl)) (by decide) (by decide)) (g := (mkF m 198 #[.val (.int p1), .val (.int p2), .val (.int p3), .val (.int p4), .val (.int p5), .val (.int p6), .val (.int c131), .val (.int c134), .val (.int c137), .val (.int (0 : Int32)), .val (.ref b140), .val (.int kk), .val (.ref wK), .val (.ref b171), .val (.ref b179), .unset, .unset, .unset] [(.int ((p6.toUInt32 >>> ((9 : Int32) &&& 31).toUInt32).toInt32))])) rfl (by rw [hml]; rfl) (argsL := [(.int ((p6.toUInt32 >>> ((9 : Int32) &&& 31).toUInt32).toInt32))]) (rest := []) (lenOf pd_0 rfl) rfl (by show 2 * 0 + _ ≤ _; exact Nat.le_of_eq rfl) (hb hby at_198) (fun _ _ => ⟨rfl, rfl, (by decide : 10 + 0 ≤ _), (by decide : 22 + 0 ≤ _)⟩)
  dsimp only [Pt.U, Pt.locs, Pt.cells, Pt.slots] at X185 l185 y185 z185 st185 hQ185
  subst l185 y185 z185
  obtain ⟨c185, rfl, Nq185, hh185, hc185⟩ := hQ185
  have N185 := Fr.app N179 Nq185
  have k186 : Rch p e below S0 T185 (mkF m 201 #[.val (.int p1), .val (.int p2), .val (.int p3), .val (.int p4), .val (.int p5), .val (.int p6), .val (.int c131), .val (.int c134), .val (.int c137), .val (.int (0 : Int32)), .val (.ref b140), .val (.int kk), .val (.ref wK), .val (.ref b171), .val (.ref b179), .unset, .unset, .unset] [(.int c185)]) := fun t h => k184 t (st185 t h)
  obtain ⟨_, _, ⟨T187, L187, kk187, n187⟩, -, X187, ⟨Lc187, hQ187, l187, y187, z187⟩, st187⟩ := Jvm.LawKit.callS X185 hx (y := (⟨"java/lang/String", "valueOf", "(C)Ljava/lang/String;"⟩ : MethodName)) hown152 (mvT hZ152 (hw _ (List.mem_of_getElem? (i := 30) rfl))) (mvT hZ152 (hw _ (List.mem_of_getElem? (i := 31) rfl))) (mvT hZ152 (hw _ (List.mem_of_getElem? (i := 6) rfl))) (mvT hZ152 (hw _ (List.mem_of_getElem? (i := 32) rfl))) (by decide) (backOf (W := 0) (rmVO l Z a0 hw [] c185 zC T179.heap n0 O182 SC hzC hc185.2) hZ152 (hw _ (List.mem_of_getElem? (i := 32) rfl)) (hw _ (List.mem_of_getElem? (i := 6) rfl)) (by decide) (by decide)) (g := (mkF m 201 #[.val (.int p1), .val (.int p2), .val (.int p3), .val (.int p4), .val (.int p5), .val (.int p6), .val (.int c131), .val (.int c134), .val (.int c137), .val (.int (0 : Int32)), .val (.ref b140), .val (.int kk), .val (.ref wK), .val (.ref b171), .val (.ref b179), .unset, .unset, .unset] [(.int c185)])) rfl (by rw [hml]; rfl) (argsL := [(.int c185)]) (rest := []) (lenOf pd_4 rfl) rfl (by show 2 * 0 + _ ≤ _; exact Nat.le_of_eq rfl) (hb hby at_201) (fun _ _ => ⟨rfl, hh185, (by decide : 10 + 2 ≤ _), (by decide : 22 + 5 ≤ _)⟩)
  dsimp only [Pt.U, Pt.locs, Pt.cells, Pt.slots] at X187 l187 y187 z187 st187 hQ187
  subst l187 y187 z187
  obtain ⟨b187, rfl, Nq187, E187, z187, X187E⟩ := hQ187
  have N187 := Fr.app N185 Nq187
  have k188 : Rch p e below S0 T187 (mkF m 204 #[.val (.int p1), .val (.int p2), .val (.int p3), .val (.int p4), .val (.int p5), .val (.int p6), .val (.int c131), .val (.int c134), .val (.int c137), .val (.int (0 : Int32)), .val (.ref b140), .val (.int kk), .val (.ref wK), .val (.ref b171), .val (.ref b179), .unset, .unset, .unset] [(.ref b187)]) := fun t h => k186 t (st187 t h)
  replace sf_b140 := Safe.ext E187 hC181 sf_b140
  replace sf_b146 := Safe.ext E187 hC181 sf_b146
  have hC189 := hC181.ext E187
  have rC189 := rC181.trans (CHr.ext E187 hC181)
  have O190 := O182.ext E187
  replace E_b140 := E_b140.ext E187
  replace Fv152 := Fv152.ext E187
  replace Fc152 := Fc152.ext E187
  replace V_b146 := V_b146.ext E187
  replace At152 := At152.ext E187
  replace X171E := X171E.ext E187
  replace X179E := X179E.ext E187
  have hkk191 := Nat.le_trans hkk183 E187.1
  have k193 : Rch p e below S0 T187 (mkF m 206 #[.val (.int p1), .val (.int p2), .val (.int p3), .val (.int p4), .val (.int p5), .val (.int p6), .val (.int c131), .val (.int c134), .val (.int c137), .val (.int (0 : Int32)), .val (.ref b140), .val (.int kk), .val (.ref wK), .val (.ref b171), .val (.ref b179), .val (.ref b187), .unset, .unset] []) := fun t h => k188 t (by
      show Steps p.tables e below (T187.setTop (mkF m 204 #[.val (.int p1), .val (.int p2), .val (.int p3), .val (.int p4), .val (.int p5), .val (.int p6), .val (.int c131), .val (.int c134), .val (.int c137), .val (.int (0 : Int32)), .val (.ref b140), .val (.int kk), .val (.ref wK), .val (.ref b171), .val (.ref b179), .unset, .unset, .unset] [(.ref b187)])) _
      refine XS.astore X187.here hx rfl (hb hby at_204) rfl rfl (l' := #[.val (.int p1), .val (.int p2), .val (.int p3), .val (.int p4), .val (.int p5), .val (.int p6), .val (.int c131), .val (.int c134), .val (.int c137), .val (.int (0 : Int32)), .val (.ref b140), .val (.int kk), .val (.ref wK), .val (.ref b171), .val (.ref b179), .val (.ref b187), .unset, .unset]) rfl ?_
      show Steps p.tables e below (T187.setTop (mkF m 206 #[.val (.int p1), .val (.int p2), .val (.int p3), .val (.int p4), .val (.int p5), .val (.int p6), .val (.int c131), .val (.int c134), .val (.int c137), .val (.int (0 : Int32)), .val (.ref b140), .val (.int kk), .val (.ref wK), .val (.ref b171), .val (.ref b179), .val (.ref b187), .unset, .unset] [])) _
      exact h)
  obtain ⟨T192, h192, X192, e192, E192, A192, D192, -, st192⟩ := newO X187 hx hZ152 hown152 (hw _ (List.mem_of_getElem? (i := 45) rfl)) (hw _ (List.mem_of_getElem? (i := 46) rfl)) (hw _ (List.mem_of_getElem? (i := 47) rfl)) rfl (g := (mkF m 206 #[.val (.int p1), .val (.int p2), .val (.int p3), .val (.int p4), .val (.int p5), .val (.int p6), .val (.int c131), .val (.int c134), .val (.int c137), .val (.int (0 : Int32)), .val (.ref b140), .val (.int kk), .val (.ref wK), .val (.ref b171), .val (.ref b179), .val (.ref b187), .unset, .unset] [])) rfl (hb hby at_206) (by decide) (by decide)
  obtain ⟨b192, g192⟩ : ∃ z, z = T187.heap.size := ⟨_, rfl⟩
  rw [← g192] at A192 D192 st192
  have k194 : Rch p e below S0 T192 (mkF m 209 #[.val (.int p1), .val (.int p2), .val (.int p3), .val (.int p4), .val (.int p5), .val (.int p6), .val (.int c131), .val (.int c134), .val (.int c137), .val (.int (0 : Int32)), .val (.ref b140), .val (.int kk), .val (.ref wK), .val (.ref b171), .val (.ref b179), .val (.ref b187), .unset, .unset] [(.ref b192)]) := fun t h => k193 t (st192 t h)
  have ne_b140_b192 : b140 ≠ b192 := own_ne E_b140.lt (Nat.le_of_eq g192.symm)
  have ne_b146_b192 : b146 ≠ b192 := own_ne V_b146.lt (Nat.le_of_eq g192.symm)
  have ne_t152_b192 : t152 ≠ b192 := own_ne At152.lt (Nat.le_of_eq g192.symm)
  have ne_b171_b192 : b171 ≠ b192 := own_ne X171E.lt (Nat.le_of_eq g192.symm)
  have ne_b179_b192 : b179 ≠ b192 := own_ne X179E.lt (Nat.le_of_eq g192.symm)
  have ne_b187_b192 : b187 ≠ b192 := own_ne X187E.lt (Nat.le_of_eq g192.symm)
  have ge_b192 : n0 ≤ b192 := own_ge O190 (Nat.le_of_eq g192.symm)
  have sf_b192 : Safe Z consts_1 T152.vm T187.heap b192 := Safe.new (Nat.le_of_eq g192.symm)
  replace sf_b140 := Safe.ext E192 hC189 sf_b140
  replace sf_b146 := Safe.ext E192 hC189 sf_b146
  replace sf_b192 := Safe.ext E192 hC189 sf_b192
  have hC195 := hC189.ext E192
  have rC195 := rC189.trans (CHr.ext E192 hC189)
  have O196 := O190.ext E192
  replace E_b140 := E_b140.ext E192
  replace Fv152 := Fv152.ext E192
  replace Fc152 := Fc152.ext E192
  replace V_b146 := V_b146.ext E192
  replace At152 := At152.ext E192
  replace X171E := X171E.ext E192
  replace X179E := X179E.ext E192
  replace X187E := X187E.ext E192
  have hkk197 := Nat.le_trans hkk191 E192.1
  have E_b192 := A192
  have F_b192_name : Fld Z h192 b192 "com/example/suretygate/suretygate/rolemodel/CabinetFunction" "name" "Ljava/lang/String;" .null := D192 (Or.inr (hw _ (List.mem_of_getElem? (i := 58) rfl))) (ty := (.object "java/lang/String")) (by decide)
  have F_b192_kind : Fld Z h192 b192 "com/example/suretygate/suretygate/rolemodel/CabinetFunction" "kind" "Lcom/example/suretygate/suretygate/rolemodel/CabinetFunction$Kind;" .null := D192 (Or.inr (hw _ (List.mem_of_getElem? (i := 60) rfl))) (ty := (.object "com/example/suretygate/suretygate/rolemodel/CabinetFunction$Kind")) (by decide)
  have F_b192_label : Fld Z h192 b192 "com/example/suretygate/suretygate/rolemodel/CabinetFunction" "label" "Ljava/lang/String;" .null := D192 (Or.inr (hw _ (List.mem_of_getElem? (i := 62) rfl))) (ty := (.object "java/lang/String")) (by decide)
  have F_b192_path : Fld Z h192 b192 "com/example/suretygate/suretygate/rolemodel/CabinetFunction" "path" "Ljava/lang/String;" .null := D192 (Or.inr (hw _ (List.mem_of_getElem? (i := 64) rfl))) (ty := (.object "java/lang/String")) (by decide)
  have F_b192_signs : Fld Z h192 b192 "com/example/suretygate/suretygate/rolemodel/CabinetFunction" "signs" "Ljava/lang/String;" .null := D192 (Or.inr (hw _ (List.mem_of_getElem? (i := 66) rfl))) (ty := (.object "java/lang/String")) (by decide)
  have k198 : Rch p e below S0 T192 (mkF m 220 #[.val (.int p1), .val (.int p2), .val (.int p3), .val (.int p4), .val (.int p5), .val (.int p6), .val (.int c131), .val (.int c134), .val (.int c137), .val (.int (0 : Int32)), .val (.ref b140), .val (.int kk), .val (.ref wK), .val (.ref b171), .val (.ref b179), .val (.ref b187), .unset, .unset] [(.ref b140), (.ref b187), (.ref b179), (.ref wK), (.ref b171), (.ref b192), (.ref b192)]) := fun t h => k194 t (by
      show Steps p.tables e below (T192.setTop (mkF m 209 #[.val (.int p1), .val (.int p2), .val (.int p3), .val (.int p4), .val (.int p5), .val (.int p6), .val (.int c131), .val (.int c134), .val (.int c137), .val (.int (0 : Int32)), .val (.ref b140), .val (.int kk), .val (.ref wK), .val (.ref b171), .val (.ref b179), .val (.ref b187), .unset, .unset] [(.ref b192)])) _
      refine XS.dup X192.here hx rfl (hb hby at_209) rfl rfl ?_
      show Steps p.tables e below (T192.setTop (mkF m 210 #[.val (.int p1), .val (.int p2), .val (.int p3), .val (.int p4), .val (.int p5), .val (.int p6), .val (.int c131), .val (.int c134), .val (.int c137), .val (.int (0 : Int32)), .val (.ref b140), .val (.int kk), .val (.ref wK), .val (.ref b171), .val (.ref b179), .val (.ref b187), .unset, .unset] [(.ref b192), (.ref b192)])) _
      refine XS.aload X192.here hx rfl (hb hby at_210) rfl rfl ?_
      show Steps p.tables e below (T192.setTop (mkF m 212 #[.val (.int p1), .val (.int p2), .val (.int p3), .val (.int p4), .val (.int p5), .val (.int p6), .val (.int c131), .val (.int c134), .val (.int c137), .val (.int (0 : Int32)), .val (.ref b140), .val (.int kk), .val (.ref wK), .val (.ref b171), .val (.ref b179), .val (.ref b187), .unset, .unset] [(.ref b171), (.ref b192), (.ref b192)])) _
      refine XS.aload X192.here hx rfl (hb hby at_212) rfl rfl ?_
      show Steps p.tables e below (T192.setTop (mkF m 214 #[.val (.int p1), .val (.int p2), .val (.int p3), .val (.int p4), .val (.int p5), .val (.int p6), .val (.int c131), .val (.int c134), .val (.int c137), .val (.int (0 : Int32)), .val (.ref b140), .val (.int kk), .val (.ref wK), .val (.ref b171), .val (.ref b179), .val (.ref b187), .unset, .unset] [(.ref wK), (.ref b171), (.ref b192), (.ref b192)])) _
      refine XS.aload X192.here hx rfl (hb hby at_214) rfl rfl ?_
      show Steps p.tables e below (T192.setTop (mkF m 216 #[.val (.int p1), .val (.int p2), .val (.int p3), .val (.int p4), .val (.int p5), .val (.int p6), .val (.int c131), .val (.int c134), .val (.int c137), .val (.int (0 : Int32)), .val (.ref b140), .val (.int kk), .val (.ref wK), .val (.ref b171), .val (.ref b179), .val (.ref b187), .unset, .unset] [(.ref b179), (.ref wK), (.ref b171), (.ref b192), (.ref b192)])) _
      refine XS.aload X192.here hx rfl (hb hby at_216) rfl rfl ?_
      show Steps p.tables e below (T192.setTop (mkF m 218 #[.val (.int p1), .val (.int p2), .val (.int p3), .val (.int p4), .val (.int p5), .val (.int p6), .val (.int c131), .val (.int c134), .val (.int c137), .val (.int (0 : Int32)), .val (.ref b140), .val (.int kk), .val (.ref wK), .val (.ref b171), .val (.ref b179), .val (.ref b187), .unset, .unset] [(.ref b187), (.ref b179), (.ref wK), (.ref b171), (.ref b192), (.ref b192)])) _
      refine XS.aload X192.here hx rfl (hb hby at_218) rfl rfl ?_
      show Steps p.tables e below (T192.setTop (mkF m 220 #[.val (.int p1), .val (.int p2), .val (.int p3), .val (.int p4), .val (.int p5), .val (.int p6), .val (.int c131), .val (.int c134), .val (.int c137), .val (.int (0 : Int32)), .val (.ref b140), .val (.int kk), .val (.ref wK), .val (.ref b171), .val (.ref b179), .val (.ref b187), .unset, .unset] [(.ref b140), (.ref b187), (.ref b179), (.ref wK), (.ref b171), (.ref b192), (.ref b192)])) _
      exact h)
  obtain ⟨_, _, ⟨T199, L199, kk199, n199⟩, -, X199, ⟨Lc199, hQ199, l199, y199, z199⟩, st199⟩ := X192.specialBack hx (y := (⟨"com/example/suretygate/suretygate/rolemodel/CabinetFunction", "<init>", "(Ljava/lang/String;Lcom/example/suretygate/suretygate/rolemodel/CabinetFunction$Kind;Ljava/lang/String;Ljava/lang/String;Ljava/lang/String;)V"⟩ : MethodName)) rfl hown152 (mvT hZ152 (hw _ (List.mem_of_getElem? (i := 48) rfl))) (mvT hZ152 (hw _ (List.mem_of_getElem? (i := 49) rfl))) (mvT hZ152 (hw _ (List.mem_of_getElem? (i := 50) rfl))) (by decide) (backOf (W := 1) (rmN l Z a0 hw [] b192 b171 wK b179 b187 b140  h192 n0 O196 ge_b192 E_b192 F_b192_name F_b192_kind F_b192_label F_b192_path F_b192_signs) hZ152 (hw _ (List.mem_of_getElem? (i := 50) rfl)) (hw _ (List.mem_of_getElem? (i := 47) rfl)) (by decide) (by decide)) (g := (mkF m 220 #[.val (.int p1), .val (.int p2), .val (.int p3), .val (.int p4), .val (.int p5), .val (.int p6), .val (.int c131), .val (.int c134), .val (.int c137), .val (.int (0 : Int32)), .val (.ref b140), .val (.int kk), .val (.ref wK), .val (.ref b171), .val (.ref b179), .val (.ref b187), .unset, .unset] [(.ref b140), (.ref b187), (.ref b179), (.ref wK), (.ref b171), (.ref b192), (.ref b192)])) rfl (by rw [hml]; rfl) (Steps.refl _) (a := b192) (argsL := [(.ref b171), (.ref wK), (.ref b179), (.ref b187), (.ref b140)]) (rest := [(.ref b192)]) (lenOf pd_8 rfl) rfl (by show 2 * 0 + _ ≤ _; exact Nat.le_of_eq rfl) (hb hby at_220) (fun _ _ => ⟨rfl, e192, (by decide : 13 + 0 ≤ _), (by decide : 32 + 0 ≤ _)⟩)
  dsimp only [Pt.U, Pt.locs, Pt.cells, Pt.slots] at X199 l199 y199 z199 st199 hQ199
  subst l199 y199 z199
  obtain ⟨rfl, Nq199, K199, Fs199⟩ := hQ199
  have N199 := Fr.app N187 Nq199
  have k200 : Rch p e below S0 T199 (mkF m 223 #[.val (.int p1), .val (.int p2), .val (.int p3), .val (.int p4), .val (.int p5), .val (.int p6), .val (.int c131), .val (.int c134), .val (.int c137), .val (.int (0 : Int32)), .val (.ref b140), .val (.int kk), .val (.ref wK), .val (.ref b171), .val (.ref b179), .val (.ref b187), .unset, .unset] [(.ref b192)]) := fun t h => k198 t (st199.trans h)
  have hC201 := hC195.keep K199 (sfS sf_b192 sf0)
  have rC201 := rC195.trans (CHr.keep K199 (sfS sf_b192 sf0) hC195)
  have sfx202 := (sfS sf_b192 sf0)
  replace sf_b140 := Safe.keep K199 sfx202 hC195 sf_b140
  replace sf_b146 := Safe.keep K199 sfx202 hC195 sf_b146
  replace sf_b192 := Safe.keep K199 sfx202 hC195 sf_b192
  have O203 := O196.keep K199 (allS ge_b192 all0)
  replace E_b140 := E_b140.keep K199
  replace Fv152 := Fv152.keep K199 (ninS ne_b140_b192 nin0)
  replace Fc152 := Fc152.keep K199 (ninS ne_b140_b192 nin0)
  replace V_b146 := V_b146.keep K199 (ninS ne_b146_b192 nin0)
  replace At152 := At152.keep K199 (ninS ne_t152_b192 nin0)
  replace X171E := X171E.keep K199
  replace X179E := X179E.keep K199
  replace X187E := X187E.keep K199
  replace E_b192 := E_b192.keep K199
  have hkk204 := Nat.le_trans hkk197 K199.1
  have k205 : Rch p e below S0 T199 (mkF m 225 #[.val (.int p1), .val (.int p2), .val (.int p3), .val (.int p4), .val (.int p5), .val (.int p6), .val (.int c131), .val (.int c134), .val (.int c137), .val (.int (0 : Int32)), .val (.ref b140), .val (.int kk), .val (.ref wK), .val (.ref b171), .val (.ref b179), .val (.ref b187), .val (.ref b192), .unset] []) := fun t h => k200 t (by
      show Steps p.tables e below (T199.setTop (mkF m 223 #[.val (.int p1), .val (.int p2), .val (.int p3), .val (.int p4), .val (.int p5), .val (.int p6), .val (.int c131), .val (.int c134), .val (.int c137), .val (.int (0 : Int32)), .val (.ref b140), .val (.int kk), .val (.ref wK), .val (.ref b171), .val (.ref b179), .val (.ref b187), .unset, .unset] [(.ref b192)])) _
      refine XS.astore X199.here hx rfl (hb hby at_223) rfl rfl (l' := #[.val (.int p1), .val (.int p2), .val (.int p3), .val (.int p4), .val (.int p5), .val (.int p6), .val (.int c131), .val (.int c134), .val (.int c137), .val (.int (0 : Int32)), .val (.ref b140), .val (.int kk), .val (.ref wK), .val (.ref b171), .val (.ref b179), .val (.ref b187), .val (.ref b192), .unset]) rfl ?_
      show Steps p.tables e below (T199.setTop (mkF m 225 #[.val (.int p1), .val (.int p2), .val (.int p3), .val (.int p4), .val (.int p5), .val (.int p6), .val (.int c131), .val (.int c134), .val (.int c137), .val (.int (0 : Int32)), .val (.ref b140), .val (.int kk), .val (.ref wK), .val (.ref b171), .val (.ref b179), .val (.ref b187), .val (.ref b192), .unset] [])) _
      exact h)
  have k206 : Rch p e below S0 T199 (mkF m 247 #[.val (.int p1), .val (.int p2), .val (.int p3), .val (.int p4), .val (.int p5), .val (.int p6), .val (.int c131), .val (.int c134), .val (.int c137), .val (.int (0 : Int32)), .val (.ref b140), .val (.int kk), .val (.ref wK), .val (.ref b171), .val (.ref b179), .val (.ref b187), .val (.ref b192), .val (.int (1 : Int32))] [(.ref b192)]) := fun t h => k205 t (by
      show Steps p.tables e below (T199.setTop (mkF m 225 #[.val (.int p1), .val (.int p2), .val (.int p3), .val (.int p4), .val (.int p5), .val (.int p6), .val (.int c131), .val (.int c134), .val (.int c137), .val (.int (0 : Int32)), .val (.ref b140), .val (.int kk), .val (.ref wK), .val (.ref b171), .val (.ref b179), .val (.ref b187), .val (.ref b192), .unset] [])) _
      refine XS.iload X199.here hx rfl (hb hby at_225) rfl ?_
      show Steps p.tables e below (T199.setTop (mkF m 227 #[.val (.int p1), .val (.int p2), .val (.int p3), .val (.int p4), .val (.int p5), .val (.int p6), .val (.int c131), .val (.int c134), .val (.int c137), .val (.int (0 : Int32)), .val (.ref b140), .val (.int kk), .val (.ref wK), .val (.ref b171), .val (.ref b179), .val (.ref b187), .val (.ref b192), .unset] [(.int (0 : Int32))])) _
      refine XS.iconst X199.here hx rfl (hb hby at_227) ?_
      show Steps p.tables e below (T199.setTop (mkF m 228 #[.val (.int p1), .val (.int p2), .val (.int p3), .val (.int p4), .val (.int p5), .val (.int p6), .val (.int c131), .val (.int c134), .val (.int c137), .val (.int (0 : Int32)), .val (.ref b140), .val (.int kk), .val (.ref wK), .val (.ref b171), .val (.ref b179), .val (.ref b187), .val (.ref b192), .unset] [(.int (1 : Int32)), (.int (0 : Int32))])) _
      refine XS.icmpYes X199.here hx rfl (pc0 := 228) (pc' := 238) rfl (hb hby at_228) rfl (feq (by decide : ¬ ((0 : Int32) = (1 : Int32)))).2 (by decide) (by decide) ?_
      show Steps p.tables e below (T199.setTop (mkF m 238 #[.val (.int p1), .val (.int p2), .val (.int p3), .val (.int p4), .val (.int p5), .val (.int p6), .val (.int c131), .val (.int c134), .val (.int c137), .val (.int (0 : Int32)), .val (.ref b140), .val (.int kk), .val (.ref wK), .val (.ref b171), .val (.ref b179), .val (.ref b187), .val (.ref b192), .unset] [])) _
      refine XS.iconst X199.here hx rfl (hb hby at_238) ?_
      show Steps p.tables e below (T199.setTop (mkF m 239 #[.val (.int p1), .val (.int p2), .val (.int p3), .val (.int p4), .val (.int p5), .val (.int p6), .val (.int c131), .val (.int c134), .val (.int c137), .val (.int (0 : Int32)), .val (.ref b140), .val (.int kk), .val (.ref wK), .val (.ref b171), .val (.ref b179), .val (.ref b187), .val (.ref b192), .unset] [(.int (1 : Int32))])) _
      refine XS.goto X199.here hx rfl (pc0 := 239) (pc' := 243) rfl (hb hby at_239) (by decide) (by decide) ?_
      show Steps p.tables e below (T199.setTop (mkF m 243 #[.val (.int p1), .val (.int p2), .val (.int p3), .val (.int p4), .val (.int p5), .val (.int p6), .val (.int c131), .val (.int c134), .val (.int c137), .val (.int (0 : Int32)), .val (.ref b140), .val (.int kk), .val (.ref wK), .val (.ref b171), .val (.ref b179), .val (.ref b187), .val (.ref b192), .unset] [(.int (1 : Int32))])) _
      refine XS.istore X199.here hx rfl (hb hby at_243) rfl (l' := #[.val (.int p1), .val (.int p2), .val (.int p3), .val (.int p4), .val (.int p5), .val (.int p6), .val (.int c131), .val (.int c134), .val (.int c137), .val (.int (0 : Int32)), .val (.ref b140), .val (.int kk), .val (.ref wK), .val (.ref b171), .val (.ref b179), .val (.ref b187), .val (.ref b192), .val (.int (1 : Int32))]) rfl ?_
      show Steps p.tables e below (T199.setTop (mkF m 245 #[.val (.int p1), .val (.int p2), .val (.int p3), .val (.int p4), .val (.int p5), .val (.int p6), .val (.int c131), .val (.int c134), .val (.int c137), .val (.int (0 : Int32)), .val (.ref b140), .val (.int kk), .val (.ref wK), .val (.ref b171), .val (.ref b179), .val (.ref b187), .val (.ref b192), .val (.int (1 : Int32))] [])) _
      refine XS.aload X199.here hx rfl (hb hby at_245) rfl rfl ?_
      show Steps p.tables e below (T199.setTop (mkF m 247 #[.val (.int p1), .val (.int p2), .val (.int p3), .val (.int p4), .val (.int p5), .val (.int p6), .val (.int c131), .val (.int c134), .val (.int c137), .val (.int (0 : Int32)), .val (.ref b140), .val (.int kk), .val (.ref wK), .val (.ref b171), .val (.ref b179), .val (.ref b187), .val (.ref b192), .val (.int (1 : Int32))] [(.ref b192)])) _
      exact h)
  have hpp : ∀ c ∈ ([] : List Int32), ¬ c < 0 ∧ ¬ (255 : Int32) < c := by simp
  have hcdd : StrChars.Road.CodA [] 0 (0 : Int32) [] := Or.inl ⟨rfl, rfl, rfl, fun c hc => (hpp c hc).2⟩
  obtain ⟨cq207, kq207, q207a, q207b, q207c⟩ := isOf hZ152 rfl E_b192
  obtain ⟨_, _, ⟨T207, L207, kk207, n207⟩, -, X207, hS207, gr207, ⟨Lc207, hQ207, l207, y207, z207, hR207⟩, st207⟩ := X199.virtualBackS hx (y := (⟨"com/example/suretygate/suretygate/rolemodel/CabinetFunction", "isSigning", "()Z"⟩ : MethodName)) (z := (⟨"com/example/suretygate/suretygate/rolemodel/CabinetFunction", "isSigning", "()Z"⟩ : MethodName)) hown152 (mvT hZ152 (hw _ (List.mem_of_getElem? (i := 67) rfl))) (mvT hZ152 (hw _ (List.mem_of_getElem? (i := 68) rfl))) (notFace_of_selects (args := #[]) (mvT hZ152 (hw _ (List.mem_of_getElem? (i := 70) rfl)))) (mvT hZ152 (hw _ (List.mem_of_getElem? (i := 70) rfl))) (mvT hZ152 (hw _ (List.mem_of_getElem? (i := 69) rfl))) (by decide) (backOfSH (W := 0) (rmG l Z a0 hw [] b192 b140 t152 kt152 (0 : Int32) [] ([]) zC T199.heap n0 O203 SC hzC Fs199 E_b140 Fv152 Fc152 At152 hcdd hpp (Nat.le_of_ble_eq_true rfl)) hZ152 (hw _ (List.mem_of_getElem? (i := 71) rfl)) (hw _ (List.mem_of_getElem? (i := 47) rfl)) (by decide) (by decide) hEL hC201) q207a q207c (g := (mkF m 247 #[.val (.int p1), .val (.int p2), .val (.int p3), .val (.int p4), .val (.int p5), .val (.int p6), .val (.int c131), .val (.int c134), .val (.int c137), .val (.int (0 : Int32)), .val (.ref b140), .val (.int kk), .val (.ref wK), .val (.ref b171), .val (.ref b179), .val (.ref b187), .val (.ref b192), .val (.int (1 : Int32))] [(.ref b192)])) rfl (by rw [hml]; rfl) (Steps.refl _) (argsL := []) (rest := []) (lenOf pd_9 rfl) rfl (by show 2 * 0 + _ ≤ _; exact Nat.le_of_eq rfl) (hb hby at_247) (fun _ _ => ⟨rfl, rfl, (by decide : 13 + 2 ≤ _), (by decide : 32 + 8 ≤ _)⟩)
  dsimp only [Pt.U, Pt.locs, Pt.cells, Pt.slots] at X207 l207 y207 z207 st207 hQ207 hS207 gr207 hR207
  subst l207 y207 z207
  have hZ207 : Z.Warmed39 (s.setVm T207.vm).vm := State.Warmed39.trans (t := (s.setVm T152.vm)) hZ152 hS207.1
  have hown207 : (s.setVm T207.vm).vm.findClass "com/example/suretygate/suretygate/rolemodel/CabinetFunctionIsSigningPinLaw" = some m.cls := by rw [show (s.setVm T207.vm).vm = T207.vm from rfl, hS207.1.alike.findClass]; exact hown152
  replace hS207 := foldS hS152 (by exact hkk204) hS207 gr207
  have hk207 := Nat.le_refl T207.heap.size
  replace X207 : Stand p l e room_1 (s.setVm T207.vm) m #[(.int p1), (.int p2), (.int p3), (.int p4), (.int p5), (.int p6)] below meth c T207 _ _ _ := X207
  obtain ⟨r207, rfl, Nq207, E207, hr207⟩ := hQ207
  have N207 := Fr.app N199 Nq207
  have k208 : Rch p e below S0 T207 (mkF m 250 #[.val (.int p1), .val (.int p2), .val (.int p3), .val (.int p4), .val (.int p5), .val (.int p6), .val (.int c131), .val (.int c134), .val (.int c137), .val (.int (0 : Int32)), .val (.ref b140), .val (.int kk), .val (.ref wK), .val (.ref b171), .val (.ref b179), .val (.ref b187), .val (.ref b192), .val (.int (1 : Int32))] [(.int r207)]) := fun t h => k206 t (st207.trans h)
  replace sf_b140 := hR207.safe E_b140.lt sf_b140
  replace sf_b146 := hR207.safe V_b146.lt sf_b146
  replace sf_b192 := hR207.safe E_b192.lt sf_b192
  have hC209 := hR207.1
  have rC209 := rC201.trans hR207
  have O210 := O203.ext E207
  replace E_b140 := E_b140.ext E207
  replace Fv152 := Fv152.ext E207
  replace Fc152 := Fc152.ext E207
  replace V_b146 := V_b146.ext E207
  replace At152 := At152.ext E207
  replace X171E := X171E.ext E207
  replace X179E := X179E.ext E207
  replace X187E := X187E.ext E207
  replace E_b192 := E_b192.ext E207
  replace Fs199 := Fs199.ext E207
  obtain rfl : r207 = (1 : Int32) := by
    rcases hr207 with ⟨q, hq⟩ | ⟨q, hq⟩
    · exact absurd hq (by simp)
    · exact q
  have k211 : Rch p e below S0 T207 (mkF m 260 #[.val (.int p1), .val (.int p2), .val (.int p3), .val (.int p4), .val (.int p5), .val (.int p6), .val (.int c131), .val (.int c134), .val (.int c137), .val (.int (0 : Int32)), .val (.ref b140), .val (.int kk), .val (.ref wK), .val (.ref b171), .val (.ref b179), .val (.ref b187), .val (.ref b192), .val (.int (1 : Int32))] [(.int (1 : Int32))]) := fun t h => k208 t (by
      show Steps p.tables e below (T207.setTop (mkF m 250 #[.val (.int p1), .val (.int p2), .val (.int p3), .val (.int p4), .val (.int p5), .val (.int p6), .val (.int c131), .val (.int c134), .val (.int c137), .val (.int (0 : Int32)), .val (.ref b140), .val (.int kk), .val (.ref wK), .val (.ref b171), .val (.ref b179), .val (.ref b187), .val (.ref b192), .val (.int (1 : Int32))] [(.int (1 : Int32))])) _
      refine XS.iload X207.here hx rfl (hb hby at_250) rfl ?_
      show Steps p.tables e below (T207.setTop (mkF m 252 #[.val (.int p1), .val (.int p2), .val (.int p3), .val (.int p4), .val (.int p5), .val (.int p6), .val (.int c131), .val (.int c134), .val (.int c137), .val (.int (0 : Int32)), .val (.ref b140), .val (.int kk), .val (.ref wK), .val (.ref b171), .val (.ref b179), .val (.ref b187), .val (.ref b192), .val (.int (1 : Int32))] [(.int (1 : Int32)), (.int (1 : Int32))])) _
      refine XS.icmpNo X207.here hx rfl (hb hby at_252) rfl (teq (by decide : (1 : Int32) = (1 : Int32))).2 ?_
      show Steps p.tables e below (T207.setTop (mkF m 255 #[.val (.int p1), .val (.int p2), .val (.int p3), .val (.int p4), .val (.int p5), .val (.int p6), .val (.int c131), .val (.int c134), .val (.int c137), .val (.int (0 : Int32)), .val (.ref b140), .val (.int kk), .val (.ref wK), .val (.ref b171), .val (.ref b179), .val (.ref b187), .val (.ref b192), .val (.int (1 : Int32))] [])) _
      refine XS.iconst X207.here hx rfl (hb hby at_255) ?_
      show Steps p.tables e below (T207.setTop (mkF m 256 #[.val (.int p1), .val (.int p2), .val (.int p3), .val (.int p4), .val (.int p5), .val (.int p6), .val (.int c131), .val (.int c134), .val (.int c137), .val (.int (0 : Int32)), .val (.ref b140), .val (.int kk), .val (.ref wK), .val (.ref b171), .val (.ref b179), .val (.ref b187), .val (.ref b192), .val (.int (1 : Int32))] [(.int (1 : Int32))])) _
      refine XS.goto X207.here hx rfl (pc0 := 256) (pc' := 260) rfl (hb hby at_256) (by decide) (by decide) ?_
      show Steps p.tables e below (T207.setTop (mkF m 260 #[.val (.int p1), .val (.int p2), .val (.int p3), .val (.int p4), .val (.int p5), .val (.int p6), .val (.int c131), .val (.int c134), .val (.int c137), .val (.int (0 : Int32)), .val (.ref b140), .val (.int kk), .val (.ref wK), .val (.ref b171), .val (.ref b179), .val (.ref b187), .val (.ref b192), .val (.int (1 : Int32))] [(.int (1 : Int32))])) _
      exact h)
  obtain ⟨fs, hr, hrun, hended, hfin⟩ := X207.leaveW hS207 (by exact hk207) (v := (some (.int (1 : Int32)))) (fun h => by rw [Bd.returns] at h; cases h)
  refine ⟨_, _, ?_, hrun, hended, _, _, rfl, ?_, (by rw [hh]; have q := own_chr rC209 (CHv.at X207 hZ207 hEL hC209) rfl; exact q), hfin.1, hfin.2.1, hfin.2.2.1, hfin.2.2.2.mono (by decide) (by decide)⟩
  · rw [← hS0]
    refine k211 _ ?_
    show Steps p.tables e below (T207.setTop (mkF m 260 #[.val (.int p1), .val (.int p2), .val (.int p3), .val (.int p4), .val (.int p5), .val (.int p6), .val (.int c131), .val (.int c134), .val (.int c137), .val (.int (0 : Int32)), .val (.ref b140), .val (.int kk), .val (.ref wK), .val (.ref b171), .val (.ref b179), .val (.ref b187), .val (.ref b192), .val (.int (1 : Int32))] [(.int (1 : Int32))])) _
    exact retN X207 hx (t := .boolean) Bd.returns (by simp) (hb hby at_260) hr
  · show Q_rm0_0 Z  h0 n0 _ T207.heap _
    exact ⟨rfl, N207⟩
def Q_rm0_1 (Z : State)  (h0 : Heap) (n0 : Nat) (v : Option Value) (h : Heap) (L : List Loc) : Prop := v = some (.int (1 : Int32)) ∧ Fr n0 L
set_option maxRecDepth 65536 in
set_option maxHeartbeats 40000000 in
theorem rm0_1 (l : Launch) (Z : State) (a0 : Array Value) (hw : ∀ d ∈ tables_1, d.before a0 Z = true) (ws : List Jvm.Cond) (p1 : Int32) (p2 : Int32) (p3 : Int32) (p4 : Int32) (p5 : Int32) (p6 : Int32) (zC : Int32) (wM : Addr) (wP : Addr) (wA : Addr) (h0 : Heap) (n0 : Nat) (O0 : Old Z n0 h0) (SC : Sta Z Z.heap "java/lang/String" "COMPACT_STRINGS" "Z" (.int zC)) (hzC : ¬ zC = 0) (SM : Sta Z Z.heap "com/example/suretygate/suretygate/rolemodel/CabinetFunction$Kind" "MENU" "Lcom/example/suretygate/suretygate/rolemodel/CabinetFunction$Kind;" (.ref wM)) (SP : Sta Z Z.heap "com/example/suretygate/suretygate/rolemodel/CabinetFunction$Kind" "PAGE" "Lcom/example/suretygate/suretygate/rolemodel/CabinetFunction$Kind;" (.ref wP)) (SA : Sta Z Z.heap "com/example/suretygate/suretygate/rolemodel/CabinetFunction$Kind" "ACTION" "Lcom/example/suretygate/suretygate/rolemodel/CabinetFunction$Kind;" (.ref wA)) (hk0 : (p1 &&& (3 : Int32)) = (1 : Int32)) :
    MetFree l x (head1 (Jvm.Cond.code x code maxLocals ret :: ws) room_1) (fun a U => a = #[(.int p1), (.int p2), (.int p3), (.int p4), (.int p5), (.int p6)] ∧ Z.Warmed39 U.vm ∧ U.heap = h0 ∧ CHv Z consts_1 U.vm h0) (fun _ _ _ _ _ => True) (fun _ U o U' => ∃ v L, o = .returned v ∧ Q_rm0_1 Z  h0 n0 v U'.heap L ∧ CHr Z consts_1 U.vm U.heap U'.vm U'.heap ∧ ReturnedEndW U o U' L room_1.cells room_1.slots) := by
  refine MetFree.of_bodySF (plainFor_of_name pn_CabinetFunctionIsSigningPinLaw) hisR ?_
  intro p e s m args below meth c s₁ Bd hml0 hP hK
  obtain ⟨rfl, hZ, hh, hC0⟩ := hP
  have hx := Bd.exec
  have hby := Bd.bytes
  have hml : c.maxLocals = 18 := hml0
  have hown : s.vm.findClass "com/example/suretygate/suretygate/rolemodel/CabinetFunctionIsSigningPinLaw" = some m.cls := findClass_of_methodNamed Bd.named
  have hnm := (name_of_methodNamed Bd.named Bd.method).1
  have X0 : Stand p l e room_1 (s.setVm s.vm) m #[(.int p1), (.int p2), (.int p3), (.int p4), (.int p5), (.int p6)] below meth c s₁ [] 0 0 := Stand.of_body Bd
  have e0 : s₁.heap = h0 := by rw [← hh, Bd.state]; rfl
  have N0 := Fr.nil n0
  obtain ⟨S0, hS0⟩ : ∃ z, z = s₁.setTop (entryFrame m #[(.int p1), (.int p2), (.int p3), (.int p4), (.int p5), (.int p6)] maxLocals) := ⟨_, rfl⟩
  have k0 : Rch p e below S0 s₁ (mkF m 0 #[.val (.int p1), .val (.int p2), .val (.int p3), .val (.int p4), .val (.int p5), .val (.int p6), .unset, .unset, .unset, .unset, .unset, .unset, .unset, .unset, .unset, .unset, .unset, .unset] []) := fun t k => hS0 ▸ castTop (ef_0 m p1 p2 p3 p4 p5 p6) k
  have hS : s.Since s.vm s.heap.size := (State.WarmedH.refl s).since _
  have hk : s.heap.size ≤ h0.size := by rw [← hh]; exact Nat.le_refl _
  have hwS : ∀ d ∈ Bundle.stringAtoms, d.before a0 Z = true := fun d hd => hw d ((by decide +kernel : ∀ d ∈ Bundle.stringAtoms, d ∈ tables_1) d hd)
  have rC0 : CHr Z consts_1 s.vm h0 s.vm h0 := CHr.refl hC0
  have hEL : EW Z a0 consts_1 := (EW.cons (hw _ (List.mem_of_getElem? (i := 72) rfl)) (by decide +kernel) (EW.cons (hw _ (List.mem_of_getElem? (i := 18) rfl)) (by decide +kernel) EW.nil))
  have k212 : Rch p e below S0 s₁ (mkF m 1 #[.val (.int p1), .val (.int p2), .val (.int p3), .val (.int p4), .val (.int p5), .val (.int p6), .unset, .unset, .unset, .unset, .unset, .unset, .unset, .unset, .unset, .unset, .unset, .unset] [(.int p2)]) := fun t h => k0 t (by
      show Steps p.tables e below (s₁.setTop (mkF m 0 #[.val (.int p1), .val (.int p2), .val (.int p3), .val (.int p4), .val (.int p5), .val (.int p6), .unset, .unset, .unset, .unset, .unset, .unset, .unset, .unset, .unset, .unset, .unset, .unset] [])) _
      refine XS.iloadN X0.here hx rfl (hb hby at_0) rfl ?_
      show Steps p.tables e below (s₁.setTop (mkF m 1 #[.val (.int p1), .val (.int p2), .val (.int p3), .val (.int p4), .val (.int p5), .val (.int p6), .unset, .unset, .unset, .unset, .unset, .unset, .unset, .unset, .unset, .unset, .unset, .unset] [(.int p2)])) _
      exact h)
  obtain ⟨_, _, ⟨T213, L213, kk213, n213⟩, -, X213, ⟨Lc213, hQ213, l213, y213, z213⟩, st213⟩ := Jvm.LawKit.callS X0 hx (y := (⟨"com/example/suretygate/suretygate/rolemodel/CabinetFunctionIsSigningPinLaw", "pick", "(I)C"⟩ : MethodName)) hown (mvT hZ (hw _ (List.mem_of_getElem? (i := 0) rfl))) (mvT hZ (hw _ (List.mem_of_getElem? (i := 1) rfl))) (mvT hZ (hw _ (List.mem_of_getElem? (i := 2) rfl))) (mvT hZ (hw _ (List.mem_of_getElem? (i := 3) rfl))) (by decide) (backOf (W := 0) (rmP l Z a0 hw [] p2  h0 n0 O0 ) hZ (hw _ (List.mem_of_getElem? (i := 3) rfl)) (hw _ (List.mem_of_getElem? (i := 2) rfl)) (by decide) (by decide)) (g := (mkF m 1 #[.val (.int p1), .val (.int p2), .val (.int p3), .val (.int p4), .val (.int p5), .val (.int p6), .unset, .unset, .unset, .unset, .unset, .unset, .unset, .unset, .unset, .unset, .unset, .unset] [(.int p2)])) rfl (by rw [hml]; rfl) (argsL := [(.int p2)]) (rest := []) (lenOf pd_0 rfl) rfl (by show 2 * 0 + _ ≤ _; exact Nat.le_of_eq rfl) (hb hby at_1) (fun _ _ => ⟨rfl, e0, (by decide : 0 + 0 ≤ _), (by decide : 0 + 0 ≤ _)⟩)
  dsimp only [Pt.U, Pt.locs, Pt.cells, Pt.slots] at X213 l213 y213 z213 st213 hQ213
  subst l213 y213 z213
  obtain ⟨c213, rfl, Nq213, hh213, hc213⟩ := hQ213
  have N213 := Fr.app N0 Nq213
  have k214 : Rch p e below S0 T213 (mkF m 4 #[.val (.int p1), .val (.int p2), .val (.int p3), .val (.int p4), .val (.int p5), .val (.int p6), .unset, .unset, .unset, .unset, .unset, .unset, .unset, .unset, .unset, .unset, .unset, .unset] [(.int c213)]) := fun t h => k212 t (st213 t h)
  have k215 : Rch p e below S0 T213 (mkF m 7 #[.val (.int p1), .val (.int p2), .val (.int p3), .val (.int p4), .val (.int p5), .val (.int p6), .val (.int c213), .unset, .unset, .unset, .unset, .unset, .unset, .unset, .unset, .unset, .unset, .unset] [(.int p3)]) := fun t h => k214 t (by
      show Steps p.tables e below (T213.setTop (mkF m 4 #[.val (.int p1), .val (.int p2), .val (.int p3), .val (.int p4), .val (.int p5), .val (.int p6), .unset, .unset, .unset, .unset, .unset, .unset, .unset, .unset, .unset, .unset, .unset, .unset] [(.int c213)])) _
      refine XS.istore X213.here hx rfl (hb hby at_4) rfl (l' := #[.val (.int p1), .val (.int p2), .val (.int p3), .val (.int p4), .val (.int p5), .val (.int p6), .val (.int c213), .unset, .unset, .unset, .unset, .unset, .unset, .unset, .unset, .unset, .unset, .unset]) rfl ?_
      show Steps p.tables e below (T213.setTop (mkF m 6 #[.val (.int p1), .val (.int p2), .val (.int p3), .val (.int p4), .val (.int p5), .val (.int p6), .val (.int c213), .unset, .unset, .unset, .unset, .unset, .unset, .unset, .unset, .unset, .unset, .unset] [])) _
      refine XS.iloadN X213.here hx rfl (hb hby at_6) rfl ?_
      show Steps p.tables e below (T213.setTop (mkF m 7 #[.val (.int p1), .val (.int p2), .val (.int p3), .val (.int p4), .val (.int p5), .val (.int p6), .val (.int c213), .unset, .unset, .unset, .unset, .unset, .unset, .unset, .unset, .unset, .unset, .unset] [(.int p3)])) _
      exact h)
  obtain ⟨_, _, ⟨T216, L216, kk216, n216⟩, -, X216, ⟨Lc216, hQ216, l216, y216, z216⟩, st216⟩ := Jvm.LawKit.callS X213 hx (y := (⟨"com/example/suretygate/suretygate/rolemodel/CabinetFunctionIsSigningPinLaw", "pick", "(I)C"⟩ : MethodName)) hown (mvT hZ (hw _ (List.mem_of_getElem? (i := 0) rfl))) (mvT hZ (hw _ (List.mem_of_getElem? (i := 1) rfl))) (mvT hZ (hw _ (List.mem_of_getElem? (i := 2) rfl))) (mvT hZ (hw _ (List.mem_of_getElem? (i := 3) rfl))) (by decide) (backOf (W := 0) (rmP l Z a0 hw [] p3  h0 n0 O0 ) hZ (hw _ (List.mem_of_getElem? (i := 3) rfl)) (hw _ (List.mem_of_getElem? (i := 2) rfl)) (by decide) (by decide)) (g := (mkF m 7 #[.val (.int p1), .val (.int p2), .val (.int p3), .val (.int p4), .val (.int p5), .val (.int p6), .val (.int c213), .unset, .unset, .unset, .unset, .unset, .unset, .unset, .unset, .unset, .unset, .unset] [(.int p3)])) rfl (by rw [hml]; rfl) (argsL := [(.int p3)]) (rest := []) (lenOf pd_0 rfl) rfl (by show 2 * 0 + _ ≤ _; exact Nat.le_of_eq rfl) (hb hby at_7) (fun _ _ => ⟨rfl, hh213, (by decide : 0 + 0 ≤ _), (by decide : 0 + 0 ≤ _)⟩)
  dsimp only [Pt.U, Pt.locs, Pt.cells, Pt.slots] at X216 l216 y216 z216 st216 hQ216
  subst l216 y216 z216
  obtain ⟨c216, rfl, Nq216, hh216, hc216⟩ := hQ216
  have N216 := Fr.app N213 Nq216
  have k217 : Rch p e below S0 T216 (mkF m 10 #[.val (.int p1), .val (.int p2), .val (.int p3), .val (.int p4), .val (.int p5), .val (.int p6), .val (.int c213), .unset, .unset, .unset, .unset, .unset, .unset, .unset, .unset, .unset, .unset, .unset] [(.int c216)]) := fun t h => k215 t (st216 t h)
  have k218 : Rch p e below S0 T216 (mkF m 13 #[.val (.int p1), .val (.int p2), .val (.int p3), .val (.int p4), .val (.int p5), .val (.int p6), .val (.int c213), .val (.int c216), .unset, .unset, .unset, .unset, .unset, .unset, .unset, .unset, .unset, .unset] [(.int p4)]) := fun t h => k217 t (by
      show Steps p.tables e below (T216.setTop (mkF m 10 #[.val (.int p1), .val (.int p2), .val (.int p3), .val (.int p4), .val (.int p5), .val (.int p6), .val (.int c213), .unset, .unset, .unset, .unset, .unset, .unset, .unset, .unset, .unset, .unset, .unset] [(.int c216)])) _
      refine XS.istore X216.here hx rfl (hb hby at_10) rfl (l' := #[.val (.int p1), .val (.int p2), .val (.int p3), .val (.int p4), .val (.int p5), .val (.int p6), .val (.int c213), .val (.int c216), .unset, .unset, .unset, .unset, .unset, .unset, .unset, .unset, .unset, .unset]) rfl ?_
      show Steps p.tables e below (T216.setTop (mkF m 12 #[.val (.int p1), .val (.int p2), .val (.int p3), .val (.int p4), .val (.int p5), .val (.int p6), .val (.int c213), .val (.int c216), .unset, .unset, .unset, .unset, .unset, .unset, .unset, .unset, .unset, .unset] [])) _
      refine XS.iloadN X216.here hx rfl (hb hby at_12) rfl ?_
      show Steps p.tables e below (T216.setTop (mkF m 13 #[.val (.int p1), .val (.int p2), .val (.int p3), .val (.int p4), .val (.int p5), .val (.int p6), .val (.int c213), .val (.int c216), .unset, .unset, .unset, .unset, .unset, .unset, .unset, .unset, .unset, .unset] [(.int p4)])) _
      exact h)
  obtain ⟨_, _, ⟨T219, L219, kk219, n219⟩, -, X219, ⟨Lc219, hQ219, l219, y219, z219⟩, st219⟩ := Jvm.LawKit.callS X216 hx (y := (⟨"com/example/suretygate/suretygate/rolemodel/CabinetFunctionIsSigningPinLaw", "pick", "(I)C"⟩ : MethodName)) hown (mvT hZ (hw _ (List.mem_of_getElem? (i := 0) rfl))) (mvT hZ (hw _ (List.mem_of_getElem? (i := 1) rfl))) (mvT hZ (hw _ (List.mem_of_getElem? (i := 2) rfl))) (mvT hZ (hw _ (List.mem_of_getElem? (i := 3) rfl))) (by decide) (backOf (W := 0) (rmP l Z a0 hw [] p4  h0 n0 O0 ) hZ (hw _ (List.mem_of_getElem? (i := 3) rfl)) (hw _ (List.mem_of_getElem? (i := 2) rfl)) (by decide) (by decide)) (g := (mkF m 13 #[.val (.int p1), .val (.int p2), .val (.int p3), .val (.int p4), .val (.int p5), .val (.int p6), .val (.int c213), .val (.int c216), .unset, .unset, .unset, .unset, .unset, .unset, .unset, .unset, .unset, .unset] [(.int p4)])) rfl (by rw [hml]; rfl) (argsL := [(.int p4)]) (rest := []) (lenOf pd_0 rfl) rfl (by show 2 * 0 + _ ≤ _; exact Nat.le_of_eq rfl) (hb hby at_13) (fun _ _ => ⟨rfl, hh216, (by decide : 0 + 0 ≤ _), (by decide : 0 + 0 ≤ _)⟩)
  dsimp only [Pt.U, Pt.locs, Pt.cells, Pt.slots] at X219 l219 y219 z219 st219 hQ219
  subst l219 y219 z219
  obtain ⟨c219, rfl, Nq219, hh219, hc219⟩ := hQ219
  have N219 := Fr.app N216 Nq219
  have k220 : Rch p e below S0 T219 (mkF m 16 #[.val (.int p1), .val (.int p2), .val (.int p3), .val (.int p4), .val (.int p5), .val (.int p6), .val (.int c213), .val (.int c216), .unset, .unset, .unset, .unset, .unset, .unset, .unset, .unset, .unset, .unset] [(.int c219)]) := fun t h => k218 t (st219 t h)
  have k221 : Rch p e below S0 T219 (mkF m 23 #[.val (.int p1), .val (.int p2), .val (.int p3), .val (.int p4), .val (.int p5), .val (.int p6), .val (.int c213), .val (.int c216), .val (.int c219), .val (.int (1 : Int32)), .unset, .unset, .unset, .unset, .unset, .unset, .unset, .unset] []) := fun t h => k220 t (by
      show Steps p.tables e below (T219.setTop (mkF m 16 #[.val (.int p1), .val (.int p2), .val (.int p3), .val (.int p4), .val (.int p5), .val (.int p6), .val (.int c213), .val (.int c216), .unset, .unset, .unset, .unset, .unset, .unset, .unset, .unset, .unset, .unset] [(.int c219)])) _
      refine XS.istore X219.here hx rfl (hb hby at_16) rfl (l' := #[.val (.int p1), .val (.int p2), .val (.int p3), .val (.int p4), .val (.int p5), .val (.int p6), .val (.int c213), .val (.int c216), .val (.int c219), .unset, .unset, .unset, .unset, .unset, .unset, .unset, .unset, .unset]) rfl ?_
      show Steps p.tables e below (T219.setTop (mkF m 18 #[.val (.int p1), .val (.int p2), .val (.int p3), .val (.int p4), .val (.int p5), .val (.int p6), .val (.int c213), .val (.int c216), .val (.int c219), .unset, .unset, .unset, .unset, .unset, .unset, .unset, .unset, .unset] [])) _
      refine XS.iloadN X219.here hx rfl (hb hby at_18) rfl ?_
      show Steps p.tables e below (T219.setTop (mkF m 19 #[.val (.int p1), .val (.int p2), .val (.int p3), .val (.int p4), .val (.int p5), .val (.int p6), .val (.int c213), .val (.int c216), .val (.int c219), .unset, .unset, .unset, .unset, .unset, .unset, .unset, .unset, .unset] [(.int p1)])) _
      refine XS.iconst X219.here hx rfl (hb hby at_19) ?_
      show Steps p.tables e below (T219.setTop (mkF m 20 #[.val (.int p1), .val (.int p2), .val (.int p3), .val (.int p4), .val (.int p5), .val (.int p6), .val (.int c213), .val (.int c216), .val (.int c219), .unset, .unset, .unset, .unset, .unset, .unset, .unset, .unset, .unset] [(.int (3 : Int32)), (.int p1)])) _
      refine XS.iand X219.here hx rfl (hb hby at_20) rfl ?_
      rw [hk0]
      show Steps p.tables e below (T219.setTop (mkF m 21 #[.val (.int p1), .val (.int p2), .val (.int p3), .val (.int p4), .val (.int p5), .val (.int p6), .val (.int c213), .val (.int c216), .val (.int c219), .unset, .unset, .unset, .unset, .unset, .unset, .unset, .unset, .unset] [(.int (1 : Int32))])) _
      refine XS.istore X219.here hx rfl (hb hby at_21) rfl (l' := #[.val (.int p1), .val (.int p2), .val (.int p3), .val (.int p4), .val (.int p5), .val (.int p6), .val (.int c213), .val (.int c216), .val (.int c219), .val (.int (1 : Int32)), .unset, .unset, .unset, .unset, .unset, .unset, .unset, .unset]) rfl ?_
      show Steps p.tables e below (T219.setTop (mkF m 23 #[.val (.int p1), .val (.int p2), .val (.int p3), .val (.int p4), .val (.int p5), .val (.int p6), .val (.int c213), .val (.int c216), .val (.int c219), .val (.int (1 : Int32)), .unset, .unset, .unset, .unset, .unset, .unset, .unset, .unset] [])) _
      exact h)
  have k223 : Rch p e below S0 T219 (mkF m 49 #[.val (.int p1), .val (.int p2), .val (.int p3), .val (.int p4), .val (.int p5), .val (.int p6), .val (.int c213), .val (.int c216), .val (.int c219), .val (.int (1 : Int32)), .unset, .unset, .unset, .unset, .unset, .unset, .unset, .unset] []) := fun t h => k221 t (by
      show Steps p.tables e below (T219.setTop (mkF m 23 #[.val (.int p1), .val (.int p2), .val (.int p3), .val (.int p4), .val (.int p5), .val (.int p6), .val (.int c213), .val (.int c216), .val (.int c219), .val (.int (1 : Int32)), .unset, .unset, .unset, .unset, .unset, .unset, .unset, .unset] [])) _
      refine XS.iload X219.here hx rfl (hb hby at_23) rfl ?_
      show Steps p.tables e below (T219.setTop (mkF m 25 #[.val (.int p1), .val (.int p2), .val (.int p3), .val (.int p4), .val (.int p5), .val (.int p6), .val (.int c213), .val (.int c216), .val (.int c219), .val (.int (1 : Int32)), .unset, .unset, .unset, .unset, .unset, .unset, .unset, .unset] [(.int (1 : Int32))])) _
      refine XS.ifYes X219.here hx rfl (pc0 := 25) (pc' := 43) rfl (hb hby at_25) rfl ((if0 _ _).trans (feq (by decide : ¬ ((1 : Int32) = (0 : Int32)))).2) (by decide) (by decide) ?_
      show Steps p.tables e below (T219.setTop (mkF m 43 #[.val (.int p1), .val (.int p2), .val (.int p3), .val (.int p4), .val (.int p5), .val (.int p6), .val (.int c213), .val (.int c216), .val (.int c219), .val (.int (1 : Int32)), .unset, .unset, .unset, .unset, .unset, .unset, .unset, .unset] [])) _
      refine XS.iload X219.here hx rfl (hb hby at_43) rfl ?_
      show Steps p.tables e below (T219.setTop (mkF m 45 #[.val (.int p1), .val (.int p2), .val (.int p3), .val (.int p4), .val (.int p5), .val (.int p6), .val (.int c213), .val (.int c216), .val (.int c219), .val (.int (1 : Int32)), .unset, .unset, .unset, .unset, .unset, .unset, .unset, .unset] [(.int (1 : Int32))])) _
      refine XS.iconst X219.here hx rfl (hb hby at_45) ?_
      show Steps p.tables e below (T219.setTop (mkF m 46 #[.val (.int p1), .val (.int p2), .val (.int p3), .val (.int p4), .val (.int p5), .val (.int p6), .val (.int c213), .val (.int c216), .val (.int c219), .val (.int (1 : Int32)), .unset, .unset, .unset, .unset, .unset, .unset, .unset, .unset] [(.int (1 : Int32)), (.int (1 : Int32))])) _
      refine XS.icmpNo X219.here hx rfl (hb hby at_46) rfl (teq (by decide : (1 : Int32) = (1 : Int32))).2 ?_
      show Steps p.tables e below (T219.setTop (mkF m 49 #[.val (.int p1), .val (.int p2), .val (.int p3), .val (.int p4), .val (.int p5), .val (.int p6), .val (.int c213), .val (.int c216), .val (.int c219), .val (.int (1 : Int32)), .unset, .unset, .unset, .unset, .unset, .unset, .unset, .unset] [])) _
      exact h)
  obtain ⟨T222, h222, X222, e222, E222, A222, D222, -, st222⟩ := newO X219 hx hZ hown (hw _ (List.mem_of_getElem? (i := 4) rfl)) (hw _ (List.mem_of_getElem? (i := 5) rfl)) (hw _ (List.mem_of_getElem? (i := 6) rfl)) hh219 (g := (mkF m 49 #[.val (.int p1), .val (.int p2), .val (.int p3), .val (.int p4), .val (.int p5), .val (.int p6), .val (.int c213), .val (.int c216), .val (.int c219), .val (.int (1 : Int32)), .unset, .unset, .unset, .unset, .unset, .unset, .unset, .unset] [])) rfl (hb hby at_49) (by decide) (by decide)
  obtain ⟨b222, g222⟩ : ∃ z, z = h0.size := ⟨_, rfl⟩
  rw [← g222] at A222 D222 st222
  have k224 : Rch p e below S0 T222 (mkF m 52 #[.val (.int p1), .val (.int p2), .val (.int p3), .val (.int p4), .val (.int p5), .val (.int p6), .val (.int c213), .val (.int c216), .val (.int c219), .val (.int (1 : Int32)), .unset, .unset, .unset, .unset, .unset, .unset, .unset, .unset] [(.ref b222)]) := fun t h => k223 t (st222 t h)
  have ge_b222 : n0 ≤ b222 := own_ge O0 (Nat.le_of_eq g222.symm)
  have sf_b222 : Safe Z consts_1 s.vm h0 b222 := Safe.new (Nat.le_of_eq g222.symm)
  replace sf_b222 := Safe.ext E222 hC0 sf_b222
  have hC225 := hC0.ext E222
  have rC225 := rC0.trans (CHr.ext E222 hC0)
  have O226 := O0.ext E222
  have hkk227 := Nat.le_trans hk E222.1
  have E_b222 := A222
  have F_b222_value : Fld Z h222 b222 "java/lang/String" "value" "[B" .null := D222 (Or.inr (hw _ (List.mem_of_getElem? (i := 20) rfl))) (ty := (.array .byte)) (by decide)
  have F_b222_coder : Fld Z h222 b222 "java/lang/String" "coder" "B" (.int (0 : Int32)) := D222 (Or.inr (hw _ (List.mem_of_getElem? (i := 21) rfl))) (ty := .byte) (by decide)
  have k229 : Rch p e below S0 T222 (mkF m 54 #[.val (.int p1), .val (.int p2), .val (.int p3), .val (.int p4), .val (.int p5), .val (.int p6), .val (.int c213), .val (.int c216), .val (.int c219), .val (.int (1 : Int32)), .unset, .unset, .unset, .unset, .unset, .unset, .unset, .unset] [(.int (1 : Int32)), (.ref b222), (.ref b222)]) := fun t h => k224 t (by
      show Steps p.tables e below (T222.setTop (mkF m 52 #[.val (.int p1), .val (.int p2), .val (.int p3), .val (.int p4), .val (.int p5), .val (.int p6), .val (.int c213), .val (.int c216), .val (.int c219), .val (.int (1 : Int32)), .unset, .unset, .unset, .unset, .unset, .unset, .unset, .unset] [(.ref b222)])) _
      refine XS.dup X222.here hx rfl (hb hby at_52) rfl rfl ?_
      show Steps p.tables e below (T222.setTop (mkF m 53 #[.val (.int p1), .val (.int p2), .val (.int p3), .val (.int p4), .val (.int p5), .val (.int p6), .val (.int c213), .val (.int c216), .val (.int c219), .val (.int (1 : Int32)), .unset, .unset, .unset, .unset, .unset, .unset, .unset, .unset] [(.ref b222), (.ref b222)])) _
      refine XS.iconst X222.here hx rfl (hb hby at_53) ?_
      show Steps p.tables e below (T222.setTop (mkF m 54 #[.val (.int p1), .val (.int p2), .val (.int p3), .val (.int p4), .val (.int p5), .val (.int p6), .val (.int c213), .val (.int c216), .val (.int c219), .val (.int (1 : Int32)), .unset, .unset, .unset, .unset, .unset, .unset, .unset, .unset] [(.int (1 : Int32)), (.ref b222), (.ref b222)])) _
      exact h)
  obtain ⟨T228, h228, k228, X228, e228, E228, A228, st228⟩ := newP X222 hx hZ (hw _ (List.mem_of_getElem? (i := 7) rfl)) e222 (g := (mkF m 54 #[.val (.int p1), .val (.int p2), .val (.int p3), .val (.int p4), .val (.int p5), .val (.int p6), .val (.int c213), .val (.int c216), .val (.int c219), .val (.int (1 : Int32)), .unset, .unset, .unset, .unset, .unset, .unset, .unset, .unset] [(.int (1 : Int32)), (.ref b222), (.ref b222)])) rfl (hb hby at_54) rfl (by decide) (cap := 1) (by decide) (by decide) (by decide) (by decide)
  obtain ⟨b228, g228⟩ : ∃ z, z = h222.size := ⟨_, rfl⟩
  rw [← g228] at A228 st228
  have k230 : Rch p e below S0 T228 (mkF m 56 #[.val (.int p1), .val (.int p2), .val (.int p3), .val (.int p4), .val (.int p5), .val (.int p6), .val (.int c213), .val (.int c216), .val (.int c219), .val (.int (1 : Int32)), .unset, .unset, .unset, .unset, .unset, .unset, .unset, .unset] [(.ref b228), (.ref b222), (.ref b222)]) := fun t h => k229 t (st228 t h)
  have ne_b222_b228 : b222 ≠ b228 := own_ne E_b222.lt (Nat.le_of_eq g228.symm)
  have ge_b228 : n0 ≤ b228 := own_ge O226 (Nat.le_of_eq g228.symm)
  have sf_b228 : Safe Z consts_1 s.vm h222 b228 := Safe.new (Nat.le_of_eq g228.symm)
  replace sf_b222 := Safe.ext E228 hC225 sf_b222
  replace sf_b228 := Safe.ext E228 hC225 sf_b228
  have hC231 := hC225.ext E228
  have rC231 := rC225.trans (CHr.ext E228 hC225)
  have O232 := O226.ext E228
  replace E_b222 := E_b222.ext E228
  replace F_b222_value := F_b222_value.ext E228
  replace F_b222_coder := F_b222_coder.ext E228
  have hkk233 := Nat.le_trans hkk227 E228.1
  have V_b228 : Arv Z h228 b228 k228 .char (1 : Int32) [(.int (0 : Int32))] (.int (0 : Int32)) := (Arv.new A228 (by decide)).pad (pad_rep [] (.int (0 : Int32)) 1)
  have k235 : Rch p e below S0 T228 (mkF m 60 #[.val (.int p1), .val (.int p2), .val (.int p3), .val (.int p4), .val (.int p5), .val (.int p6), .val (.int c213), .val (.int c216), .val (.int c219), .val (.int (1 : Int32)), .unset, .unset, .unset, .unset, .unset, .unset, .unset, .unset] [(.int c213), (.int (0 : Int32)), (.ref b228), (.ref b228), (.ref b222), (.ref b222)]) := fun t h => k230 t (by
      show Steps p.tables e below (T228.setTop (mkF m 56 #[.val (.int p1), .val (.int p2), .val (.int p3), .val (.int p4), .val (.int p5), .val (.int p6), .val (.int c213), .val (.int c216), .val (.int c219), .val (.int (1 : Int32)), .unset, .unset, .unset, .unset, .unset, .unset, .unset, .unset] [(.ref b228), (.ref b222), (.ref b222)])) _
      refine XS.dup X228.here hx rfl (hb hby at_56) rfl rfl ?_
      show Steps p.tables e below (T228.setTop (mkF m 57 #[.val (.int p1), .val (.int p2), .val (.int p3), .val (.int p4), .val (.int p5), .val (.int p6), .val (.int c213), .val (.int c216), .val (.int c219), .val (.int (1 : Int32)), .unset, .unset, .unset, .unset, .unset, .unset, .unset, .unset] [(.ref b228), (.ref b228), (.ref b222), (.ref b222)])) _
      refine XS.iconst X228.here hx rfl (hb hby at_57) ?_
      show Steps p.tables e below (T228.setTop (mkF m 58 #[.val (.int p1), .val (.int p2), .val (.int p3), .val (.int p4), .val (.int p5), .val (.int p6), .val (.int c213), .val (.int c216), .val (.int c219), .val (.int (1 : Int32)), .unset, .unset, .unset, .unset, .unset, .unset, .unset, .unset] [(.int (0 : Int32)), (.ref b228), (.ref b228), (.ref b222), (.ref b222)])) _
      refine XS.iload X228.here hx rfl (hb hby at_58) rfl ?_
      show Steps p.tables e below (T228.setTop (mkF m 60 #[.val (.int p1), .val (.int p2), .val (.int p3), .val (.int p4), .val (.int p5), .val (.int p6), .val (.int c213), .val (.int c216), .val (.int c219), .val (.int (1 : Int32)), .unset, .unset, .unset, .unset, .unset, .unset, .unset, .unset] [(.int c213), (.int (0 : Int32)), (.ref b228), (.ref b228), (.ref b222), (.ref b222)])) _
      exact h)
  obtain ⟨cl234, Ar234, q234, Sz234, Ng234, Hs234, G234⟩ := id V_b228
  have hin234 : ¬ ((0 : Int32) < 0 ∨ cl234.slots.size ≤ ((0 : Int32)).toNatClampNeg) := inb_of Sz234 ⟨by decide, by decide⟩
  obtain ⟨T234, h234, X234, e234, W234, st234⟩ := stC X228 hx hZ e228 Ar234 (j := (0 : Int32)) hin234 (g := (mkF m 60 #[.val (.int p1), .val (.int p2), .val (.int p3), .val (.int p4), .val (.int p5), .val (.int p6), .val (.int c213), .val (.int c216), .val (.int c219), .val (.int (1 : Int32)), .unset, .unset, .unset, .unset, .unset, .unset, .unset, .unset] [(.int c213), (.int (0 : Int32)), (.ref b228), (.ref b228), (.ref b222), (.ref b222)])) rfl rfl (hb hby at_60)
  have k236 : Rch p e below S0 T234 (mkF m 61 #[.val (.int p1), .val (.int p2), .val (.int p3), .val (.int p4), .val (.int p5), .val (.int p6), .val (.int c213), .val (.int c216), .val (.int c219), .val (.int (1 : Int32)), .unset, .unset, .unset, .unset, .unset, .unset, .unset, .unset] [(.ref b228), (.ref b222), (.ref b222)]) := fun t h => k235 t (st234 t h)
  have N234 := Fr.snoc X234 N219 ge_b228
  have V_b228' := Arv.set Ar234 q234 Sz234 Ng234 Hs234 G234 (fits_nar_char _) W234 0 rfl (Nat.le_of_ble_eq_true rfl)
  replace V_b228 : Arv Z h234 b228 k228 .char (1 : Int32) [(.int c213)] (.int (0 : Int32)) := (by have q := V_b228'; rw [(own_nar c213 hc213).1] at q; exact q)
  have hC237 := hC231.wr W234 sf_b228
  have rC237 := rC231.trans (CHr.wr W234 sf_b228 hC231)
  replace sf_b222 := Safe.wr W234 sf_b228 hC231 sf_b222
  replace sf_b228 := Safe.wr W234 sf_b228 hC231 sf_b228
  have O238 := O232.wr W234 ge_b228
  replace E_b222 := E_b222.wr W234
  replace F_b222_value := F_b222_value.other W234 (Or.inl ne_b222_b228)
  replace F_b222_coder := F_b222_coder.other W234 (Or.inl ne_b222_b228)
  have hkk239 := Nat.le_trans hkk233 (Keep.of_wr W234).1
  have hws : ∀ d ∈ StrChars.Road.words, d.before a0 Z = true := fun d hd => hw d ((by decide +kernel : ∀ d ∈ StrChars.Road.words, d ∈ tables_1) d hd)
  have hp : ∀ c ∈ ([c213] : List Int32), ¬ c < 0 ∧ ¬ (255 : Int32) < c := by
    intro c hc
    simp only [List.mem_cons, List.not_mem_nil, or_false] at hc
    rcases hc with rfl
    · exact hc213
  obtain ⟨_, _, ⟨T240, L240, kk240, n240⟩, -, X240, ⟨Lc240, hQ240, l240, y240, z240⟩, st240⟩ := X234.specialBack hx (y := (⟨"java/lang/String", "<init>", "([C)V"⟩ : MethodName)) rfl hown (mvT hZ (hw _ (List.mem_of_getElem? (i := 8) rfl))) (mvT hZ (hw _ (List.mem_of_getElem? (i := 9) rfl))) (mvT hZ (hw _ (List.mem_of_getElem? (i := 10) rfl))) (by decide) (StrChars.Road.backV (W := 1) hZ hws (kI := 4) (hw _ (List.mem_of_getElem? (i := 5) rfl)) (cs := [c213]) (bs := [c213].map (fun c => c.toInt8.toInt32)) (n := 1) ge_b222 (own_le O238) E_b222 F_b222_value F_b222_coder V_b228 (SC.ext O238.2) hzC rfl rfl (by decide) (by decide) hp rfl (by decide) (by decide)) (g := (mkF m 61 #[.val (.int p1), .val (.int p2), .val (.int p3), .val (.int p4), .val (.int p5), .val (.int p6), .val (.int c213), .val (.int c216), .val (.int c219), .val (.int (1 : Int32)), .unset, .unset, .unset, .unset, .unset, .unset, .unset, .unset] [(.ref b228), (.ref b222), (.ref b222)])) rfl (by rw [hml]; rfl) (Steps.refl _) (a := b222) (argsL := [(.ref b228)]) (rest := [(.ref b222)]) (lenOf pd_1 rfl) rfl (by show 2 * 0 + _ ≤ _; exact Nat.le_of_eq rfl) (hb hby at_61) (fun _ _ => ⟨rfl, e234, (by decide : 2 + 1 ≤ _), (by decide : 5 + 1 ≤ _)⟩)
  dsimp only [Pt.U, Pt.locs, Pt.cells, Pt.slots] at X240 l240 y240 z240 st240 hQ240
  subst l240 y240 z240
  obtain ⟨rfl, Nq240, K240, Eb240, Cb240, t240, kb240, u240, v240, ww240, Vb240, Ab240⟩ := hQ240
  have N240 := Fr.app N234 Nq240
  have k241 : Rch p e below S0 T240 (mkF m 64 #[.val (.int p1), .val (.int p2), .val (.int p3), .val (.int p4), .val (.int p5), .val (.int p6), .val (.int c213), .val (.int c216), .val (.int c219), .val (.int (1 : Int32)), .unset, .unset, .unset, .unset, .unset, .unset, .unset, .unset] [(.ref b222)]) := fun t h => k236 t (st240.trans h)
  have hC242 := hC237.keep K240 (sfS sf_b222 sf0)
  have rC242 := rC237.trans (CHr.keep K240 (sfS sf_b222 sf0) hC237)
  have sfx243 := (sfS sf_b222 sf0)
  replace sf_b222 := Safe.keep K240 sfx243 hC237 sf_b222
  replace sf_b228 := Safe.keep K240 sfx243 hC237 sf_b228
  have O244 := O238.keep K240 (allS ge_b222 all0)
  replace E_b222 := E_b222.keep K240
  replace V_b228 := V_b228.keep K240 (ninS (Ne.symm ne_b222_b228) nin0)
  have hkk245 := Nat.le_trans hkk239 K240.1
  have k246 : Rch p e below S0 T240 (mkF m 127 #[.val (.int p1), .val (.int p2), .val (.int p3), .val (.int p4), .val (.int p5), .val (.int p6), .val (.int c213), .val (.int c216), .val (.int c219), .val (.int (1 : Int32)), .val (.ref b222), .unset, .unset, .unset, .unset, .unset, .unset, .unset] []) := fun t h => k241 t (by
      show Steps p.tables e below (T240.setTop (mkF m 64 #[.val (.int p1), .val (.int p2), .val (.int p3), .val (.int p4), .val (.int p5), .val (.int p6), .val (.int c213), .val (.int c216), .val (.int c219), .val (.int (1 : Int32)), .unset, .unset, .unset, .unset, .unset, .unset, .unset, .unset] [(.ref b222)])) _
      refine XS.astore X240.here hx rfl (hb hby at_64) rfl rfl (l' := #[.val (.int p1), .val (.int p2), .val (.int p3), .val (.int p4), .val (.int p5), .val (.int p6), .val (.int c213), .val (.int c216), .val (.int c219), .val (.int (1 : Int32)), .val (.ref b222), .unset, .unset, .unset, .unset, .unset, .unset, .unset]) rfl ?_
      show Steps p.tables e below (T240.setTop (mkF m 66 #[.val (.int p1), .val (.int p2), .val (.int p3), .val (.int p4), .val (.int p5), .val (.int p6), .val (.int c213), .val (.int c216), .val (.int c219), .val (.int (1 : Int32)), .val (.ref b222), .unset, .unset, .unset, .unset, .unset, .unset, .unset] [])) _
      refine XS.goto X240.here hx rfl (pc0 := 66) (pc' := 127) rfl (hb hby at_66) (by decide) (by decide) ?_
      show Steps p.tables e below (T240.setTop (mkF m 127 #[.val (.int p1), .val (.int p2), .val (.int p3), .val (.int p4), .val (.int p5), .val (.int p6), .val (.int c213), .val (.int c216), .val (.int c219), .val (.int (1 : Int32)), .val (.ref b222), .unset, .unset, .unset, .unset, .unset, .unset, .unset] [])) _
      exact h)
  obtain ⟨T259, kk, wK, X259, e259, k259⟩ : ∃ (T' : State) (kk : Int32) (wK : Addr), Like X240 T' ∧ T'.heap = T240.heap ∧ Rch p e below S0 T' (mkF m 168 #[.val (.int p1), .val (.int p2), .val (.int p3), .val (.int p4), .val (.int p5), .val (.int p6), .val (.int c213), .val (.int c216), .val (.int c219), .val (.int (1 : Int32)), .val (.ref b222), .val (.int kk), .val (.ref wK), .unset, .unset, .unset, .unset, .unset] []) := by
    rcases own_sel p5 with hk1 | hk1 | hk1
    · have k248 : Rch p e below S0 T240 (mkF m 141 #[.val (.int p1), .val (.int p2), .val (.int p3), .val (.int p4), .val (.int p5), .val (.int p6), .val (.int c213), .val (.int c216), .val (.int c219), .val (.int (1 : Int32)), .val (.ref b222), .val (.int (0 : Int32)), .unset, .unset, .unset, .unset, .unset, .unset] []) := fun t h => k246 t (by
          show Steps p.tables e below (T240.setTop (mkF m 127 #[.val (.int p1), .val (.int p2), .val (.int p3), .val (.int p4), .val (.int p5), .val (.int p6), .val (.int c213), .val (.int c216), .val (.int c219), .val (.int (1 : Int32)), .val (.ref b222), .unset, .unset, .unset, .unset, .unset, .unset, .unset] [])) _
          refine XS.iload X240.here hx rfl (hb hby at_127) rfl ?_
          show Steps p.tables e below (T240.setTop (mkF m 129 #[.val (.int p1), .val (.int p2), .val (.int p3), .val (.int p4), .val (.int p5), .val (.int p6), .val (.int c213), .val (.int c216), .val (.int c219), .val (.int (1 : Int32)), .val (.ref b222), .unset, .unset, .unset, .unset, .unset, .unset, .unset] [(.int p5)])) _
          refine X240.ldcInt hx hown (mvT hZ (hw _ (List.mem_of_getElem? (i := 26) rfl))) (g := (mkF m 129 #[.val (.int p1), .val (.int p2), .val (.int p3), .val (.int p4), .val (.int p5), .val (.int p6), .val (.int c213), .val (.int c216), .val (.int c219), .val (.int (1 : Int32)), .val (.ref b222), .unset, .unset, .unset, .unset, .unset, .unset, .unset] [(.int p5)])) rfl (hb hby at_129) _ ?_
          show Steps p.tables e below (T240.setTop (mkF m 131 #[.val (.int p1), .val (.int p2), .val (.int p3), .val (.int p4), .val (.int p5), .val (.int p6), .val (.int c213), .val (.int c216), .val (.int c219), .val (.int (1 : Int32)), .val (.ref b222), .unset, .unset, .unset, .unset, .unset, .unset, .unset] [(.int (2147483647 : Int32)), (.int p5)])) _
          refine XS.iand X240.here hx rfl (hb hby at_131) rfl ?_
          show Steps p.tables e below (T240.setTop (mkF m 132 #[.val (.int p1), .val (.int p2), .val (.int p3), .val (.int p4), .val (.int p5), .val (.int p6), .val (.int c213), .val (.int c216), .val (.int c219), .val (.int (1 : Int32)), .val (.ref b222), .unset, .unset, .unset, .unset, .unset, .unset, .unset] [(.int (p5 &&& (2147483647 : Int32)))])) _
          refine XS.iconst X240.here hx rfl (hb hby at_132) ?_
          show Steps p.tables e below (T240.setTop (mkF m 133 #[.val (.int p1), .val (.int p2), .val (.int p3), .val (.int p4), .val (.int p5), .val (.int p6), .val (.int c213), .val (.int c216), .val (.int c219), .val (.int (1 : Int32)), .val (.ref b222), .unset, .unset, .unset, .unset, .unset, .unset, .unset] [(.int (3 : Int32)), (.int (p5 &&& (2147483647 : Int32)))])) _
          refine iremM X240 hx rfl (hb hby at_133) rfl (by decide) ?_
          rw [hk1]
          show Steps p.tables e below (T240.setTop (mkF m 134 #[.val (.int p1), .val (.int p2), .val (.int p3), .val (.int p4), .val (.int p5), .val (.int p6), .val (.int c213), .val (.int c216), .val (.int c219), .val (.int (1 : Int32)), .val (.ref b222), .unset, .unset, .unset, .unset, .unset, .unset, .unset] [(.int (0 : Int32))])) _
          refine XS.istore X240.here hx rfl (hb hby at_134) rfl (l' := #[.val (.int p1), .val (.int p2), .val (.int p3), .val (.int p4), .val (.int p5), .val (.int p6), .val (.int c213), .val (.int c216), .val (.int c219), .val (.int (1 : Int32)), .val (.ref b222), .val (.int (0 : Int32)), .unset, .unset, .unset, .unset, .unset, .unset]) rfl ?_
          show Steps p.tables e below (T240.setTop (mkF m 136 #[.val (.int p1), .val (.int p2), .val (.int p3), .val (.int p4), .val (.int p5), .val (.int p6), .val (.int c213), .val (.int c216), .val (.int c219), .val (.int (1 : Int32)), .val (.ref b222), .val (.int (0 : Int32)), .unset, .unset, .unset, .unset, .unset, .unset] [])) _
          refine XS.iload X240.here hx rfl (hb hby at_136) rfl ?_
          show Steps p.tables e below (T240.setTop (mkF m 138 #[.val (.int p1), .val (.int p2), .val (.int p3), .val (.int p4), .val (.int p5), .val (.int p6), .val (.int c213), .val (.int c216), .val (.int c219), .val (.int (1 : Int32)), .val (.ref b222), .val (.int (0 : Int32)), .unset, .unset, .unset, .unset, .unset, .unset] [(.int (0 : Int32))])) _
          refine XS.ifNo X240.here hx rfl (hb hby at_138) rfl ((if0 _ _).trans (teq (by decide : (0 : Int32) = (0 : Int32))).2) ?_
          show Steps p.tables e below (T240.setTop (mkF m 141 #[.val (.int p1), .val (.int p2), .val (.int p3), .val (.int p4), .val (.int p5), .val (.int p6), .val (.int c213), .val (.int c216), .val (.int c219), .val (.int (1 : Int32)), .val (.ref b222), .val (.int (0 : Int32)), .unset, .unset, .unset, .unset, .unset, .unset] [])) _
          exact h)
      obtain ⟨T247, X247, e247, st247⟩ := getS2 X240 hx hZ hown (host := "") (Or.inl (hw _ (List.mem_of_getElem? (i := 27) rfl))) Via.refl rfl (SM.ext O244.2) (g := (mkF m 141 #[.val (.int p1), .val (.int p2), .val (.int p3), .val (.int p4), .val (.int p5), .val (.int p6), .val (.int c213), .val (.int c216), .val (.int c219), .val (.int (1 : Int32)), .val (.ref b222), .val (.int (0 : Int32)), .unset, .unset, .unset, .unset, .unset, .unset] [])) rfl (hb hby at_141)
      have k249 : Rch p e below S0 T247 (mkF m 144 #[.val (.int p1), .val (.int p2), .val (.int p3), .val (.int p4), .val (.int p5), .val (.int p6), .val (.int c213), .val (.int c216), .val (.int c219), .val (.int (1 : Int32)), .val (.ref b222), .val (.int (0 : Int32)), .unset, .unset, .unset, .unset, .unset, .unset] [(.ref wM)]) := fun t h => k248 t (st247 t h)
      have k250 : Rch p e below S0 T247 (mkF m 168 #[.val (.int p1), .val (.int p2), .val (.int p3), .val (.int p4), .val (.int p5), .val (.int p6), .val (.int c213), .val (.int c216), .val (.int c219), .val (.int (1 : Int32)), .val (.ref b222), .val (.int (0 : Int32)), .val (.ref wM), .unset, .unset, .unset, .unset, .unset] []) := fun t h => k249 t (by
          show Steps p.tables e below (T247.setTop (mkF m 144 #[.val (.int p1), .val (.int p2), .val (.int p3), .val (.int p4), .val (.int p5), .val (.int p6), .val (.int c213), .val (.int c216), .val (.int c219), .val (.int (1 : Int32)), .val (.ref b222), .val (.int (0 : Int32)), .unset, .unset, .unset, .unset, .unset, .unset] [(.ref wM)])) _
          refine XS.astore X247.here hx rfl (hb hby at_144) rfl rfl (l' := #[.val (.int p1), .val (.int p2), .val (.int p3), .val (.int p4), .val (.int p5), .val (.int p6), .val (.int c213), .val (.int c216), .val (.int c219), .val (.int (1 : Int32)), .val (.ref b222), .val (.int (0 : Int32)), .val (.ref wM), .unset, .unset, .unset, .unset, .unset]) rfl ?_
          show Steps p.tables e below (T247.setTop (mkF m 146 #[.val (.int p1), .val (.int p2), .val (.int p3), .val (.int p4), .val (.int p5), .val (.int p6), .val (.int c213), .val (.int c216), .val (.int c219), .val (.int (1 : Int32)), .val (.ref b222), .val (.int (0 : Int32)), .val (.ref wM), .unset, .unset, .unset, .unset, .unset] [])) _
          refine XS.goto X247.here hx rfl (pc0 := 146) (pc' := 168) rfl (hb hby at_146) (by decide) (by decide) ?_
          show Steps p.tables e below (T247.setTop (mkF m 168 #[.val (.int p1), .val (.int p2), .val (.int p3), .val (.int p4), .val (.int p5), .val (.int p6), .val (.int c213), .val (.int c216), .val (.int c219), .val (.int (1 : Int32)), .val (.ref b222), .val (.int (0 : Int32)), .val (.ref wM), .unset, .unset, .unset, .unset, .unset] [])) _
          exact h)
      exact ⟨_, (0 : Int32), wM, X247, e247, k250⟩
    · have k252 : Rch p e below S0 T240 (mkF m 155 #[.val (.int p1), .val (.int p2), .val (.int p3), .val (.int p4), .val (.int p5), .val (.int p6), .val (.int c213), .val (.int c216), .val (.int c219), .val (.int (1 : Int32)), .val (.ref b222), .val (.int (1 : Int32)), .unset, .unset, .unset, .unset, .unset, .unset] []) := fun t h => k246 t (by
          show Steps p.tables e below (T240.setTop (mkF m 127 #[.val (.int p1), .val (.int p2), .val (.int p3), .val (.int p4), .val (.int p5), .val (.int p6), .val (.int c213), .val (.int c216), .val (.int c219), .val (.int (1 : Int32)), .val (.ref b222), .unset, .unset, .unset, .unset, .unset, .unset, .unset] [])) _
          refine XS.iload X240.here hx rfl (hb hby at_127) rfl ?_
          show Steps p.tables e below (T240.setTop (mkF m 129 #[.val (.int p1), .val (.int p2), .val (.int p3), .val (.int p4), .val (.int p5), .val (.int p6), .val (.int c213), .val (.int c216), .val (.int c219), .val (.int (1 : Int32)), .val (.ref b222), .unset, .unset, .unset, .unset, .unset, .unset, .unset] [(.int p5)])) _
          refine X240.ldcInt hx hown (mvT hZ (hw _ (List.mem_of_getElem? (i := 26) rfl))) (g := (mkF m 129 #[.val (.int p1), .val (.int p2), .val (.int p3), .val (.int p4), .val (.int p5), .val (.int p6), .val (.int c213), .val (.int c216), .val (.int c219), .val (.int (1 : Int32)), .val (.ref b222), .unset, .unset, .unset, .unset, .unset, .unset, .unset] [(.int p5)])) rfl (hb hby at_129) _ ?_
          show Steps p.tables e below (T240.setTop (mkF m 131 #[.val (.int p1), .val (.int p2), .val (.int p3), .val (.int p4), .val (.int p5), .val (.int p6), .val (.int c213), .val (.int c216), .val (.int c219), .val (.int (1 : Int32)), .val (.ref b222), .unset, .unset, .unset, .unset, .unset, .unset, .unset] [(.int (2147483647 : Int32)), (.int p5)])) _
          refine XS.iand X240.here hx rfl (hb hby at_131) rfl ?_
          show Steps p.tables e below (T240.setTop (mkF m 132 #[.val (.int p1), .val (.int p2), .val (.int p3), .val (.int p4), .val (.int p5), .val (.int p6), .val (.int c213), .val (.int c216), .val (.int c219), .val (.int (1 : Int32)), .val (.ref b222), .unset, .unset, .unset, .unset, .unset, .unset, .unset] [(.int (p5 &&& (2147483647 : Int32)))])) _
          refine XS.iconst X240.here hx rfl (hb hby at_132) ?_
          show Steps p.tables e below (T240.setTop (mkF m 133 #[.val (.int p1), .val (.int p2), .val (.int p3), .val (.int p4), .val (.int p5), .val (.int p6), .val (.int c213), .val (.int c216), .val (.int c219), .val (.int (1 : Int32)), .val (.ref b222), .unset, .unset, .unset, .unset, .unset, .unset, .unset] [(.int (3 : Int32)), (.int (p5 &&& (2147483647 : Int32)))])) _
          refine iremM X240 hx rfl (hb hby at_133) rfl (by decide) ?_
          rw [hk1]
          show Steps p.tables e below (T240.setTop (mkF m 134 #[.val (.int p1), .val (.int p2), .val (.int p3), .val (.int p4), .val (.int p5), .val (.int p6), .val (.int c213), .val (.int c216), .val (.int c219), .val (.int (1 : Int32)), .val (.ref b222), .unset, .unset, .unset, .unset, .unset, .unset, .unset] [(.int (1 : Int32))])) _
          refine XS.istore X240.here hx rfl (hb hby at_134) rfl (l' := #[.val (.int p1), .val (.int p2), .val (.int p3), .val (.int p4), .val (.int p5), .val (.int p6), .val (.int c213), .val (.int c216), .val (.int c219), .val (.int (1 : Int32)), .val (.ref b222), .val (.int (1 : Int32)), .unset, .unset, .unset, .unset, .unset, .unset]) rfl ?_
          show Steps p.tables e below (T240.setTop (mkF m 136 #[.val (.int p1), .val (.int p2), .val (.int p3), .val (.int p4), .val (.int p5), .val (.int p6), .val (.int c213), .val (.int c216), .val (.int c219), .val (.int (1 : Int32)), .val (.ref b222), .val (.int (1 : Int32)), .unset, .unset, .unset, .unset, .unset, .unset] [])) _
          refine XS.iload X240.here hx rfl (hb hby at_136) rfl ?_
          show Steps p.tables e below (T240.setTop (mkF m 138 #[.val (.int p1), .val (.int p2), .val (.int p3), .val (.int p4), .val (.int p5), .val (.int p6), .val (.int c213), .val (.int c216), .val (.int c219), .val (.int (1 : Int32)), .val (.ref b222), .val (.int (1 : Int32)), .unset, .unset, .unset, .unset, .unset, .unset] [(.int (1 : Int32))])) _
          refine XS.ifYes X240.here hx rfl (pc0 := 138) (pc' := 149) rfl (hb hby at_138) rfl ((if0 _ _).trans (feq (by decide : ¬ ((1 : Int32) = (0 : Int32)))).2) (by decide) (by decide) ?_
          show Steps p.tables e below (T240.setTop (mkF m 149 #[.val (.int p1), .val (.int p2), .val (.int p3), .val (.int p4), .val (.int p5), .val (.int p6), .val (.int c213), .val (.int c216), .val (.int c219), .val (.int (1 : Int32)), .val (.ref b222), .val (.int (1 : Int32)), .unset, .unset, .unset, .unset, .unset, .unset] [])) _
          refine XS.iload X240.here hx rfl (hb hby at_149) rfl ?_
          show Steps p.tables e below (T240.setTop (mkF m 151 #[.val (.int p1), .val (.int p2), .val (.int p3), .val (.int p4), .val (.int p5), .val (.int p6), .val (.int c213), .val (.int c216), .val (.int c219), .val (.int (1 : Int32)), .val (.ref b222), .val (.int (1 : Int32)), .unset, .unset, .unset, .unset, .unset, .unset] [(.int (1 : Int32))])) _
          refine XS.iconst X240.here hx rfl (hb hby at_151) ?_
          show Steps p.tables e below (T240.setTop (mkF m 152 #[.val (.int p1), .val (.int p2), .val (.int p3), .val (.int p4), .val (.int p5), .val (.int p6), .val (.int c213), .val (.int c216), .val (.int c219), .val (.int (1 : Int32)), .val (.ref b222), .val (.int (1 : Int32)), .unset, .unset, .unset, .unset, .unset, .unset] [(.int (1 : Int32)), (.int (1 : Int32))])) _
          refine XS.icmpNo X240.here hx rfl (hb hby at_152) rfl (teq (by decide : (1 : Int32) = (1 : Int32))).2 ?_
          show Steps p.tables e below (T240.setTop (mkF m 155 #[.val (.int p1), .val (.int p2), .val (.int p3), .val (.int p4), .val (.int p5), .val (.int p6), .val (.int c213), .val (.int c216), .val (.int c219), .val (.int (1 : Int32)), .val (.ref b222), .val (.int (1 : Int32)), .unset, .unset, .unset, .unset, .unset, .unset] [])) _
          exact h)
      obtain ⟨T251, X251, e251, st251⟩ := getS2 X240 hx hZ hown (host := "") (Or.inl (hw _ (List.mem_of_getElem? (i := 93) rfl))) Via.refl rfl (SP.ext O244.2) (g := (mkF m 155 #[.val (.int p1), .val (.int p2), .val (.int p3), .val (.int p4), .val (.int p5), .val (.int p6), .val (.int c213), .val (.int c216), .val (.int c219), .val (.int (1 : Int32)), .val (.ref b222), .val (.int (1 : Int32)), .unset, .unset, .unset, .unset, .unset, .unset] [])) rfl (hb hby at_155)
      have k253 : Rch p e below S0 T251 (mkF m 158 #[.val (.int p1), .val (.int p2), .val (.int p3), .val (.int p4), .val (.int p5), .val (.int p6), .val (.int c213), .val (.int c216), .val (.int c219), .val (.int (1 : Int32)), .val (.ref b222), .val (.int (1 : Int32)), .unset, .unset, .unset, .unset, .unset, .unset] [(.ref wP)]) := fun t h => k252 t (st251 t h)
      have k254 : Rch p e below S0 T251 (mkF m 168 #[.val (.int p1), .val (.int p2), .val (.int p3), .val (.int p4), .val (.int p5), .val (.int p6), .val (.int c213), .val (.int c216), .val (.int c219), .val (.int (1 : Int32)), .val (.ref b222), .val (.int (1 : Int32)), .val (.ref wP), .unset, .unset, .unset, .unset, .unset] []) := fun t h => k253 t (by
          show Steps p.tables e below (T251.setTop (mkF m 158 #[.val (.int p1), .val (.int p2), .val (.int p3), .val (.int p4), .val (.int p5), .val (.int p6), .val (.int c213), .val (.int c216), .val (.int c219), .val (.int (1 : Int32)), .val (.ref b222), .val (.int (1 : Int32)), .unset, .unset, .unset, .unset, .unset, .unset] [(.ref wP)])) _
          refine XS.astore X251.here hx rfl (hb hby at_158) rfl rfl (l' := #[.val (.int p1), .val (.int p2), .val (.int p3), .val (.int p4), .val (.int p5), .val (.int p6), .val (.int c213), .val (.int c216), .val (.int c219), .val (.int (1 : Int32)), .val (.ref b222), .val (.int (1 : Int32)), .val (.ref wP), .unset, .unset, .unset, .unset, .unset]) rfl ?_
          show Steps p.tables e below (T251.setTop (mkF m 160 #[.val (.int p1), .val (.int p2), .val (.int p3), .val (.int p4), .val (.int p5), .val (.int p6), .val (.int c213), .val (.int c216), .val (.int c219), .val (.int (1 : Int32)), .val (.ref b222), .val (.int (1 : Int32)), .val (.ref wP), .unset, .unset, .unset, .unset, .unset] [])) _
          refine XS.goto X251.here hx rfl (pc0 := 160) (pc' := 168) rfl (hb hby at_160) (by decide) (by decide) ?_
          show Steps p.tables e below (T251.setTop (mkF m 168 #[.val (.int p1), .val (.int p2), .val (.int p3), .val (.int p4), .val (.int p5), .val (.int p6), .val (.int c213), .val (.int c216), .val (.int c219), .val (.int (1 : Int32)), .val (.ref b222), .val (.int (1 : Int32)), .val (.ref wP), .unset, .unset, .unset, .unset, .unset] [])) _
          exact h)
      exact ⟨_, (1 : Int32), wP, X251, e251, k254⟩
    · have k256 : Rch p e below S0 T240 (mkF m 163 #[.val (.int p1), .val (.int p2), .val (.int p3), .val (.int p4), .val (.int p5), .val (.int p6), .val (.int c213), .val (.int c216), .val (.int c219), .val (.int (1 : Int32)), .val (.ref b222), .val (.int (2 : Int32)), .unset, .unset, .unset, .unset, .unset, .unset] []) := fun t h => k246 t (by
          show Steps p.tables e below (T240.setTop (mkF m 127 #[.val (.int p1), .val (.int p2), .val (.int p3), .val (.int p4), .val (.int p5), .val (.int p6), .val (.int c213), .val (.int c216), .val (.int c219), .val (.int (1 : Int32)), .val (.ref b222), .unset, .unset, .unset, .unset, .unset, .unset, .unset] [])) _
          refine XS.iload X240.here hx rfl (hb hby at_127) rfl ?_
          show Steps p.tables e below (T240.setTop (mkF m 129 #[.val (.int p1), .val (.int p2), .val (.int p3), .val (.int p4), .val (.int p5), .val (.int p6), .val (.int c213), .val (.int c216), .val (.int c219), .val (.int (1 : Int32)), .val (.ref b222), .unset, .unset, .unset, .unset, .unset, .unset, .unset] [(.int p5)])) _
          refine X240.ldcInt hx hown (mvT hZ (hw _ (List.mem_of_getElem? (i := 26) rfl))) (g := (mkF m 129 #[.val (.int p1), .val (.int p2), .val (.int p3), .val (.int p4), .val (.int p5), .val (.int p6), .val (.int c213), .val (.int c216), .val (.int c219), .val (.int (1 : Int32)), .val (.ref b222), .unset, .unset, .unset, .unset, .unset, .unset, .unset] [(.int p5)])) rfl (hb hby at_129) _ ?_
          show Steps p.tables e below (T240.setTop (mkF m 131 #[.val (.int p1), .val (.int p2), .val (.int p3), .val (.int p4), .val (.int p5), .val (.int p6), .val (.int c213), .val (.int c216), .val (.int c219), .val (.int (1 : Int32)), .val (.ref b222), .unset, .unset, .unset, .unset, .unset, .unset, .unset] [(.int (2147483647 : Int32)), (.int p5)])) _
          refine XS.iand X240.here hx rfl (hb hby at_131) rfl ?_
          show Steps p.tables e below (T240.setTop (mkF m 132 #[.val (.int p1), .val (.int p2), .val (.int p3), .val (.int p4), .val (.int p5), .val (.int p6), .val (.int c213), .val (.int c216), .val (.int c219), .val (.int (1 : Int32)), .val (.ref b222), .unset, .unset, .unset, .unset, .unset, .unset, .unset] [(.int (p5 &&& (2147483647 : Int32)))])) _
          refine XS.iconst X240.here hx rfl (hb hby at_132) ?_
          show Steps p.tables e below (T240.setTop (mkF m 133 #[.val (.int p1), .val (.int p2), .val (.int p3), .val (.int p4), .val (.int p5), .val (.int p6), .val (.int c213), .val (.int c216), .val (.int c219), .val (.int (1 : Int32)), .val (.ref b222), .unset, .unset, .unset, .unset, .unset, .unset, .unset] [(.int (3 : Int32)), (.int (p5 &&& (2147483647 : Int32)))])) _
          refine iremM X240 hx rfl (hb hby at_133) rfl (by decide) ?_
          rw [hk1]
          show Steps p.tables e below (T240.setTop (mkF m 134 #[.val (.int p1), .val (.int p2), .val (.int p3), .val (.int p4), .val (.int p5), .val (.int p6), .val (.int c213), .val (.int c216), .val (.int c219), .val (.int (1 : Int32)), .val (.ref b222), .unset, .unset, .unset, .unset, .unset, .unset, .unset] [(.int (2 : Int32))])) _
          refine XS.istore X240.here hx rfl (hb hby at_134) rfl (l' := #[.val (.int p1), .val (.int p2), .val (.int p3), .val (.int p4), .val (.int p5), .val (.int p6), .val (.int c213), .val (.int c216), .val (.int c219), .val (.int (1 : Int32)), .val (.ref b222), .val (.int (2 : Int32)), .unset, .unset, .unset, .unset, .unset, .unset]) rfl ?_
          show Steps p.tables e below (T240.setTop (mkF m 136 #[.val (.int p1), .val (.int p2), .val (.int p3), .val (.int p4), .val (.int p5), .val (.int p6), .val (.int c213), .val (.int c216), .val (.int c219), .val (.int (1 : Int32)), .val (.ref b222), .val (.int (2 : Int32)), .unset, .unset, .unset, .unset, .unset, .unset] [])) _
          refine XS.iload X240.here hx rfl (hb hby at_136) rfl ?_
          show Steps p.tables e below (T240.setTop (mkF m 138 #[.val (.int p1), .val (.int p2), .val (.int p3), .val (.int p4), .val (.int p5), .val (.int p6), .val (.int c213), .val (.int c216), .val (.int c219), .val (.int (1 : Int32)), .val (.ref b222), .val (.int (2 : Int32)), .unset, .unset, .unset, .unset, .unset, .unset] [(.int (2 : Int32))])) _
          refine XS.ifYes X240.here hx rfl (pc0 := 138) (pc' := 149) rfl (hb hby at_138) rfl ((if0 _ _).trans (feq (by decide : ¬ ((2 : Int32) = (0 : Int32)))).2) (by decide) (by decide) ?_
          show Steps p.tables e below (T240.setTop (mkF m 149 #[.val (.int p1), .val (.int p2), .val (.int p3), .val (.int p4), .val (.int p5), .val (.int p6), .val (.int c213), .val (.int c216), .val (.int c219), .val (.int (1 : Int32)), .val (.ref b222), .val (.int (2 : Int32)), .unset, .unset, .unset, .unset, .unset, .unset] [])) _
          refine XS.iload X240.here hx rfl (hb hby at_149) rfl ?_
          show Steps p.tables e below (T240.setTop (mkF m 151 #[.val (.int p1), .val (.int p2), .val (.int p3), .val (.int p4), .val (.int p5), .val (.int p6), .val (.int c213), .val (.int c216), .val (.int c219), .val (.int (1 : Int32)), .val (.ref b222), .val (.int (2 : Int32)), .unset, .unset, .unset, .unset, .unset, .unset] [(.int (2 : Int32))])) _
          refine XS.iconst X240.here hx rfl (hb hby at_151) ?_
          show Steps p.tables e below (T240.setTop (mkF m 152 #[.val (.int p1), .val (.int p2), .val (.int p3), .val (.int p4), .val (.int p5), .val (.int p6), .val (.int c213), .val (.int c216), .val (.int c219), .val (.int (1 : Int32)), .val (.ref b222), .val (.int (2 : Int32)), .unset, .unset, .unset, .unset, .unset, .unset] [(.int (1 : Int32)), (.int (2 : Int32))])) _
          refine XS.icmpYes X240.here hx rfl (pc0 := 152) (pc' := 163) rfl (hb hby at_152) rfl (feq (by decide : ¬ ((2 : Int32) = (1 : Int32)))).2 (by decide) (by decide) ?_
          show Steps p.tables e below (T240.setTop (mkF m 163 #[.val (.int p1), .val (.int p2), .val (.int p3), .val (.int p4), .val (.int p5), .val (.int p6), .val (.int c213), .val (.int c216), .val (.int c219), .val (.int (1 : Int32)), .val (.ref b222), .val (.int (2 : Int32)), .unset, .unset, .unset, .unset, .unset, .unset] [])) _
          exact h)
      obtain ⟨T255, X255, e255, st255⟩ := getS2 X240 hx hZ hown (host := "") (Or.inl (hw _ (List.mem_of_getElem? (i := 81) rfl))) Via.refl rfl (SA.ext O244.2) (g := (mkF m 163 #[.val (.int p1), .val (.int p2), .val (.int p3), .val (.int p4), .val (.int p5), .val (.int p6), .val (.int c213), .val (.int c216), .val (.int c219), .val (.int (1 : Int32)), .val (.ref b222), .val (.int (2 : Int32)), .unset, .unset, .unset, .unset, .unset, .unset] [])) rfl (hb hby at_163)
      have k257 : Rch p e below S0 T255 (mkF m 166 #[.val (.int p1), .val (.int p2), .val (.int p3), .val (.int p4), .val (.int p5), .val (.int p6), .val (.int c213), .val (.int c216), .val (.int c219), .val (.int (1 : Int32)), .val (.ref b222), .val (.int (2 : Int32)), .unset, .unset, .unset, .unset, .unset, .unset] [(.ref wA)]) := fun t h => k256 t (st255 t h)
      have k258 : Rch p e below S0 T255 (mkF m 168 #[.val (.int p1), .val (.int p2), .val (.int p3), .val (.int p4), .val (.int p5), .val (.int p6), .val (.int c213), .val (.int c216), .val (.int c219), .val (.int (1 : Int32)), .val (.ref b222), .val (.int (2 : Int32)), .val (.ref wA), .unset, .unset, .unset, .unset, .unset] []) := fun t h => k257 t (by
          show Steps p.tables e below (T255.setTop (mkF m 166 #[.val (.int p1), .val (.int p2), .val (.int p3), .val (.int p4), .val (.int p5), .val (.int p6), .val (.int c213), .val (.int c216), .val (.int c219), .val (.int (1 : Int32)), .val (.ref b222), .val (.int (2 : Int32)), .unset, .unset, .unset, .unset, .unset, .unset] [(.ref wA)])) _
          refine XS.astore X255.here hx rfl (hb hby at_166) rfl rfl (l' := #[.val (.int p1), .val (.int p2), .val (.int p3), .val (.int p4), .val (.int p5), .val (.int p6), .val (.int c213), .val (.int c216), .val (.int c219), .val (.int (1 : Int32)), .val (.ref b222), .val (.int (2 : Int32)), .val (.ref wA), .unset, .unset, .unset, .unset, .unset]) rfl ?_
          show Steps p.tables e below (T255.setTop (mkF m 168 #[.val (.int p1), .val (.int p2), .val (.int p3), .val (.int p4), .val (.int p5), .val (.int p6), .val (.int c213), .val (.int c216), .val (.int c219), .val (.int (1 : Int32)), .val (.ref b222), .val (.int (2 : Int32)), .val (.ref wA), .unset, .unset, .unset, .unset, .unset] [])) _
          exact h)
      exact ⟨_, (2 : Int32), wA, X255, e255, k258⟩
  replace X259 := X259.out
  have k260 : Rch p e below S0 T259 (mkF m 178 #[.val (.int p1), .val (.int p2), .val (.int p3), .val (.int p4), .val (.int p5), .val (.int p6), .val (.int c213), .val (.int c216), .val (.int c219), .val (.int (1 : Int32)), .val (.ref b222), .val (.int kk), .val (.ref wK), .unset, .unset, .unset, .unset, .unset] [(.int (((p6.toUInt32 >>> ((18 : Int32) &&& 31).toUInt32).toInt32) &&& (255 : Int32)))]) := fun t h => k259 t (by
      show Steps p.tables e below (T259.setTop (mkF m 168 #[.val (.int p1), .val (.int p2), .val (.int p3), .val (.int p4), .val (.int p5), .val (.int p6), .val (.int c213), .val (.int c216), .val (.int c219), .val (.int (1 : Int32)), .val (.ref b222), .val (.int kk), .val (.ref wK), .unset, .unset, .unset, .unset, .unset] [])) _
      refine XS.iload X259.here hx rfl (hb hby at_168) rfl ?_
      show Steps p.tables e below (T259.setTop (mkF m 170 #[.val (.int p1), .val (.int p2), .val (.int p3), .val (.int p4), .val (.int p5), .val (.int p6), .val (.int c213), .val (.int c216), .val (.int c219), .val (.int (1 : Int32)), .val (.ref b222), .val (.int kk), .val (.ref wK), .unset, .unset, .unset, .unset, .unset] [(.int p6)])) _
      refine XS.bipush X259.here hx rfl (hb hby at_170) ?_
      show Steps p.tables e below (T259.setTop (mkF m 172 #[.val (.int p1), .val (.int p2), .val (.int p3), .val (.int p4), .val (.int p5), .val (.int p6), .val (.int c213), .val (.int c216), .val (.int c219), .val (.int (1 : Int32)), .val (.ref b222), .val (.int kk), .val (.ref wK), .unset, .unset, .unset, .unset, .unset] [(.int (18 : Int32)), (.int p6)])) _
      refine XS.iushr X259.here hx rfl (hb hby at_172) rfl ?_
      show Steps p.tables e below (T259.setTop (mkF m 173 #[.val (.int p1), .val (.int p2), .val (.int p3), .val (.int p4), .val (.int p5), .val (.int p6), .val (.int c213), .val (.int c216), .val (.int c219), .val (.int (1 : Int32)), .val (.ref b222), .val (.int kk), .val (.ref wK), .unset, .unset, .unset, .unset, .unset] [(.int ((p6.toUInt32 >>> ((18 : Int32) &&& 31).toUInt32).toInt32))])) _
      refine XS.sipush X259.here hx rfl (hb hby at_173) ?_
      show Steps p.tables e below (T259.setTop (mkF m 176 #[.val (.int p1), .val (.int p2), .val (.int p3), .val (.int p4), .val (.int p5), .val (.int p6), .val (.int c213), .val (.int c216), .val (.int c219), .val (.int (1 : Int32)), .val (.ref b222), .val (.int kk), .val (.ref wK), .unset, .unset, .unset, .unset, .unset] [(.int (255 : Int32)), (.int ((p6.toUInt32 >>> ((18 : Int32) &&& 31).toUInt32).toInt32))])) _
      refine XS.iand X259.here hx rfl (hb hby at_176) rfl ?_
      show Steps p.tables e below (T259.setTop (mkF m 177 #[.val (.int p1), .val (.int p2), .val (.int p3), .val (.int p4), .val (.int p5), .val (.int p6), .val (.int c213), .val (.int c216), .val (.int c219), .val (.int (1 : Int32)), .val (.ref b222), .val (.int kk), .val (.ref wK), .unset, .unset, .unset, .unset, .unset] [(.int (((p6.toUInt32 >>> ((18 : Int32) &&& 31).toUInt32).toInt32) &&& (255 : Int32)))])) _
      refine XS.i2c X259.here hx rfl (hb hby at_177) rfl ?_
      rw [(own_nar (((p6.toUInt32 >>> ((18 : Int32) &&& 31).toUInt32).toInt32) &&& (255 : Int32)) (own_255 ((p6.toUInt32 >>> ((18 : Int32) &&& 31).toUInt32).toInt32))).2]
      show Steps p.tables e below (T259.setTop (mkF m 178 #[.val (.int p1), .val (.int p2), .val (.int p3), .val (.int p4), .val (.int p5), .val (.int p6), .val (.int c213), .val (.int c216), .val (.int c219), .val (.int (1 : Int32)), .val (.ref b222), .val (.int kk), .val (.ref wK), .unset, .unset, .unset, .unset, .unset] [(.int (((p6.toUInt32 >>> ((18 : Int32) &&& 31).toUInt32).toInt32) &&& (255 : Int32)))])) _
      exact h)
  obtain ⟨_, _, ⟨T261, L261, kk261, n261⟩, -, X261, ⟨Lc261, hQ261, l261, y261, z261⟩, st261⟩ := Jvm.LawKit.callS X259 hx (y := (⟨"java/lang/String", "valueOf", "(C)Ljava/lang/String;"⟩ : MethodName)) hown (mvT hZ (hw _ (List.mem_of_getElem? (i := 30) rfl))) (mvT hZ (hw _ (List.mem_of_getElem? (i := 31) rfl))) (mvT hZ (hw _ (List.mem_of_getElem? (i := 6) rfl))) (mvT hZ (hw _ (List.mem_of_getElem? (i := 32) rfl))) (by decide) (backOf (W := 0) (rmVO l Z a0 hw [] (((p6.toUInt32 >>> ((18 : Int32) &&& 31).toUInt32).toInt32) &&& (255 : Int32)) zC T240.heap n0 O244 SC hzC (own_255 ((p6.toUInt32 >>> ((18 : Int32) &&& 31).toUInt32).toInt32)).2) hZ (hw _ (List.mem_of_getElem? (i := 32) rfl)) (hw _ (List.mem_of_getElem? (i := 6) rfl)) (by decide) (by decide)) (g := (mkF m 178 #[.val (.int p1), .val (.int p2), .val (.int p3), .val (.int p4), .val (.int p5), .val (.int p6), .val (.int c213), .val (.int c216), .val (.int c219), .val (.int (1 : Int32)), .val (.ref b222), .val (.int kk), .val (.ref wK), .unset, .unset, .unset, .unset, .unset] [(.int (((p6.toUInt32 >>> ((18 : Int32) &&& 31).toUInt32).toInt32) &&& (255 : Int32)))])) rfl (by rw [hml]; rfl) (argsL := [(.int (((p6.toUInt32 >>> ((18 : Int32) &&& 31).toUInt32).toInt32) &&& (255 : Int32)))]) (rest := []) (lenOf pd_4 rfl) rfl (by show 2 * 0 + _ ≤ _; exact Nat.le_of_eq rfl) (hb hby at_178) (fun _ _ => ⟨rfl, e259, (by decide : 3 + 2 ≤ _), (by decide : 6 + 5 ≤ _)⟩)
  dsimp only [Pt.U, Pt.locs, Pt.cells, Pt.slots] at X261 l261 y261 z261 st261 hQ261
  subst l261 y261 z261
  obtain ⟨b261, rfl, Nq261, E261, z261, X261E⟩ := hQ261
  have N261 := Fr.app N240 Nq261
  have k262 : Rch p e below S0 T261 (mkF m 181 #[.val (.int p1), .val (.int p2), .val (.int p3), .val (.int p4), .val (.int p5), .val (.int p6), .val (.int c213), .val (.int c216), .val (.int c219), .val (.int (1 : Int32)), .val (.ref b222), .val (.int kk), .val (.ref wK), .unset, .unset, .unset, .unset, .unset] [(.ref b261)]) := fun t h => k260 t (st261 t h)
  replace sf_b222 := Safe.ext E261 hC242 sf_b222
  replace sf_b228 := Safe.ext E261 hC242 sf_b228
  have hC263 := hC242.ext E261
  have rC263 := rC242.trans (CHr.ext E261 hC242)
  have O264 := O244.ext E261
  replace E_b222 := E_b222.ext E261
  replace Vb240 := Vb240.ext E261
  replace Cb240 := Cb240.ext E261
  replace V_b228 := V_b228.ext E261
  replace Ab240 := Ab240.ext E261
  have hkk265 := Nat.le_trans hkk245 E261.1
  have k266 : Rch p e below S0 T261 (mkF m 185 #[.val (.int p1), .val (.int p2), .val (.int p3), .val (.int p4), .val (.int p5), .val (.int p6), .val (.int c213), .val (.int c216), .val (.int c219), .val (.int (1 : Int32)), .val (.ref b222), .val (.int kk), .val (.ref wK), .val (.ref b261), .unset, .unset, .unset, .unset] [(.int p6)]) := fun t h => k262 t (by
      show Steps p.tables e below (T261.setTop (mkF m 181 #[.val (.int p1), .val (.int p2), .val (.int p3), .val (.int p4), .val (.int p5), .val (.int p6), .val (.int c213), .val (.int c216), .val (.int c219), .val (.int (1 : Int32)), .val (.ref b222), .val (.int kk), .val (.ref wK), .unset, .unset, .unset, .unset, .unset] [(.ref b261)])) _
      refine XS.astore X261.here hx rfl (hb hby at_181) rfl rfl (l' := #[.val (.int p1), .val (.int p2), .val (.int p3), .val (.int p4), .val (.int p5), .val (.int p6), .val (.int c213), .val (.int c216), .val (.int c219), .val (.int (1 : Int32)), .val (.ref b222), .val (.int kk), .val (.ref wK), .val (.ref b261), .unset, .unset, .unset, .unset]) rfl ?_
      show Steps p.tables e below (T261.setTop (mkF m 183 #[.val (.int p1), .val (.int p2), .val (.int p3), .val (.int p4), .val (.int p5), .val (.int p6), .val (.int c213), .val (.int c216), .val (.int c219), .val (.int (1 : Int32)), .val (.ref b222), .val (.int kk), .val (.ref wK), .val (.ref b261), .unset, .unset, .unset, .unset] [])) _
      refine XS.iload X261.here hx rfl (hb hby at_183) rfl ?_
      show Steps p.tables e below (T261.setTop (mkF m 185 #[.val (.int p1), .val (.int p2), .val (.int p3), .val (.int p4), .val (.int p5), .val (.int p6), .val (.int c213), .val (.int c216), .val (.int c219), .val (.int (1 : Int32)), .val (.ref b222), .val (.int kk), .val (.ref wK), .val (.ref b261), .unset, .unset, .unset, .unset] [(.int p6)])) _
      exact h)
  obtain ⟨_, _, ⟨T267, L267, kk267, n267⟩, -, X267, ⟨Lc267, hQ267, l267, y267, z267⟩, st267⟩ := Jvm.LawKit.callS X261 hx (y := (⟨"com/example/suretygate/suretygate/rolemodel/CabinetFunctionIsSigningPinLaw", "pick", "(I)C"⟩ : MethodName)) hown (mvT hZ (hw _ (List.mem_of_getElem? (i := 0) rfl))) (mvT hZ (hw _ (List.mem_of_getElem? (i := 1) rfl))) (mvT hZ (hw _ (List.mem_of_getElem? (i := 2) rfl))) (mvT hZ (hw _ (List.mem_of_getElem? (i := 3) rfl))) (by decide) (backOf (W := 0) (rmP l Z a0 hw [] p6  T261.heap n0 O264 ) hZ (hw _ (List.mem_of_getElem? (i := 3) rfl)) (hw _ (List.mem_of_getElem? (i := 2) rfl)) (by decide) (by decide)) (g := (mkF m 185 #[.val (.int p1), .val (.int p2), .val (.int p3), .val (.int p4), .val (.int p5), .val (.int p6), .val (.int c213), .val (.int c216), .val (.int c219), .val (.int (1 : Int32)), .val (.ref b222), .val (.int kk), .val (.ref wK), .val (.ref b261), .unset, .unset, .unset, .unset] [(.int p6)])) rfl (by rw [hml]; rfl) (argsL := [(.int p6)]) (rest := []) (lenOf pd_0 rfl) rfl (by show 2 * 0 + _ ≤ _; exact Nat.le_of_eq rfl) (hb hby at_185) (fun _ _ => ⟨rfl, rfl, (by decide : 5 + 0 ≤ _), (by decide : 11 + 0 ≤ _)⟩)
  dsimp only [Pt.U, Pt.locs, Pt.cells, Pt.slots] at X267 l267 y267 z267 st267 hQ267
  subst l267 y267 z267
  obtain ⟨c267, rfl, Nq267, hh267, hc267⟩ := hQ267
  have N267 := Fr.app N261 Nq267
  have k268 : Rch p e below S0 T267 (mkF m 188 #[.val (.int p1), .val (.int p2), .val (.int p3), .val (.int p4), .val (.int p5), .val (.int p6), .val (.int c213), .val (.int c216), .val (.int c219), .val (.int (1 : Int32)), .val (.ref b222), .val (.int kk), .val (.ref wK), .val (.ref b261), .unset, .unset, .unset, .unset] [(.int c267)]) := fun t h => k266 t (st267 t h)
  obtain ⟨_, _, ⟨T269, L269, kk269, n269⟩, -, X269, ⟨Lc269, hQ269, l269, y269, z269⟩, st269⟩ := Jvm.LawKit.callS X267 hx (y := (⟨"java/lang/String", "valueOf", "(C)Ljava/lang/String;"⟩ : MethodName)) hown (mvT hZ (hw _ (List.mem_of_getElem? (i := 30) rfl))) (mvT hZ (hw _ (List.mem_of_getElem? (i := 31) rfl))) (mvT hZ (hw _ (List.mem_of_getElem? (i := 6) rfl))) (mvT hZ (hw _ (List.mem_of_getElem? (i := 32) rfl))) (by decide) (backOf (W := 0) (rmVO l Z a0 hw [] c267 zC T261.heap n0 O264 SC hzC hc267.2) hZ (hw _ (List.mem_of_getElem? (i := 32) rfl)) (hw _ (List.mem_of_getElem? (i := 6) rfl)) (by decide) (by decide)) (g := (mkF m 188 #[.val (.int p1), .val (.int p2), .val (.int p3), .val (.int p4), .val (.int p5), .val (.int p6), .val (.int c213), .val (.int c216), .val (.int c219), .val (.int (1 : Int32)), .val (.ref b222), .val (.int kk), .val (.ref wK), .val (.ref b261), .unset, .unset, .unset, .unset] [(.int c267)])) rfl (by rw [hml]; rfl) (argsL := [(.int c267)]) (rest := []) (lenOf pd_4 rfl) rfl (by show 2 * 0 + _ ≤ _; exact Nat.le_of_eq rfl) (hb hby at_188) (fun _ _ => ⟨rfl, hh267, (by decide : 5 + 2 ≤ _), (by decide : 11 + 5 ≤ _)⟩)
  dsimp only [Pt.U, Pt.locs, Pt.cells, Pt.slots] at X269 l269 y269 z269 st269 hQ269
  subst l269 y269 z269
  obtain ⟨b269, rfl, Nq269, E269, z269, X269E⟩ := hQ269
  have N269 := Fr.app N267 Nq269
  have k270 : Rch p e below S0 T269 (mkF m 191 #[.val (.int p1), .val (.int p2), .val (.int p3), .val (.int p4), .val (.int p5), .val (.int p6), .val (.int c213), .val (.int c216), .val (.int c219), .val (.int (1 : Int32)), .val (.ref b222), .val (.int kk), .val (.ref wK), .val (.ref b261), .unset, .unset, .unset, .unset] [(.ref b269)]) := fun t h => k268 t (st269 t h)
  replace sf_b222 := Safe.ext E269 hC263 sf_b222
  replace sf_b228 := Safe.ext E269 hC263 sf_b228
  have hC271 := hC263.ext E269
  have rC271 := rC263.trans (CHr.ext E269 hC263)
  have O272 := O264.ext E269
  replace E_b222 := E_b222.ext E269
  replace Vb240 := Vb240.ext E269
  replace Cb240 := Cb240.ext E269
  replace V_b228 := V_b228.ext E269
  replace Ab240 := Ab240.ext E269
  replace X261E := X261E.ext E269
  have hkk273 := Nat.le_trans hkk265 E269.1
  have k274 : Rch p e below S0 T269 (mkF m 198 #[.val (.int p1), .val (.int p2), .val (.int p3), .val (.int p4), .val (.int p5), .val (.int p6), .val (.int c213), .val (.int c216), .val (.int c219), .val (.int (1 : Int32)), .val (.ref b222), .val (.int kk), .val (.ref wK), .val (.ref b261), .val (.ref b269), .unset, .unset, .unset] [(.int ((p6.toUInt32 >>> ((9 : Int32) &&& 31).toUInt32).toInt32))]) := fun t h => k270 t (by
      show Steps p.tables e below (T269.setTop (mkF m 191 #[.val (.int p1), .val (.int p2), .val (.int p3), .val (.int p4), .val (.int p5), .val (.int p6), .val (.int c213), .val (.int c216), .val (.int c219), .val (.int (1 : Int32)), .val (.ref b222), .val (.int kk), .val (.ref wK), .val (.ref b261), .unset, .unset, .unset, .unset] [(.ref b269)])) _
      refine XS.astore X269.here hx rfl (hb hby at_191) rfl rfl (l' := #[.val (.int p1), .val (.int p2), .val (.int p3), .val (.int p4), .val (.int p5), .val (.int p6), .val (.int c213), .val (.int c216), .val (.int c219), .val (.int (1 : Int32)), .val (.ref b222), .val (.int kk), .val (.ref wK), .val (.ref b261), .val (.ref b269), .unset, .unset, .unset]) rfl ?_
      show Steps p.tables e below (T269.setTop (mkF m 193 #[.val (.int p1), .val (.int p2), .val (.int p3), .val (.int p4), .val (.int p5), .val (.int p6), .val (.int c213), .val (.int c216), .val (.int c219), .val (.int (1 : Int32)), .val (.ref b222), .val (.int kk), .val (.ref wK), .val (.ref b261), .val (.ref b269), .unset, .unset, .unset] [])) _
      refine XS.iload X269.here hx rfl (hb hby at_193) rfl ?_
      show Steps p.tables e below (T269.setTop (mkF m 195 #[.val (.int p1), .val (.int p2), .val (.int p3), .val (.int p4), .val (.int p5), .val (.int p6), .val (.int c213), .val (.int c216), .val (.int c219), .val (.int (1 : Int32)), .val (.ref b222), .val (.int kk), .val (.ref wK), .val (.ref b261), .val (.ref b269), .unset, .unset, .unset] [(.int p6)])) _
      refine XS.bipush X269.here hx rfl (hb hby at_195) ?_
      show Steps p.tables e below (T269.setTop (mkF m 197 #[.val (.int p1), .val (.int p2), .val (.int p3), .val (.int p4), .val (.int p5), .val (.int p6), .val (.int c213), .val (.int c216), .val (.int c219), .val (.int (1 : Int32)), .val (.ref b222), .val (.int kk), .val (.ref wK), .val (.ref b261), .val (.ref b269), .unset, .unset, .unset] [(.int (9 : Int32)), (.int p6)])) _
      refine XS.iushr X269.here hx rfl (hb hby at_197) rfl ?_
      show Steps p.tables e below (T269.setTop (mkF m 198 #[.val (.int p1), .val (.int p2), .val (.int p3), .val (.int p4), .val (.int p5), .val (.int p6), .val (.int c213), .val (.int c216), .val (.int c219), .val (.int (1 : Int32)), .val (.ref b222), .val (.int kk), .val (.ref wK), .val (.ref b261), .val (.ref b269), .unset, .unset, .unset] [(.int ((p6.toUInt32 >>> ((9 : Int32) &&& 31).toUInt32).toInt32))])) _
      exact h)
  obtain ⟨_, _, ⟨T275, L275, kk275, n275⟩, -, X275, ⟨Lc275, hQ275, l275, y275, z275⟩, st275⟩ := Jvm.LawKit.callS X269 hx (y := (⟨"com/example/suretygate/suretygate/rolemodel/CabinetFunctionIsSigningPinLaw", "pick", "(I)C"⟩ : MethodName)) hown (mvT hZ (hw _ (List.mem_of_getElem? (i := 0) rfl))) (mvT hZ (hw _ (List.mem_of_getElem? (i := 1) rfl))) (mvT hZ (hw _ (List.mem_of_getElem? (i := 2) rfl))) (mvT hZ (hw _ (List.mem_of_getElem? (i := 3) rfl))) (by decide) (backOf (W := 0) (rmP l Z a0 hw [] ((p6.toUInt32 >>> ((9 : Int32) &&& 31).toUInt32).toInt32)  T269.heap n0 O272 ) hZ (hw _ (List.mem_of_getElem? (i := 3) rfl)) (hw _ (List.mem_of_getElem? (i := 2) rfl)) (by decide) (by decide)) (g := (mkF m 198 #[.val (.int p1), .val (.int p2), .val (.int p3), .val (.int p4), .val (.int p5), .val (.int p6), .val (.int c213), .val (.int c216), .val (.int c219), .val (.int (1 : Int32)), .val (.ref b222), .val (.int kk), .val (.ref wK), .val (.ref b261), .val (.ref b269), .unset, .unset, .unset] [(.int ((p6.toUInt32 >>> ((9 : Int32) &&& 31).toUInt32).toInt32))])) rfl (by rw [hml]; rfl) (argsL := [(.int ((p6.toUInt32 >>> ((9 : Int32) &&& 31).toUInt32).toInt32))]) (rest := []) (lenOf pd_0 rfl) rfl (by show 2 * 0 + _ ≤ _; exact Nat.le_of_eq rfl) (hb hby at_198) (fun _ _ => ⟨rfl, rfl, (by decide : 7 + 0 ≤ _), (by decide : 16 + 0 ≤ _)⟩)
  dsimp only [Pt.U, Pt.locs, Pt.cells, Pt.slots] at X275 l275 y275 z275 st275 hQ275
  subst l275 y275 z275
  obtain ⟨c275, rfl, Nq275, hh275, hc275⟩ := hQ275
  have N275 := Fr.app N269 Nq275
  have k276 : Rch p e below S0 T275 (mkF m 201 #[.val (.int p1), .val (.int p2), .val (.int p3), .val (.int p4), .val (.int p5), .val (.int p6), .val (.int c213), .val (.int c216), .val (.int c219), .val (.int (1 : Int32)), .val (.ref b222), .val (.int kk), .val (.ref wK), .val (.ref b261), .val (.ref b269), .unset, .unset, .unset] [(.int c275)]) := fun t h => k274 t (st275 t h)
  obtain ⟨_, _, ⟨T277, L277, kk277, n277⟩, -, X277, ⟨Lc277, hQ277, l277, y277, z277⟩, st277⟩ := Jvm.LawKit.callS X275 hx (y := (⟨"java/lang/String", "valueOf", "(C)Ljava/lang/String;"⟩ : MethodName)) hown (mvT hZ (hw _ (List.mem_of_getElem? (i := 30) rfl))) (mvT hZ (hw _ (List.mem_of_getElem? (i := 31) rfl))) (mvT hZ (hw _ (List.mem_of_getElem? (i := 6) rfl))) (mvT hZ (hw _ (List.mem_of_getElem? (i := 32) rfl))) (by decide) (backOf (W := 0) (rmVO l Z a0 hw [] c275 zC T269.heap n0 O272 SC hzC hc275.2) hZ (hw _ (List.mem_of_getElem? (i := 32) rfl)) (hw _ (List.mem_of_getElem? (i := 6) rfl)) (by decide) (by decide)) (g := (mkF m 201 #[.val (.int p1), .val (.int p2), .val (.int p3), .val (.int p4), .val (.int p5), .val (.int p6), .val (.int c213), .val (.int c216), .val (.int c219), .val (.int (1 : Int32)), .val (.ref b222), .val (.int kk), .val (.ref wK), .val (.ref b261), .val (.ref b269), .unset, .unset, .unset] [(.int c275)])) rfl (by rw [hml]; rfl) (argsL := [(.int c275)]) (rest := []) (lenOf pd_4 rfl) rfl (by show 2 * 0 + _ ≤ _; exact Nat.le_of_eq rfl) (hb hby at_201) (fun _ _ => ⟨rfl, hh275, (by decide : 7 + 2 ≤ _), (by decide : 16 + 5 ≤ _)⟩)
  dsimp only [Pt.U, Pt.locs, Pt.cells, Pt.slots] at X277 l277 y277 z277 st277 hQ277
  subst l277 y277 z277
  obtain ⟨b277, rfl, Nq277, E277, z277, X277E⟩ := hQ277
  have N277 := Fr.app N275 Nq277
  have k278 : Rch p e below S0 T277 (mkF m 204 #[.val (.int p1), .val (.int p2), .val (.int p3), .val (.int p4), .val (.int p5), .val (.int p6), .val (.int c213), .val (.int c216), .val (.int c219), .val (.int (1 : Int32)), .val (.ref b222), .val (.int kk), .val (.ref wK), .val (.ref b261), .val (.ref b269), .unset, .unset, .unset] [(.ref b277)]) := fun t h => k276 t (st277 t h)
  replace sf_b222 := Safe.ext E277 hC271 sf_b222
  replace sf_b228 := Safe.ext E277 hC271 sf_b228
  have hC279 := hC271.ext E277
  have rC279 := rC271.trans (CHr.ext E277 hC271)
  have O280 := O272.ext E277
  replace E_b222 := E_b222.ext E277
  replace Vb240 := Vb240.ext E277
  replace Cb240 := Cb240.ext E277
  replace V_b228 := V_b228.ext E277
  replace Ab240 := Ab240.ext E277
  replace X261E := X261E.ext E277
  replace X269E := X269E.ext E277
  have hkk281 := Nat.le_trans hkk273 E277.1
  have k283 : Rch p e below S0 T277 (mkF m 206 #[.val (.int p1), .val (.int p2), .val (.int p3), .val (.int p4), .val (.int p5), .val (.int p6), .val (.int c213), .val (.int c216), .val (.int c219), .val (.int (1 : Int32)), .val (.ref b222), .val (.int kk), .val (.ref wK), .val (.ref b261), .val (.ref b269), .val (.ref b277), .unset, .unset] []) := fun t h => k278 t (by
      show Steps p.tables e below (T277.setTop (mkF m 204 #[.val (.int p1), .val (.int p2), .val (.int p3), .val (.int p4), .val (.int p5), .val (.int p6), .val (.int c213), .val (.int c216), .val (.int c219), .val (.int (1 : Int32)), .val (.ref b222), .val (.int kk), .val (.ref wK), .val (.ref b261), .val (.ref b269), .unset, .unset, .unset] [(.ref b277)])) _
      refine XS.astore X277.here hx rfl (hb hby at_204) rfl rfl (l' := #[.val (.int p1), .val (.int p2), .val (.int p3), .val (.int p4), .val (.int p5), .val (.int p6), .val (.int c213), .val (.int c216), .val (.int c219), .val (.int (1 : Int32)), .val (.ref b222), .val (.int kk), .val (.ref wK), .val (.ref b261), .val (.ref b269), .val (.ref b277), .unset, .unset]) rfl ?_
      show Steps p.tables e below (T277.setTop (mkF m 206 #[.val (.int p1), .val (.int p2), .val (.int p3), .val (.int p4), .val (.int p5), .val (.int p6), .val (.int c213), .val (.int c216), .val (.int c219), .val (.int (1 : Int32)), .val (.ref b222), .val (.int kk), .val (.ref wK), .val (.ref b261), .val (.ref b269), .val (.ref b277), .unset, .unset] [])) _
      exact h)
  obtain ⟨T282, h282, X282, e282, E282, A282, D282, -, st282⟩ := newO X277 hx hZ hown (hw _ (List.mem_of_getElem? (i := 45) rfl)) (hw _ (List.mem_of_getElem? (i := 46) rfl)) (hw _ (List.mem_of_getElem? (i := 47) rfl)) rfl (g := (mkF m 206 #[.val (.int p1), .val (.int p2), .val (.int p3), .val (.int p4), .val (.int p5), .val (.int p6), .val (.int c213), .val (.int c216), .val (.int c219), .val (.int (1 : Int32)), .val (.ref b222), .val (.int kk), .val (.ref wK), .val (.ref b261), .val (.ref b269), .val (.ref b277), .unset, .unset] [])) rfl (hb hby at_206) (by decide) (by decide)
  obtain ⟨b282, g282⟩ : ∃ z, z = T277.heap.size := ⟨_, rfl⟩
  rw [← g282] at A282 D282 st282
  have k284 : Rch p e below S0 T282 (mkF m 209 #[.val (.int p1), .val (.int p2), .val (.int p3), .val (.int p4), .val (.int p5), .val (.int p6), .val (.int c213), .val (.int c216), .val (.int c219), .val (.int (1 : Int32)), .val (.ref b222), .val (.int kk), .val (.ref wK), .val (.ref b261), .val (.ref b269), .val (.ref b277), .unset, .unset] [(.ref b282)]) := fun t h => k283 t (st282 t h)
  have ne_b222_b282 : b222 ≠ b282 := own_ne E_b222.lt (Nat.le_of_eq g282.symm)
  have ne_b228_b282 : b228 ≠ b282 := own_ne V_b228.lt (Nat.le_of_eq g282.symm)
  have ne_t240_b282 : t240 ≠ b282 := own_ne Ab240.lt (Nat.le_of_eq g282.symm)
  have ne_b261_b282 : b261 ≠ b282 := own_ne X261E.lt (Nat.le_of_eq g282.symm)
  have ne_b269_b282 : b269 ≠ b282 := own_ne X269E.lt (Nat.le_of_eq g282.symm)
  have ne_b277_b282 : b277 ≠ b282 := own_ne X277E.lt (Nat.le_of_eq g282.symm)
  have ge_b282 : n0 ≤ b282 := own_ge O280 (Nat.le_of_eq g282.symm)
  have sf_b282 : Safe Z consts_1 s.vm T277.heap b282 := Safe.new (Nat.le_of_eq g282.symm)
  replace sf_b222 := Safe.ext E282 hC279 sf_b222
  replace sf_b228 := Safe.ext E282 hC279 sf_b228
  replace sf_b282 := Safe.ext E282 hC279 sf_b282
  have hC285 := hC279.ext E282
  have rC285 := rC279.trans (CHr.ext E282 hC279)
  have O286 := O280.ext E282
  replace E_b222 := E_b222.ext E282
  replace Vb240 := Vb240.ext E282
  replace Cb240 := Cb240.ext E282
  replace V_b228 := V_b228.ext E282
  replace Ab240 := Ab240.ext E282
  replace X261E := X261E.ext E282
  replace X269E := X269E.ext E282
  replace X277E := X277E.ext E282
  have hkk287 := Nat.le_trans hkk281 E282.1
  have E_b282 := A282
  have F_b282_name : Fld Z h282 b282 "com/example/suretygate/suretygate/rolemodel/CabinetFunction" "name" "Ljava/lang/String;" .null := D282 (Or.inr (hw _ (List.mem_of_getElem? (i := 58) rfl))) (ty := (.object "java/lang/String")) (by decide)
  have F_b282_kind : Fld Z h282 b282 "com/example/suretygate/suretygate/rolemodel/CabinetFunction" "kind" "Lcom/example/suretygate/suretygate/rolemodel/CabinetFunction$Kind;" .null := D282 (Or.inr (hw _ (List.mem_of_getElem? (i := 60) rfl))) (ty := (.object "com/example/suretygate/suretygate/rolemodel/CabinetFunction$Kind")) (by decide)
  have F_b282_label : Fld Z h282 b282 "com/example/suretygate/suretygate/rolemodel/CabinetFunction" "label" "Ljava/lang/String;" .null := D282 (Or.inr (hw _ (List.mem_of_getElem? (i := 62) rfl))) (ty := (.object "java/lang/String")) (by decide)
  have F_b282_path : Fld Z h282 b282 "com/example/suretygate/suretygate/rolemodel/CabinetFunction" "path" "Ljava/lang/String;" .null := D282 (Or.inr (hw _ (List.mem_of_getElem? (i := 64) rfl))) (ty := (.object "java/lang/String")) (by decide)
  have F_b282_signs : Fld Z h282 b282 "com/example/suretygate/suretygate/rolemodel/CabinetFunction" "signs" "Ljava/lang/String;" .null := D282 (Or.inr (hw _ (List.mem_of_getElem? (i := 66) rfl))) (ty := (.object "java/lang/String")) (by decide)
  have k288 : Rch p e below S0 T282 (mkF m 220 #[.val (.int p1), .val (.int p2), .val (.int p3), .val (.int p4), .val (.int p5), .val (.int p6), .val (.int c213), .val (.int c216), .val (.int c219), .val (.int (1 : Int32)), .val (.ref b222), .val (.int kk), .val (.ref wK), .val (.ref b261), .val (.ref b269), .val (.ref b277), .unset, .unset] [(.ref b222), (.ref b277), (.ref b269), (.ref wK), (.ref b261), (.ref b282), (.ref b282)]) := fun t h => k284 t (by
      show Steps p.tables e below (T282.setTop (mkF m 209 #[.val (.int p1), .val (.int p2), .val (.int p3), .val (.int p4), .val (.int p5), .val (.int p6), .val (.int c213), .val (.int c216), .val (.int c219), .val (.int (1 : Int32)), .val (.ref b222), .val (.int kk), .val (.ref wK), .val (.ref b261), .val (.ref b269), .val (.ref b277), .unset, .unset] [(.ref b282)])) _
      refine XS.dup X282.here hx rfl (hb hby at_209) rfl rfl ?_
      show Steps p.tables e below (T282.setTop (mkF m 210 #[.val (.int p1), .val (.int p2), .val (.int p3), .val (.int p4), .val (.int p5), .val (.int p6), .val (.int c213), .val (.int c216), .val (.int c219), .val (.int (1 : Int32)), .val (.ref b222), .val (.int kk), .val (.ref wK), .val (.ref b261), .val (.ref b269), .val (.ref b277), .unset, .unset] [(.ref b282), (.ref b282)])) _
      refine XS.aload X282.here hx rfl (hb hby at_210) rfl rfl ?_
      show Steps p.tables e below (T282.setTop (mkF m 212 #[.val (.int p1), .val (.int p2), .val (.int p3), .val (.int p4), .val (.int p5), .val (.int p6), .val (.int c213), .val (.int c216), .val (.int c219), .val (.int (1 : Int32)), .val (.ref b222), .val (.int kk), .val (.ref wK), .val (.ref b261), .val (.ref b269), .val (.ref b277), .unset, .unset] [(.ref b261), (.ref b282), (.ref b282)])) _
      refine XS.aload X282.here hx rfl (hb hby at_212) rfl rfl ?_
      show Steps p.tables e below (T282.setTop (mkF m 214 #[.val (.int p1), .val (.int p2), .val (.int p3), .val (.int p4), .val (.int p5), .val (.int p6), .val (.int c213), .val (.int c216), .val (.int c219), .val (.int (1 : Int32)), .val (.ref b222), .val (.int kk), .val (.ref wK), .val (.ref b261), .val (.ref b269), .val (.ref b277), .unset, .unset] [(.ref wK), (.ref b261), (.ref b282), (.ref b282)])) _
      refine XS.aload X282.here hx rfl (hb hby at_214) rfl rfl ?_
      show Steps p.tables e below (T282.setTop (mkF m 216 #[.val (.int p1), .val (.int p2), .val (.int p3), .val (.int p4), .val (.int p5), .val (.int p6), .val (.int c213), .val (.int c216), .val (.int c219), .val (.int (1 : Int32)), .val (.ref b222), .val (.int kk), .val (.ref wK), .val (.ref b261), .val (.ref b269), .val (.ref b277), .unset, .unset] [(.ref b269), (.ref wK), (.ref b261), (.ref b282), (.ref b282)])) _
      refine XS.aload X282.here hx rfl (hb hby at_216) rfl rfl ?_
      show Steps p.tables e below (T282.setTop (mkF m 218 #[.val (.int p1), .val (.int p2), .val (.int p3), .val (.int p4), .val (.int p5), .val (.int p6), .val (.int c213), .val (.int c216), .val (.int c219), .val (.int (1 : Int32)), .val (.ref b222), .val (.int kk), .val (.ref wK), .val (.ref b261), .val (.ref b269), .val (.ref b277), .unset, .unset] [(.ref b277), (.ref b269), (.ref wK), (.ref b261), (.ref b282), (.ref b282)])) _
      refine XS.aload X282.here hx rfl (hb hby at_218) rfl rfl ?_
      show Steps p.tables e below (T282.setTop (mkF m 220 #[.val (.int p1), .val (.int p2), .val (.int p3), .val (.int p4), .val (.int p5), .val (.int p6), .val (.int c213), .val (.int c216), .val (.int c219), .val (.int (1 : Int32)), .val (.ref b222), .val (.int kk), .val (.ref wK), .val (.ref b261), .val (.ref b269), .val (.ref b277), .unset, .unset] [(.ref b222), (.ref b277), (.ref b269), (.ref wK), (.ref b261), (.ref b282), (.ref b282)])) _
      exact h)
  obtain ⟨_, _, ⟨T289, L289, kk289, n289⟩, -, X289, ⟨Lc289, hQ289, l289, y289, z289⟩, st289⟩ := X282.specialBack hx (y := (⟨"com/example/suretygate/suretygate/rolemodel/CabinetFunction", "<init>", "(Ljava/lang/String;Lcom/example/suretygate/suretygate/rolemodel/CabinetFunction$Kind;Ljava/lang/String;Ljava/lang/String;Ljava/lang/String;)V"⟩ : MethodName)) rfl hown (mvT hZ (hw _ (List.mem_of_getElem? (i := 48) rfl))) (mvT hZ (hw _ (List.mem_of_getElem? (i := 49) rfl))) (mvT hZ (hw _ (List.mem_of_getElem? (i := 50) rfl))) (by decide) (backOf (W := 1) (rmN l Z a0 hw [] b282 b261 wK b269 b277 b222  h282 n0 O286 ge_b282 E_b282 F_b282_name F_b282_kind F_b282_label F_b282_path F_b282_signs) hZ (hw _ (List.mem_of_getElem? (i := 50) rfl)) (hw _ (List.mem_of_getElem? (i := 47) rfl)) (by decide) (by decide)) (g := (mkF m 220 #[.val (.int p1), .val (.int p2), .val (.int p3), .val (.int p4), .val (.int p5), .val (.int p6), .val (.int c213), .val (.int c216), .val (.int c219), .val (.int (1 : Int32)), .val (.ref b222), .val (.int kk), .val (.ref wK), .val (.ref b261), .val (.ref b269), .val (.ref b277), .unset, .unset] [(.ref b222), (.ref b277), (.ref b269), (.ref wK), (.ref b261), (.ref b282), (.ref b282)])) rfl (by rw [hml]; rfl) (Steps.refl _) (a := b282) (argsL := [(.ref b261), (.ref wK), (.ref b269), (.ref b277), (.ref b222)]) (rest := [(.ref b282)]) (lenOf pd_8 rfl) rfl (by show 2 * 0 + _ ≤ _; exact Nat.le_of_eq rfl) (hb hby at_220) (fun _ _ => ⟨rfl, e282, (by decide : 10 + 0 ≤ _), (by decide : 26 + 0 ≤ _)⟩)
  dsimp only [Pt.U, Pt.locs, Pt.cells, Pt.slots] at X289 l289 y289 z289 st289 hQ289
  subst l289 y289 z289
  obtain ⟨rfl, Nq289, K289, Fs289⟩ := hQ289
  have N289 := Fr.app N277 Nq289
  have k290 : Rch p e below S0 T289 (mkF m 223 #[.val (.int p1), .val (.int p2), .val (.int p3), .val (.int p4), .val (.int p5), .val (.int p6), .val (.int c213), .val (.int c216), .val (.int c219), .val (.int (1 : Int32)), .val (.ref b222), .val (.int kk), .val (.ref wK), .val (.ref b261), .val (.ref b269), .val (.ref b277), .unset, .unset] [(.ref b282)]) := fun t h => k288 t (st289.trans h)
  have hC291 := hC285.keep K289 (sfS sf_b282 sf0)
  have rC291 := rC285.trans (CHr.keep K289 (sfS sf_b282 sf0) hC285)
  have sfx292 := (sfS sf_b282 sf0)
  replace sf_b222 := Safe.keep K289 sfx292 hC285 sf_b222
  replace sf_b228 := Safe.keep K289 sfx292 hC285 sf_b228
  replace sf_b282 := Safe.keep K289 sfx292 hC285 sf_b282
  have O293 := O286.keep K289 (allS ge_b282 all0)
  replace E_b222 := E_b222.keep K289
  replace Vb240 := Vb240.keep K289 (ninS ne_b222_b282 nin0)
  replace Cb240 := Cb240.keep K289 (ninS ne_b222_b282 nin0)
  replace V_b228 := V_b228.keep K289 (ninS ne_b228_b282 nin0)
  replace Ab240 := Ab240.keep K289 (ninS ne_t240_b282 nin0)
  replace X261E := X261E.keep K289
  replace X269E := X269E.keep K289
  replace X277E := X277E.keep K289
  replace E_b282 := E_b282.keep K289
  have hkk294 := Nat.le_trans hkk287 K289.1
  have k295 : Rch p e below S0 T289 (mkF m 225 #[.val (.int p1), .val (.int p2), .val (.int p3), .val (.int p4), .val (.int p5), .val (.int p6), .val (.int c213), .val (.int c216), .val (.int c219), .val (.int (1 : Int32)), .val (.ref b222), .val (.int kk), .val (.ref wK), .val (.ref b261), .val (.ref b269), .val (.ref b277), .val (.ref b282), .unset] []) := fun t h => k290 t (by
      show Steps p.tables e below (T289.setTop (mkF m 223 #[.val (.int p1), .val (.int p2), .val (.int p3), .val (.int p4), .val (.int p5), .val (.int p6), .val (.int c213), .val (.int c216), .val (.int c219), .val (.int (1 : Int32)), .val (.ref b222), .val (.int kk), .val (.ref wK), .val (.ref b261), .val (.ref b269), .val (.ref b277), .unset, .unset] [(.ref b282)])) _
      refine XS.astore X289.here hx rfl (hb hby at_223) rfl rfl (l' := #[.val (.int p1), .val (.int p2), .val (.int p3), .val (.int p4), .val (.int p5), .val (.int p6), .val (.int c213), .val (.int c216), .val (.int c219), .val (.int (1 : Int32)), .val (.ref b222), .val (.int kk), .val (.ref wK), .val (.ref b261), .val (.ref b269), .val (.ref b277), .val (.ref b282), .unset]) rfl ?_
      show Steps p.tables e below (T289.setTop (mkF m 225 #[.val (.int p1), .val (.int p2), .val (.int p3), .val (.int p4), .val (.int p5), .val (.int p6), .val (.int c213), .val (.int c216), .val (.int c219), .val (.int (1 : Int32)), .val (.ref b222), .val (.int kk), .val (.ref wK), .val (.ref b261), .val (.ref b269), .val (.ref b277), .val (.ref b282), .unset] [])) _
      exact h)
  by_cases hd : c213 = 45
  · have k296 : Rch p e below S0 T289 (mkF m 247 #[.val (.int p1), .val (.int p2), .val (.int p3), .val (.int p4), .val (.int p5), .val (.int p6), .val (.int c213), .val (.int c216), .val (.int c219), .val (.int (1 : Int32)), .val (.ref b222), .val (.int kk), .val (.ref wK), .val (.ref b261), .val (.ref b269), .val (.ref b277), .val (.ref b282), .val (.int (0 : Int32))] [(.ref b282)]) := fun t h => k295 t (by
        show Steps p.tables e below (T289.setTop (mkF m 225 #[.val (.int p1), .val (.int p2), .val (.int p3), .val (.int p4), .val (.int p5), .val (.int p6), .val (.int c213), .val (.int c216), .val (.int c219), .val (.int (1 : Int32)), .val (.ref b222), .val (.int kk), .val (.ref wK), .val (.ref b261), .val (.ref b269), .val (.ref b277), .val (.ref b282), .unset] [])) _
        refine XS.iload X289.here hx rfl (hb hby at_225) rfl ?_
        show Steps p.tables e below (T289.setTop (mkF m 227 #[.val (.int p1), .val (.int p2), .val (.int p3), .val (.int p4), .val (.int p5), .val (.int p6), .val (.int c213), .val (.int c216), .val (.int c219), .val (.int (1 : Int32)), .val (.ref b222), .val (.int kk), .val (.ref wK), .val (.ref b261), .val (.ref b269), .val (.ref b277), .val (.ref b282), .unset] [(.int (1 : Int32))])) _
        refine XS.iconst X289.here hx rfl (hb hby at_227) ?_
        show Steps p.tables e below (T289.setTop (mkF m 228 #[.val (.int p1), .val (.int p2), .val (.int p3), .val (.int p4), .val (.int p5), .val (.int p6), .val (.int c213), .val (.int c216), .val (.int c219), .val (.int (1 : Int32)), .val (.ref b222), .val (.int kk), .val (.ref wK), .val (.ref b261), .val (.ref b269), .val (.ref b277), .val (.ref b282), .unset] [(.int (1 : Int32)), (.int (1 : Int32))])) _
        refine XS.icmpNo X289.here hx rfl (hb hby at_228) rfl (teq (by decide : (1 : Int32) = (1 : Int32))).2 ?_
        show Steps p.tables e below (T289.setTop (mkF m 231 #[.val (.int p1), .val (.int p2), .val (.int p3), .val (.int p4), .val (.int p5), .val (.int p6), .val (.int c213), .val (.int c216), .val (.int c219), .val (.int (1 : Int32)), .val (.ref b222), .val (.int kk), .val (.ref wK), .val (.ref b261), .val (.ref b269), .val (.ref b277), .val (.ref b282), .unset] [])) _
        refine XS.iload X289.here hx rfl (hb hby at_231) rfl ?_
        show Steps p.tables e below (T289.setTop (mkF m 233 #[.val (.int p1), .val (.int p2), .val (.int p3), .val (.int p4), .val (.int p5), .val (.int p6), .val (.int c213), .val (.int c216), .val (.int c219), .val (.int (1 : Int32)), .val (.ref b222), .val (.int kk), .val (.ref wK), .val (.ref b261), .val (.ref b269), .val (.ref b277), .val (.ref b282), .unset] [(.int c213)])) _
        refine XS.bipush X289.here hx rfl (hb hby at_233) ?_
        show Steps p.tables e below (T289.setTop (mkF m 235 #[.val (.int p1), .val (.int p2), .val (.int p3), .val (.int p4), .val (.int p5), .val (.int p6), .val (.int c213), .val (.int c216), .val (.int c219), .val (.int (1 : Int32)), .val (.ref b222), .val (.int kk), .val (.ref wK), .val (.ref b261), .val (.ref b269), .val (.ref b277), .val (.ref b282), .unset] [(.int (45 : Int32)), (.int c213)])) _
        refine XS.icmpYes X289.here hx rfl (pc0 := 235) (pc' := 242) rfl (hb hby at_235) rfl (teq (hd : c213 = (45 : Int32))).1 (by decide) (by decide) ?_
        show Steps p.tables e below (T289.setTop (mkF m 242 #[.val (.int p1), .val (.int p2), .val (.int p3), .val (.int p4), .val (.int p5), .val (.int p6), .val (.int c213), .val (.int c216), .val (.int c219), .val (.int (1 : Int32)), .val (.ref b222), .val (.int kk), .val (.ref wK), .val (.ref b261), .val (.ref b269), .val (.ref b277), .val (.ref b282), .unset] [])) _
        refine XS.iconst X289.here hx rfl (hb hby at_242) ?_
        show Steps p.tables e below (T289.setTop (mkF m 243 #[.val (.int p1), .val (.int p2), .val (.int p3), .val (.int p4), .val (.int p5), .val (.int p6), .val (.int c213), .val (.int c216), .val (.int c219), .val (.int (1 : Int32)), .val (.ref b222), .val (.int kk), .val (.ref wK), .val (.ref b261), .val (.ref b269), .val (.ref b277), .val (.ref b282), .unset] [(.int (0 : Int32))])) _
        refine XS.istore X289.here hx rfl (hb hby at_243) rfl (l' := #[.val (.int p1), .val (.int p2), .val (.int p3), .val (.int p4), .val (.int p5), .val (.int p6), .val (.int c213), .val (.int c216), .val (.int c219), .val (.int (1 : Int32)), .val (.ref b222), .val (.int kk), .val (.ref wK), .val (.ref b261), .val (.ref b269), .val (.ref b277), .val (.ref b282), .val (.int (0 : Int32))]) rfl ?_
        show Steps p.tables e below (T289.setTop (mkF m 245 #[.val (.int p1), .val (.int p2), .val (.int p3), .val (.int p4), .val (.int p5), .val (.int p6), .val (.int c213), .val (.int c216), .val (.int c219), .val (.int (1 : Int32)), .val (.ref b222), .val (.int kk), .val (.ref wK), .val (.ref b261), .val (.ref b269), .val (.ref b277), .val (.ref b282), .val (.int (0 : Int32))] [])) _
        refine XS.aload X289.here hx rfl (hb hby at_245) rfl rfl ?_
        show Steps p.tables e below (T289.setTop (mkF m 247 #[.val (.int p1), .val (.int p2), .val (.int p3), .val (.int p4), .val (.int p5), .val (.int p6), .val (.int c213), .val (.int c216), .val (.int c219), .val (.int (1 : Int32)), .val (.ref b222), .val (.int kk), .val (.ref wK), .val (.ref b261), .val (.ref b269), .val (.ref b277), .val (.ref b282), .val (.int (0 : Int32))] [(.ref b282)])) _
        exact h)
    have hpp : ∀ c ∈ ([c213] : List Int32), ¬ c < 0 ∧ ¬ (255 : Int32) < c := by
      intro c hc
      simp only [List.mem_cons, List.not_mem_nil, or_false] at hc
      rcases hc with rfl
      · exact hc213
    have hcdd : StrChars.Road.CodA [c213] 0 (1 : Int32) (([c213].map (fun c => c.toInt8.toInt32)).map Value.int) := Or.inl ⟨rfl, rfl, rfl, fun c hc => (hpp c hc).2⟩
    obtain ⟨cq297, kq297, q297a, q297b, q297c⟩ := isOf hZ rfl E_b282
    obtain ⟨_, _, ⟨T297, L297, kk297, n297⟩, -, X297, hS297, gr297, ⟨Lc297, hQ297, l297, y297, z297, hR297⟩, st297⟩ := X289.virtualBackS hx (y := (⟨"com/example/suretygate/suretygate/rolemodel/CabinetFunction", "isSigning", "()Z"⟩ : MethodName)) (z := (⟨"com/example/suretygate/suretygate/rolemodel/CabinetFunction", "isSigning", "()Z"⟩ : MethodName)) hown (mvT hZ (hw _ (List.mem_of_getElem? (i := 67) rfl))) (mvT hZ (hw _ (List.mem_of_getElem? (i := 68) rfl))) (notFace_of_selects (args := #[]) (mvT hZ (hw _ (List.mem_of_getElem? (i := 70) rfl)))) (mvT hZ (hw _ (List.mem_of_getElem? (i := 70) rfl))) (mvT hZ (hw _ (List.mem_of_getElem? (i := 69) rfl))) (by decide) (backOfSH (W := 0) (rmG l Z a0 hw [] b282 b222 t240 kb240 (1 : Int32) (([c213].map (fun c => c.toInt8.toInt32)).map Value.int) ([c213]) zC T289.heap n0 O293 SC hzC Fs289 E_b222 Vb240 Cb240 Ab240 hcdd hpp (Nat.le_of_ble_eq_true rfl)) hZ (hw _ (List.mem_of_getElem? (i := 71) rfl)) (hw _ (List.mem_of_getElem? (i := 47) rfl)) (by decide) (by decide) hEL hC291) q297a q297c (g := (mkF m 247 #[.val (.int p1), .val (.int p2), .val (.int p3), .val (.int p4), .val (.int p5), .val (.int p6), .val (.int c213), .val (.int c216), .val (.int c219), .val (.int (1 : Int32)), .val (.ref b222), .val (.int kk), .val (.ref wK), .val (.ref b261), .val (.ref b269), .val (.ref b277), .val (.ref b282), .val (.int (0 : Int32))] [(.ref b282)])) rfl (by rw [hml]; rfl) (Steps.refl _) (argsL := []) (rest := []) (lenOf pd_9 rfl) rfl (by show 2 * 0 + _ ≤ _; exact Nat.le_of_eq rfl) (hb hby at_247) (fun _ _ => ⟨rfl, rfl, (by decide : 10 + 2 ≤ _), (by decide : 26 + 8 ≤ _)⟩)
    dsimp only [Pt.U, Pt.locs, Pt.cells, Pt.slots] at X297 l297 y297 z297 st297 hQ297 hS297 gr297 hR297
    subst l297 y297 z297
    have hZ297 : Z.Warmed39 (s.setVm T297.vm).vm := State.Warmed39.trans (t := (s.setVm s.vm)) hZ hS297.1
    have hown297 : (s.setVm T297.vm).vm.findClass "com/example/suretygate/suretygate/rolemodel/CabinetFunctionIsSigningPinLaw" = some m.cls := by rw [show (s.setVm T297.vm).vm = T297.vm from rfl, hS297.1.alike.findClass]; exact hown
    replace hS297 := foldS hS (by exact hkk294) hS297 gr297
    have hk297 := Nat.le_refl T297.heap.size
    replace X297 : Stand p l e room_1 (s.setVm T297.vm) m #[(.int p1), (.int p2), (.int p3), (.int p4), (.int p5), (.int p6)] below meth c T297 _ _ _ := X297
    obtain ⟨r297, rfl, Nq297, E297, hr297⟩ := hQ297
    have N297 := Fr.app N289 Nq297
    have k298 : Rch p e below S0 T297 (mkF m 250 #[.val (.int p1), .val (.int p2), .val (.int p3), .val (.int p4), .val (.int p5), .val (.int p6), .val (.int c213), .val (.int c216), .val (.int c219), .val (.int (1 : Int32)), .val (.ref b222), .val (.int kk), .val (.ref wK), .val (.ref b261), .val (.ref b269), .val (.ref b277), .val (.ref b282), .val (.int (0 : Int32))] [(.int r297)]) := fun t h => k296 t (st297.trans h)
    replace sf_b222 := hR297.safe E_b222.lt sf_b222
    replace sf_b228 := hR297.safe V_b228.lt sf_b228
    replace sf_b282 := hR297.safe E_b282.lt sf_b282
    have hC299 := hR297.1
    have rC299 := rC291.trans hR297
    have O300 := O293.ext E297
    replace E_b222 := E_b222.ext E297
    replace Vb240 := Vb240.ext E297
    replace Cb240 := Cb240.ext E297
    replace V_b228 := V_b228.ext E297
    replace Ab240 := Ab240.ext E297
    replace X261E := X261E.ext E297
    replace X269E := X269E.ext E297
    replace X277E := X277E.ext E297
    replace E_b282 := E_b282.ext E297
    replace Fs289 := Fs289.ext E297
    obtain rfl : r297 = (0 : Int32) := by
      rcases hr297 with ⟨q, hq⟩ | ⟨q, hq⟩
      · exact q
      · exact absurd (by rw [hd]) hq
    have k301 : Rch p e below S0 T297 (mkF m 260 #[.val (.int p1), .val (.int p2), .val (.int p3), .val (.int p4), .val (.int p5), .val (.int p6), .val (.int c213), .val (.int c216), .val (.int c219), .val (.int (1 : Int32)), .val (.ref b222), .val (.int kk), .val (.ref wK), .val (.ref b261), .val (.ref b269), .val (.ref b277), .val (.ref b282), .val (.int (0 : Int32))] [(.int (1 : Int32))]) := fun t h => k298 t (by
        show Steps p.tables e below (T297.setTop (mkF m 250 #[.val (.int p1), .val (.int p2), .val (.int p3), .val (.int p4), .val (.int p5), .val (.int p6), .val (.int c213), .val (.int c216), .val (.int c219), .val (.int (1 : Int32)), .val (.ref b222), .val (.int kk), .val (.ref wK), .val (.ref b261), .val (.ref b269), .val (.ref b277), .val (.ref b282), .val (.int (0 : Int32))] [(.int (0 : Int32))])) _
        refine XS.iload X297.here hx rfl (hb hby at_250) rfl ?_
        show Steps p.tables e below (T297.setTop (mkF m 252 #[.val (.int p1), .val (.int p2), .val (.int p3), .val (.int p4), .val (.int p5), .val (.int p6), .val (.int c213), .val (.int c216), .val (.int c219), .val (.int (1 : Int32)), .val (.ref b222), .val (.int kk), .val (.ref wK), .val (.ref b261), .val (.ref b269), .val (.ref b277), .val (.ref b282), .val (.int (0 : Int32))] [(.int (0 : Int32)), (.int (0 : Int32))])) _
        refine XS.icmpNo X297.here hx rfl (hb hby at_252) rfl (teq (by decide : (0 : Int32) = (0 : Int32))).2 ?_
        show Steps p.tables e below (T297.setTop (mkF m 255 #[.val (.int p1), .val (.int p2), .val (.int p3), .val (.int p4), .val (.int p5), .val (.int p6), .val (.int c213), .val (.int c216), .val (.int c219), .val (.int (1 : Int32)), .val (.ref b222), .val (.int kk), .val (.ref wK), .val (.ref b261), .val (.ref b269), .val (.ref b277), .val (.ref b282), .val (.int (0 : Int32))] [])) _
        refine XS.iconst X297.here hx rfl (hb hby at_255) ?_
        show Steps p.tables e below (T297.setTop (mkF m 256 #[.val (.int p1), .val (.int p2), .val (.int p3), .val (.int p4), .val (.int p5), .val (.int p6), .val (.int c213), .val (.int c216), .val (.int c219), .val (.int (1 : Int32)), .val (.ref b222), .val (.int kk), .val (.ref wK), .val (.ref b261), .val (.ref b269), .val (.ref b277), .val (.ref b282), .val (.int (0 : Int32))] [(.int (1 : Int32))])) _
        refine XS.goto X297.here hx rfl (pc0 := 256) (pc' := 260) rfl (hb hby at_256) (by decide) (by decide) ?_
        show Steps p.tables e below (T297.setTop (mkF m 260 #[.val (.int p1), .val (.int p2), .val (.int p3), .val (.int p4), .val (.int p5), .val (.int p6), .val (.int c213), .val (.int c216), .val (.int c219), .val (.int (1 : Int32)), .val (.ref b222), .val (.int kk), .val (.ref wK), .val (.ref b261), .val (.ref b269), .val (.ref b277), .val (.ref b282), .val (.int (0 : Int32))] [(.int (1 : Int32))])) _
        exact h)
    obtain ⟨fs, hr, hrun, hended, hfin⟩ := X297.leaveW hS297 (by exact hk297) (v := (some (.int (1 : Int32)))) (fun h => by rw [Bd.returns] at h; cases h)
    refine ⟨_, _, ?_, hrun, hended, _, _, rfl, ?_, (by rw [hh]; have q := own_chr rC299 (CHv.at X297 hZ297 hEL hC299) rfl; exact q), hfin.1, hfin.2.1, hfin.2.2.1, hfin.2.2.2.mono (by decide) (by decide)⟩
    · rw [← hS0]
      refine k301 _ ?_
      show Steps p.tables e below (T297.setTop (mkF m 260 #[.val (.int p1), .val (.int p2), .val (.int p3), .val (.int p4), .val (.int p5), .val (.int p6), .val (.int c213), .val (.int c216), .val (.int c219), .val (.int (1 : Int32)), .val (.ref b222), .val (.int kk), .val (.ref wK), .val (.ref b261), .val (.ref b269), .val (.ref b277), .val (.ref b282), .val (.int (0 : Int32))] [(.int (1 : Int32))])) _
      exact retN X297 hx (t := .boolean) Bd.returns (by simp) (hb hby at_260) hr
    · show Q_rm0_1 Z  h0 n0 _ T297.heap _
      exact ⟨rfl, N297⟩
  · have k302 : Rch p e below S0 T289 (mkF m 247 #[.val (.int p1), .val (.int p2), .val (.int p3), .val (.int p4), .val (.int p5), .val (.int p6), .val (.int c213), .val (.int c216), .val (.int c219), .val (.int (1 : Int32)), .val (.ref b222), .val (.int kk), .val (.ref wK), .val (.ref b261), .val (.ref b269), .val (.ref b277), .val (.ref b282), .val (.int (1 : Int32))] [(.ref b282)]) := fun t h => k295 t (by
        show Steps p.tables e below (T289.setTop (mkF m 225 #[.val (.int p1), .val (.int p2), .val (.int p3), .val (.int p4), .val (.int p5), .val (.int p6), .val (.int c213), .val (.int c216), .val (.int c219), .val (.int (1 : Int32)), .val (.ref b222), .val (.int kk), .val (.ref wK), .val (.ref b261), .val (.ref b269), .val (.ref b277), .val (.ref b282), .unset] [])) _
        refine XS.iload X289.here hx rfl (hb hby at_225) rfl ?_
        show Steps p.tables e below (T289.setTop (mkF m 227 #[.val (.int p1), .val (.int p2), .val (.int p3), .val (.int p4), .val (.int p5), .val (.int p6), .val (.int c213), .val (.int c216), .val (.int c219), .val (.int (1 : Int32)), .val (.ref b222), .val (.int kk), .val (.ref wK), .val (.ref b261), .val (.ref b269), .val (.ref b277), .val (.ref b282), .unset] [(.int (1 : Int32))])) _
        refine XS.iconst X289.here hx rfl (hb hby at_227) ?_
        show Steps p.tables e below (T289.setTop (mkF m 228 #[.val (.int p1), .val (.int p2), .val (.int p3), .val (.int p4), .val (.int p5), .val (.int p6), .val (.int c213), .val (.int c216), .val (.int c219), .val (.int (1 : Int32)), .val (.ref b222), .val (.int kk), .val (.ref wK), .val (.ref b261), .val (.ref b269), .val (.ref b277), .val (.ref b282), .unset] [(.int (1 : Int32)), (.int (1 : Int32))])) _
        refine XS.icmpNo X289.here hx rfl (hb hby at_228) rfl (teq (by decide : (1 : Int32) = (1 : Int32))).2 ?_
        show Steps p.tables e below (T289.setTop (mkF m 231 #[.val (.int p1), .val (.int p2), .val (.int p3), .val (.int p4), .val (.int p5), .val (.int p6), .val (.int c213), .val (.int c216), .val (.int c219), .val (.int (1 : Int32)), .val (.ref b222), .val (.int kk), .val (.ref wK), .val (.ref b261), .val (.ref b269), .val (.ref b277), .val (.ref b282), .unset] [])) _
        refine XS.iload X289.here hx rfl (hb hby at_231) rfl ?_
        show Steps p.tables e below (T289.setTop (mkF m 233 #[.val (.int p1), .val (.int p2), .val (.int p3), .val (.int p4), .val (.int p5), .val (.int p6), .val (.int c213), .val (.int c216), .val (.int c219), .val (.int (1 : Int32)), .val (.ref b222), .val (.int kk), .val (.ref wK), .val (.ref b261), .val (.ref b269), .val (.ref b277), .val (.ref b282), .unset] [(.int c213)])) _
        refine XS.bipush X289.here hx rfl (hb hby at_233) ?_
        show Steps p.tables e below (T289.setTop (mkF m 235 #[.val (.int p1), .val (.int p2), .val (.int p3), .val (.int p4), .val (.int p5), .val (.int p6), .val (.int c213), .val (.int c216), .val (.int c219), .val (.int (1 : Int32)), .val (.ref b222), .val (.int kk), .val (.ref wK), .val (.ref b261), .val (.ref b269), .val (.ref b277), .val (.ref b282), .unset] [(.int (45 : Int32)), (.int c213)])) _
        refine XS.icmpNo X289.here hx rfl (hb hby at_235) rfl (feq (hd : ¬ (c213 = (45 : Int32)))).1 ?_
        show Steps p.tables e below (T289.setTop (mkF m 238 #[.val (.int p1), .val (.int p2), .val (.int p3), .val (.int p4), .val (.int p5), .val (.int p6), .val (.int c213), .val (.int c216), .val (.int c219), .val (.int (1 : Int32)), .val (.ref b222), .val (.int kk), .val (.ref wK), .val (.ref b261), .val (.ref b269), .val (.ref b277), .val (.ref b282), .unset] [])) _
        refine XS.iconst X289.here hx rfl (hb hby at_238) ?_
        show Steps p.tables e below (T289.setTop (mkF m 239 #[.val (.int p1), .val (.int p2), .val (.int p3), .val (.int p4), .val (.int p5), .val (.int p6), .val (.int c213), .val (.int c216), .val (.int c219), .val (.int (1 : Int32)), .val (.ref b222), .val (.int kk), .val (.ref wK), .val (.ref b261), .val (.ref b269), .val (.ref b277), .val (.ref b282), .unset] [(.int (1 : Int32))])) _
        refine XS.goto X289.here hx rfl (pc0 := 239) (pc' := 243) rfl (hb hby at_239) (by decide) (by decide) ?_
        show Steps p.tables e below (T289.setTop (mkF m 243 #[.val (.int p1), .val (.int p2), .val (.int p3), .val (.int p4), .val (.int p5), .val (.int p6), .val (.int c213), .val (.int c216), .val (.int c219), .val (.int (1 : Int32)), .val (.ref b222), .val (.int kk), .val (.ref wK), .val (.ref b261), .val (.ref b269), .val (.ref b277), .val (.ref b282), .unset] [(.int (1 : Int32))])) _
        refine XS.istore X289.here hx rfl (hb hby at_243) rfl (l' := #[.val (.int p1), .val (.int p2), .val (.int p3), .val (.int p4), .val (.int p5), .val (.int p6), .val (.int c213), .val (.int c216), .val (.int c219), .val (.int (1 : Int32)), .val (.ref b222), .val (.int kk), .val (.ref wK), .val (.ref b261), .val (.ref b269), .val (.ref b277), .val (.ref b282), .val (.int (1 : Int32))]) rfl ?_
        show Steps p.tables e below (T289.setTop (mkF m 245 #[.val (.int p1), .val (.int p2), .val (.int p3), .val (.int p4), .val (.int p5), .val (.int p6), .val (.int c213), .val (.int c216), .val (.int c219), .val (.int (1 : Int32)), .val (.ref b222), .val (.int kk), .val (.ref wK), .val (.ref b261), .val (.ref b269), .val (.ref b277), .val (.ref b282), .val (.int (1 : Int32))] [])) _
        refine XS.aload X289.here hx rfl (hb hby at_245) rfl rfl ?_
        show Steps p.tables e below (T289.setTop (mkF m 247 #[.val (.int p1), .val (.int p2), .val (.int p3), .val (.int p4), .val (.int p5), .val (.int p6), .val (.int c213), .val (.int c216), .val (.int c219), .val (.int (1 : Int32)), .val (.ref b222), .val (.int kk), .val (.ref wK), .val (.ref b261), .val (.ref b269), .val (.ref b277), .val (.ref b282), .val (.int (1 : Int32))] [(.ref b282)])) _
        exact h)
    have hpp : ∀ c ∈ ([c213] : List Int32), ¬ c < 0 ∧ ¬ (255 : Int32) < c := by
      intro c hc
      simp only [List.mem_cons, List.not_mem_nil, or_false] at hc
      rcases hc with rfl
      · exact hc213
    have hcdd : StrChars.Road.CodA [c213] 0 (1 : Int32) (([c213].map (fun c => c.toInt8.toInt32)).map Value.int) := Or.inl ⟨rfl, rfl, rfl, fun c hc => (hpp c hc).2⟩
    obtain ⟨cq303, kq303, q303a, q303b, q303c⟩ := isOf hZ rfl E_b282
    obtain ⟨_, _, ⟨T303, L303, kk303, n303⟩, -, X303, hS303, gr303, ⟨Lc303, hQ303, l303, y303, z303, hR303⟩, st303⟩ := X289.virtualBackS hx (y := (⟨"com/example/suretygate/suretygate/rolemodel/CabinetFunction", "isSigning", "()Z"⟩ : MethodName)) (z := (⟨"com/example/suretygate/suretygate/rolemodel/CabinetFunction", "isSigning", "()Z"⟩ : MethodName)) hown (mvT hZ (hw _ (List.mem_of_getElem? (i := 67) rfl))) (mvT hZ (hw _ (List.mem_of_getElem? (i := 68) rfl))) (notFace_of_selects (args := #[]) (mvT hZ (hw _ (List.mem_of_getElem? (i := 70) rfl)))) (mvT hZ (hw _ (List.mem_of_getElem? (i := 70) rfl))) (mvT hZ (hw _ (List.mem_of_getElem? (i := 69) rfl))) (by decide) (backOfSH (W := 0) (rmG l Z a0 hw [] b282 b222 t240 kb240 (1 : Int32) (([c213].map (fun c => c.toInt8.toInt32)).map Value.int) ([c213]) zC T289.heap n0 O293 SC hzC Fs289 E_b222 Vb240 Cb240 Ab240 hcdd hpp (Nat.le_of_ble_eq_true rfl)) hZ (hw _ (List.mem_of_getElem? (i := 71) rfl)) (hw _ (List.mem_of_getElem? (i := 47) rfl)) (by decide) (by decide) hEL hC291) q303a q303c (g := (mkF m 247 #[.val (.int p1), .val (.int p2), .val (.int p3), .val (.int p4), .val (.int p5), .val (.int p6), .val (.int c213), .val (.int c216), .val (.int c219), .val (.int (1 : Int32)), .val (.ref b222), .val (.int kk), .val (.ref wK), .val (.ref b261), .val (.ref b269), .val (.ref b277), .val (.ref b282), .val (.int (1 : Int32))] [(.ref b282)])) rfl (by rw [hml]; rfl) (Steps.refl _) (argsL := []) (rest := []) (lenOf pd_9 rfl) rfl (by show 2 * 0 + _ ≤ _; exact Nat.le_of_eq rfl) (hb hby at_247) (fun _ _ => ⟨rfl, rfl, (by decide : 10 + 2 ≤ _), (by decide : 26 + 8 ≤ _)⟩)
    dsimp only [Pt.U, Pt.locs, Pt.cells, Pt.slots] at X303 l303 y303 z303 st303 hQ303 hS303 gr303 hR303
    subst l303 y303 z303
    have hZ303 : Z.Warmed39 (s.setVm T303.vm).vm := State.Warmed39.trans (t := (s.setVm s.vm)) hZ hS303.1
    have hown303 : (s.setVm T303.vm).vm.findClass "com/example/suretygate/suretygate/rolemodel/CabinetFunctionIsSigningPinLaw" = some m.cls := by rw [show (s.setVm T303.vm).vm = T303.vm from rfl, hS303.1.alike.findClass]; exact hown
    replace hS303 := foldS hS (by exact hkk294) hS303 gr303
    have hk303 := Nat.le_refl T303.heap.size
    replace X303 : Stand p l e room_1 (s.setVm T303.vm) m #[(.int p1), (.int p2), (.int p3), (.int p4), (.int p5), (.int p6)] below meth c T303 _ _ _ := X303
    obtain ⟨r303, rfl, Nq303, E303, hr303⟩ := hQ303
    have N303 := Fr.app N289 Nq303
    have k304 : Rch p e below S0 T303 (mkF m 250 #[.val (.int p1), .val (.int p2), .val (.int p3), .val (.int p4), .val (.int p5), .val (.int p6), .val (.int c213), .val (.int c216), .val (.int c219), .val (.int (1 : Int32)), .val (.ref b222), .val (.int kk), .val (.ref wK), .val (.ref b261), .val (.ref b269), .val (.ref b277), .val (.ref b282), .val (.int (1 : Int32))] [(.int r303)]) := fun t h => k302 t (st303.trans h)
    replace sf_b222 := hR303.safe E_b222.lt sf_b222
    replace sf_b228 := hR303.safe V_b228.lt sf_b228
    replace sf_b282 := hR303.safe E_b282.lt sf_b282
    have hC305 := hR303.1
    have rC305 := rC291.trans hR303
    have O306 := O293.ext E303
    replace E_b222 := E_b222.ext E303
    replace Vb240 := Vb240.ext E303
    replace Cb240 := Cb240.ext E303
    replace V_b228 := V_b228.ext E303
    replace Ab240 := Ab240.ext E303
    replace X261E := X261E.ext E303
    replace X269E := X269E.ext E303
    replace X277E := X277E.ext E303
    replace E_b282 := E_b282.ext E303
    replace Fs289 := Fs289.ext E303
    obtain rfl : r303 = (1 : Int32) := by
      rcases hr303 with ⟨q, hq⟩ | ⟨q, hq⟩
      · exact absurd (List.cons.inj hq).1 (hd)
      · exact q
    have k307 : Rch p e below S0 T303 (mkF m 260 #[.val (.int p1), .val (.int p2), .val (.int p3), .val (.int p4), .val (.int p5), .val (.int p6), .val (.int c213), .val (.int c216), .val (.int c219), .val (.int (1 : Int32)), .val (.ref b222), .val (.int kk), .val (.ref wK), .val (.ref b261), .val (.ref b269), .val (.ref b277), .val (.ref b282), .val (.int (1 : Int32))] [(.int (1 : Int32))]) := fun t h => k304 t (by
        show Steps p.tables e below (T303.setTop (mkF m 250 #[.val (.int p1), .val (.int p2), .val (.int p3), .val (.int p4), .val (.int p5), .val (.int p6), .val (.int c213), .val (.int c216), .val (.int c219), .val (.int (1 : Int32)), .val (.ref b222), .val (.int kk), .val (.ref wK), .val (.ref b261), .val (.ref b269), .val (.ref b277), .val (.ref b282), .val (.int (1 : Int32))] [(.int (1 : Int32))])) _
        refine XS.iload X303.here hx rfl (hb hby at_250) rfl ?_
        show Steps p.tables e below (T303.setTop (mkF m 252 #[.val (.int p1), .val (.int p2), .val (.int p3), .val (.int p4), .val (.int p5), .val (.int p6), .val (.int c213), .val (.int c216), .val (.int c219), .val (.int (1 : Int32)), .val (.ref b222), .val (.int kk), .val (.ref wK), .val (.ref b261), .val (.ref b269), .val (.ref b277), .val (.ref b282), .val (.int (1 : Int32))] [(.int (1 : Int32)), (.int (1 : Int32))])) _
        refine XS.icmpNo X303.here hx rfl (hb hby at_252) rfl (teq (by decide : (1 : Int32) = (1 : Int32))).2 ?_
        show Steps p.tables e below (T303.setTop (mkF m 255 #[.val (.int p1), .val (.int p2), .val (.int p3), .val (.int p4), .val (.int p5), .val (.int p6), .val (.int c213), .val (.int c216), .val (.int c219), .val (.int (1 : Int32)), .val (.ref b222), .val (.int kk), .val (.ref wK), .val (.ref b261), .val (.ref b269), .val (.ref b277), .val (.ref b282), .val (.int (1 : Int32))] [])) _
        refine XS.iconst X303.here hx rfl (hb hby at_255) ?_
        show Steps p.tables e below (T303.setTop (mkF m 256 #[.val (.int p1), .val (.int p2), .val (.int p3), .val (.int p4), .val (.int p5), .val (.int p6), .val (.int c213), .val (.int c216), .val (.int c219), .val (.int (1 : Int32)), .val (.ref b222), .val (.int kk), .val (.ref wK), .val (.ref b261), .val (.ref b269), .val (.ref b277), .val (.ref b282), .val (.int (1 : Int32))] [(.int (1 : Int32))])) _
        refine XS.goto X303.here hx rfl (pc0 := 256) (pc' := 260) rfl (hb hby at_256) (by decide) (by decide) ?_
        show Steps p.tables e below (T303.setTop (mkF m 260 #[.val (.int p1), .val (.int p2), .val (.int p3), .val (.int p4), .val (.int p5), .val (.int p6), .val (.int c213), .val (.int c216), .val (.int c219), .val (.int (1 : Int32)), .val (.ref b222), .val (.int kk), .val (.ref wK), .val (.ref b261), .val (.ref b269), .val (.ref b277), .val (.ref b282), .val (.int (1 : Int32))] [(.int (1 : Int32))])) _
        exact h)
    obtain ⟨fs, hr, hrun, hended, hfin⟩ := X303.leaveW hS303 (by exact hk303) (v := (some (.int (1 : Int32)))) (fun h => by rw [Bd.returns] at h; cases h)
    refine ⟨_, _, ?_, hrun, hended, _, _, rfl, ?_, (by rw [hh]; have q := own_chr rC305 (CHv.at X303 hZ303 hEL hC305) rfl; exact q), hfin.1, hfin.2.1, hfin.2.2.1, hfin.2.2.2.mono (by decide) (by decide)⟩
    · rw [← hS0]
      refine k307 _ ?_
      show Steps p.tables e below (T303.setTop (mkF m 260 #[.val (.int p1), .val (.int p2), .val (.int p3), .val (.int p4), .val (.int p5), .val (.int p6), .val (.int c213), .val (.int c216), .val (.int c219), .val (.int (1 : Int32)), .val (.ref b222), .val (.int kk), .val (.ref wK), .val (.ref b261), .val (.ref b269), .val (.ref b277), .val (.ref b282), .val (.int (1 : Int32))] [(.int (1 : Int32))])) _
      exact retN X303 hx (t := .boolean) Bd.returns (by simp) (hb hby at_260) hr
    · show Q_rm0_1 Z  h0 n0 _ T303.heap _
      exact ⟨rfl, N303⟩
def Q_rm0_2 (Z : State)  (h0 : Heap) (n0 : Nat) (v : Option Value) (h : Heap) (L : List Loc) : Prop := v = some (.int (1 : Int32)) ∧ Fr n0 L
set_option maxRecDepth 65536 in
set_option maxHeartbeats 40000000 in
theorem rm0_2 (l : Launch) (Z : State) (a0 : Array Value) (hw : ∀ d ∈ tables_1, d.before a0 Z = true) (ws : List Jvm.Cond) (p1 : Int32) (p2 : Int32) (p3 : Int32) (p4 : Int32) (p5 : Int32) (p6 : Int32) (zC : Int32) (wM : Addr) (wP : Addr) (wA : Addr) (h0 : Heap) (n0 : Nat) (O0 : Old Z n0 h0) (SC : Sta Z Z.heap "java/lang/String" "COMPACT_STRINGS" "Z" (.int zC)) (hzC : ¬ zC = 0) (SM : Sta Z Z.heap "com/example/suretygate/suretygate/rolemodel/CabinetFunction$Kind" "MENU" "Lcom/example/suretygate/suretygate/rolemodel/CabinetFunction$Kind;" (.ref wM)) (SP : Sta Z Z.heap "com/example/suretygate/suretygate/rolemodel/CabinetFunction$Kind" "PAGE" "Lcom/example/suretygate/suretygate/rolemodel/CabinetFunction$Kind;" (.ref wP)) (SA : Sta Z Z.heap "com/example/suretygate/suretygate/rolemodel/CabinetFunction$Kind" "ACTION" "Lcom/example/suretygate/suretygate/rolemodel/CabinetFunction$Kind;" (.ref wA)) (hk0 : (p1 &&& (3 : Int32)) = (2 : Int32)) :
    MetFree l x (head1 (Jvm.Cond.code x code maxLocals ret :: ws) room_1) (fun a U => a = #[(.int p1), (.int p2), (.int p3), (.int p4), (.int p5), (.int p6)] ∧ Z.Warmed39 U.vm ∧ U.heap = h0 ∧ CHv Z consts_1 U.vm h0) (fun _ _ _ _ _ => True) (fun _ U o U' => ∃ v L, o = .returned v ∧ Q_rm0_2 Z  h0 n0 v U'.heap L ∧ CHr Z consts_1 U.vm U.heap U'.vm U'.heap ∧ ReturnedEndW U o U' L room_1.cells room_1.slots) := by
  refine MetFree.of_bodySF (plainFor_of_name pn_CabinetFunctionIsSigningPinLaw) hisR ?_
  intro p e s m args below meth c s₁ Bd hml0 hP hK
  obtain ⟨rfl, hZ, hh, hC0⟩ := hP
  have hx := Bd.exec
  have hby := Bd.bytes
  have hml : c.maxLocals = 18 := hml0
  have hown : s.vm.findClass "com/example/suretygate/suretygate/rolemodel/CabinetFunctionIsSigningPinLaw" = some m.cls := findClass_of_methodNamed Bd.named
  have hnm := (name_of_methodNamed Bd.named Bd.method).1
  have X0 : Stand p l e room_1 (s.setVm s.vm) m #[(.int p1), (.int p2), (.int p3), (.int p4), (.int p5), (.int p6)] below meth c s₁ [] 0 0 := Stand.of_body Bd
  have e0 : s₁.heap = h0 := by rw [← hh, Bd.state]; rfl
  have N0 := Fr.nil n0
  obtain ⟨S0, hS0⟩ : ∃ z, z = s₁.setTop (entryFrame m #[(.int p1), (.int p2), (.int p3), (.int p4), (.int p5), (.int p6)] maxLocals) := ⟨_, rfl⟩
  have k0 : Rch p e below S0 s₁ (mkF m 0 #[.val (.int p1), .val (.int p2), .val (.int p3), .val (.int p4), .val (.int p5), .val (.int p6), .unset, .unset, .unset, .unset, .unset, .unset, .unset, .unset, .unset, .unset, .unset, .unset] []) := fun t k => hS0 ▸ castTop (ef_0 m p1 p2 p3 p4 p5 p6) k
  have hS : s.Since s.vm s.heap.size := (State.WarmedH.refl s).since _
  have hk : s.heap.size ≤ h0.size := by rw [← hh]; exact Nat.le_refl _
  have hwS : ∀ d ∈ Bundle.stringAtoms, d.before a0 Z = true := fun d hd => hw d ((by decide +kernel : ∀ d ∈ Bundle.stringAtoms, d ∈ tables_1) d hd)
  have rC0 : CHr Z consts_1 s.vm h0 s.vm h0 := CHr.refl hC0
  have hEL : EW Z a0 consts_1 := (EW.cons (hw _ (List.mem_of_getElem? (i := 72) rfl)) (by decide +kernel) (EW.cons (hw _ (List.mem_of_getElem? (i := 18) rfl)) (by decide +kernel) EW.nil))
  have k308 : Rch p e below S0 s₁ (mkF m 1 #[.val (.int p1), .val (.int p2), .val (.int p3), .val (.int p4), .val (.int p5), .val (.int p6), .unset, .unset, .unset, .unset, .unset, .unset, .unset, .unset, .unset, .unset, .unset, .unset] [(.int p2)]) := fun t h => k0 t (by
      show Steps p.tables e below (s₁.setTop (mkF m 0 #[.val (.int p1), .val (.int p2), .val (.int p3), .val (.int p4), .val (.int p5), .val (.int p6), .unset, .unset, .unset, .unset, .unset, .unset, .unset, .unset, .unset, .unset, .unset, .unset] [])) _
      refine XS.iloadN X0.here hx rfl (hb hby at_0) rfl ?_
      show Steps p.tables e below (s₁.setTop (mkF m 1 #[.val (.int p1), .val (.int p2), .val (.int p3), .val (.int p4), .val (.int p5), .val (.int p6), .unset, .unset, .unset, .unset, .unset, .unset, .unset, .unset, .unset, .unset, .unset, .unset] [(.int p2)])) _
      exact h)
  obtain ⟨_, _, ⟨T309, L309, kk309, n309⟩, -, X309, ⟨Lc309, hQ309, l309, y309, z309⟩, st309⟩ := Jvm.LawKit.callS X0 hx (y := (⟨"com/example/suretygate/suretygate/rolemodel/CabinetFunctionIsSigningPinLaw", "pick", "(I)C"⟩ : MethodName)) hown (mvT hZ (hw _ (List.mem_of_getElem? (i := 0) rfl))) (mvT hZ (hw _ (List.mem_of_getElem? (i := 1) rfl))) (mvT hZ (hw _ (List.mem_of_getElem? (i := 2) rfl))) (mvT hZ (hw _ (List.mem_of_getElem? (i := 3) rfl))) (by decide) (backOf (W := 0) (rmP l Z a0 hw [] p2  h0 n0 O0 ) hZ (hw _ (List.mem_of_getElem? (i := 3) rfl)) (hw _ (List.mem_of_getElem? (i := 2) rfl)) (by decide) (by decide)) (g := (mkF m 1 #[.val (.int p1), .val (.int p2), .val (.int p3), .val (.int p4), .val (.int p5), .val (.int p6), .unset, .unset, .unset, .unset, .unset, .unset, .unset, .unset, .unset, .unset, .unset, .unset] [(.int p2)])) rfl (by rw [hml]; rfl) (argsL := [(.int p2)]) (rest := []) (lenOf pd_0 rfl) rfl (by show 2 * 0 + _ ≤ _; exact Nat.le_of_eq rfl) (hb hby at_1) (fun _ _ => ⟨rfl, e0, (by decide : 0 + 0 ≤ _), (by decide : 0 + 0 ≤ _)⟩)
  dsimp only [Pt.U, Pt.locs, Pt.cells, Pt.slots] at X309 l309 y309 z309 st309 hQ309
  subst l309 y309 z309
  obtain ⟨c309, rfl, Nq309, hh309, hc309⟩ := hQ309
  have N309 := Fr.app N0 Nq309
  have k310 : Rch p e below S0 T309 (mkF m 4 #[.val (.int p1), .val (.int p2), .val (.int p3), .val (.int p4), .val (.int p5), .val (.int p6), .unset, .unset, .unset, .unset, .unset, .unset, .unset, .unset, .unset, .unset, .unset, .unset] [(.int c309)]) := fun t h => k308 t (st309 t h)
  have k311 : Rch p e below S0 T309 (mkF m 7 #[.val (.int p1), .val (.int p2), .val (.int p3), .val (.int p4), .val (.int p5), .val (.int p6), .val (.int c309), .unset, .unset, .unset, .unset, .unset, .unset, .unset, .unset, .unset, .unset, .unset] [(.int p3)]) := fun t h => k310 t (by
      show Steps p.tables e below (T309.setTop (mkF m 4 #[.val (.int p1), .val (.int p2), .val (.int p3), .val (.int p4), .val (.int p5), .val (.int p6), .unset, .unset, .unset, .unset, .unset, .unset, .unset, .unset, .unset, .unset, .unset, .unset] [(.int c309)])) _
      refine XS.istore X309.here hx rfl (hb hby at_4) rfl (l' := #[.val (.int p1), .val (.int p2), .val (.int p3), .val (.int p4), .val (.int p5), .val (.int p6), .val (.int c309), .unset, .unset, .unset, .unset, .unset, .unset, .unset, .unset, .unset, .unset, .unset]) rfl ?_
      show Steps p.tables e below (T309.setTop (mkF m 6 #[.val (.int p1), .val (.int p2), .val (.int p3), .val (.int p4), .val (.int p5), .val (.int p6), .val (.int c309), .unset, .unset, .unset, .unset, .unset, .unset, .unset, .unset, .unset, .unset, .unset] [])) _
      refine XS.iloadN X309.here hx rfl (hb hby at_6) rfl ?_
      show Steps p.tables e below (T309.setTop (mkF m 7 #[.val (.int p1), .val (.int p2), .val (.int p3), .val (.int p4), .val (.int p5), .val (.int p6), .val (.int c309), .unset, .unset, .unset, .unset, .unset, .unset, .unset, .unset, .unset, .unset, .unset] [(.int p3)])) _
      exact h)
  obtain ⟨_, _, ⟨T312, L312, kk312, n312⟩, -, X312, ⟨Lc312, hQ312, l312, y312, z312⟩, st312⟩ := Jvm.LawKit.callS X309 hx (y := (⟨"com/example/suretygate/suretygate/rolemodel/CabinetFunctionIsSigningPinLaw", "pick", "(I)C"⟩ : MethodName)) hown (mvT hZ (hw _ (List.mem_of_getElem? (i := 0) rfl))) (mvT hZ (hw _ (List.mem_of_getElem? (i := 1) rfl))) (mvT hZ (hw _ (List.mem_of_getElem? (i := 2) rfl))) (mvT hZ (hw _ (List.mem_of_getElem? (i := 3) rfl))) (by decide) (backOf (W := 0) (rmP l Z a0 hw [] p3  h0 n0 O0 ) hZ (hw _ (List.mem_of_getElem? (i := 3) rfl)) (hw _ (List.mem_of_getElem? (i := 2) rfl)) (by decide) (by decide)) (g := (mkF m 7 #[.val (.int p1), .val (.int p2), .val (.int p3), .val (.int p4), .val (.int p5), .val (.int p6), .val (.int c309), .unset, .unset, .unset, .unset, .unset, .unset, .unset, .unset, .unset, .unset, .unset] [(.int p3)])) rfl (by rw [hml]; rfl) (argsL := [(.int p3)]) (rest := []) (lenOf pd_0 rfl) rfl (by show 2 * 0 + _ ≤ _; exact Nat.le_of_eq rfl) (hb hby at_7) (fun _ _ => ⟨rfl, hh309, (by decide : 0 + 0 ≤ _), (by decide : 0 + 0 ≤ _)⟩)
  dsimp only [Pt.U, Pt.locs, Pt.cells, Pt.slots] at X312 l312 y312 z312 st312 hQ312
  subst l312 y312 z312
  obtain ⟨c312, rfl, Nq312, hh312, hc312⟩ := hQ312
  have N312 := Fr.app N309 Nq312
  have k313 : Rch p e below S0 T312 (mkF m 10 #[.val (.int p1), .val (.int p2), .val (.int p3), .val (.int p4), .val (.int p5), .val (.int p6), .val (.int c309), .unset, .unset, .unset, .unset, .unset, .unset, .unset, .unset, .unset, .unset, .unset] [(.int c312)]) := fun t h => k311 t (st312 t h)
  have k314 : Rch p e below S0 T312 (mkF m 13 #[.val (.int p1), .val (.int p2), .val (.int p3), .val (.int p4), .val (.int p5), .val (.int p6), .val (.int c309), .val (.int c312), .unset, .unset, .unset, .unset, .unset, .unset, .unset, .unset, .unset, .unset] [(.int p4)]) := fun t h => k313 t (by
      show Steps p.tables e below (T312.setTop (mkF m 10 #[.val (.int p1), .val (.int p2), .val (.int p3), .val (.int p4), .val (.int p5), .val (.int p6), .val (.int c309), .unset, .unset, .unset, .unset, .unset, .unset, .unset, .unset, .unset, .unset, .unset] [(.int c312)])) _
      refine XS.istore X312.here hx rfl (hb hby at_10) rfl (l' := #[.val (.int p1), .val (.int p2), .val (.int p3), .val (.int p4), .val (.int p5), .val (.int p6), .val (.int c309), .val (.int c312), .unset, .unset, .unset, .unset, .unset, .unset, .unset, .unset, .unset, .unset]) rfl ?_
      show Steps p.tables e below (T312.setTop (mkF m 12 #[.val (.int p1), .val (.int p2), .val (.int p3), .val (.int p4), .val (.int p5), .val (.int p6), .val (.int c309), .val (.int c312), .unset, .unset, .unset, .unset, .unset, .unset, .unset, .unset, .unset, .unset] [])) _
      refine XS.iloadN X312.here hx rfl (hb hby at_12) rfl ?_
      show Steps p.tables e below (T312.setTop (mkF m 13 #[.val (.int p1), .val (.int p2), .val (.int p3), .val (.int p4), .val (.int p5), .val (.int p6), .val (.int c309), .val (.int c312), .unset, .unset, .unset, .unset, .unset, .unset, .unset, .unset, .unset, .unset] [(.int p4)])) _
      exact h)
  obtain ⟨_, _, ⟨T315, L315, kk315, n315⟩, -, X315, ⟨Lc315, hQ315, l315, y315, z315⟩, st315⟩ := Jvm.LawKit.callS X312 hx (y := (⟨"com/example/suretygate/suretygate/rolemodel/CabinetFunctionIsSigningPinLaw", "pick", "(I)C"⟩ : MethodName)) hown (mvT hZ (hw _ (List.mem_of_getElem? (i := 0) rfl))) (mvT hZ (hw _ (List.mem_of_getElem? (i := 1) rfl))) (mvT hZ (hw _ (List.mem_of_getElem? (i := 2) rfl))) (mvT hZ (hw _ (List.mem_of_getElem? (i := 3) rfl))) (by decide) (backOf (W := 0) (rmP l Z a0 hw [] p4  h0 n0 O0 ) hZ (hw _ (List.mem_of_getElem? (i := 3) rfl)) (hw _ (List.mem_of_getElem? (i := 2) rfl)) (by decide) (by decide)) (g := (mkF m 13 #[.val (.int p1), .val (.int p2), .val (.int p3), .val (.int p4), .val (.int p5), .val (.int p6), .val (.int c309), .val (.int c312), .unset, .unset, .unset, .unset, .unset, .unset, .unset, .unset, .unset, .unset] [(.int p4)])) rfl (by rw [hml]; rfl) (argsL := [(.int p4)]) (rest := []) (lenOf pd_0 rfl) rfl (by show 2 * 0 + _ ≤ _; exact Nat.le_of_eq rfl) (hb hby at_13) (fun _ _ => ⟨rfl, hh312, (by decide : 0 + 0 ≤ _), (by decide : 0 + 0 ≤ _)⟩)
  dsimp only [Pt.U, Pt.locs, Pt.cells, Pt.slots] at X315 l315 y315 z315 st315 hQ315
  subst l315 y315 z315
  obtain ⟨c315, rfl, Nq315, hh315, hc315⟩ := hQ315
  have N315 := Fr.app N312 Nq315
  have k316 : Rch p e below S0 T315 (mkF m 16 #[.val (.int p1), .val (.int p2), .val (.int p3), .val (.int p4), .val (.int p5), .val (.int p6), .val (.int c309), .val (.int c312), .unset, .unset, .unset, .unset, .unset, .unset, .unset, .unset, .unset, .unset] [(.int c315)]) := fun t h => k314 t (st315 t h)
  have k317 : Rch p e below S0 T315 (mkF m 23 #[.val (.int p1), .val (.int p2), .val (.int p3), .val (.int p4), .val (.int p5), .val (.int p6), .val (.int c309), .val (.int c312), .val (.int c315), .val (.int (2 : Int32)), .unset, .unset, .unset, .unset, .unset, .unset, .unset, .unset] []) := fun t h => k316 t (by
      show Steps p.tables e below (T315.setTop (mkF m 16 #[.val (.int p1), .val (.int p2), .val (.int p3), .val (.int p4), .val (.int p5), .val (.int p6), .val (.int c309), .val (.int c312), .unset, .unset, .unset, .unset, .unset, .unset, .unset, .unset, .unset, .unset] [(.int c315)])) _
      refine XS.istore X315.here hx rfl (hb hby at_16) rfl (l' := #[.val (.int p1), .val (.int p2), .val (.int p3), .val (.int p4), .val (.int p5), .val (.int p6), .val (.int c309), .val (.int c312), .val (.int c315), .unset, .unset, .unset, .unset, .unset, .unset, .unset, .unset, .unset]) rfl ?_
      show Steps p.tables e below (T315.setTop (mkF m 18 #[.val (.int p1), .val (.int p2), .val (.int p3), .val (.int p4), .val (.int p5), .val (.int p6), .val (.int c309), .val (.int c312), .val (.int c315), .unset, .unset, .unset, .unset, .unset, .unset, .unset, .unset, .unset] [])) _
      refine XS.iloadN X315.here hx rfl (hb hby at_18) rfl ?_
      show Steps p.tables e below (T315.setTop (mkF m 19 #[.val (.int p1), .val (.int p2), .val (.int p3), .val (.int p4), .val (.int p5), .val (.int p6), .val (.int c309), .val (.int c312), .val (.int c315), .unset, .unset, .unset, .unset, .unset, .unset, .unset, .unset, .unset] [(.int p1)])) _
      refine XS.iconst X315.here hx rfl (hb hby at_19) ?_
      show Steps p.tables e below (T315.setTop (mkF m 20 #[.val (.int p1), .val (.int p2), .val (.int p3), .val (.int p4), .val (.int p5), .val (.int p6), .val (.int c309), .val (.int c312), .val (.int c315), .unset, .unset, .unset, .unset, .unset, .unset, .unset, .unset, .unset] [(.int (3 : Int32)), (.int p1)])) _
      refine XS.iand X315.here hx rfl (hb hby at_20) rfl ?_
      rw [hk0]
      show Steps p.tables e below (T315.setTop (mkF m 21 #[.val (.int p1), .val (.int p2), .val (.int p3), .val (.int p4), .val (.int p5), .val (.int p6), .val (.int c309), .val (.int c312), .val (.int c315), .unset, .unset, .unset, .unset, .unset, .unset, .unset, .unset, .unset] [(.int (2 : Int32))])) _
      refine XS.istore X315.here hx rfl (hb hby at_21) rfl (l' := #[.val (.int p1), .val (.int p2), .val (.int p3), .val (.int p4), .val (.int p5), .val (.int p6), .val (.int c309), .val (.int c312), .val (.int c315), .val (.int (2 : Int32)), .unset, .unset, .unset, .unset, .unset, .unset, .unset, .unset]) rfl ?_
      show Steps p.tables e below (T315.setTop (mkF m 23 #[.val (.int p1), .val (.int p2), .val (.int p3), .val (.int p4), .val (.int p5), .val (.int p6), .val (.int c309), .val (.int c312), .val (.int c315), .val (.int (2 : Int32)), .unset, .unset, .unset, .unset, .unset, .unset, .unset, .unset] [])) _
      exact h)
  have k319 : Rch p e below S0 T315 (mkF m 75 #[.val (.int p1), .val (.int p2), .val (.int p3), .val (.int p4), .val (.int p5), .val (.int p6), .val (.int c309), .val (.int c312), .val (.int c315), .val (.int (2 : Int32)), .unset, .unset, .unset, .unset, .unset, .unset, .unset, .unset] []) := fun t h => k317 t (by
      show Steps p.tables e below (T315.setTop (mkF m 23 #[.val (.int p1), .val (.int p2), .val (.int p3), .val (.int p4), .val (.int p5), .val (.int p6), .val (.int c309), .val (.int c312), .val (.int c315), .val (.int (2 : Int32)), .unset, .unset, .unset, .unset, .unset, .unset, .unset, .unset] [])) _
      refine XS.iload X315.here hx rfl (hb hby at_23) rfl ?_
      show Steps p.tables e below (T315.setTop (mkF m 25 #[.val (.int p1), .val (.int p2), .val (.int p3), .val (.int p4), .val (.int p5), .val (.int p6), .val (.int c309), .val (.int c312), .val (.int c315), .val (.int (2 : Int32)), .unset, .unset, .unset, .unset, .unset, .unset, .unset, .unset] [(.int (2 : Int32))])) _
      refine XS.ifYes X315.here hx rfl (pc0 := 25) (pc' := 43) rfl (hb hby at_25) rfl ((if0 _ _).trans (feq (by decide : ¬ ((2 : Int32) = (0 : Int32)))).2) (by decide) (by decide) ?_
      show Steps p.tables e below (T315.setTop (mkF m 43 #[.val (.int p1), .val (.int p2), .val (.int p3), .val (.int p4), .val (.int p5), .val (.int p6), .val (.int c309), .val (.int c312), .val (.int c315), .val (.int (2 : Int32)), .unset, .unset, .unset, .unset, .unset, .unset, .unset, .unset] [])) _
      refine XS.iload X315.here hx rfl (hb hby at_43) rfl ?_
      show Steps p.tables e below (T315.setTop (mkF m 45 #[.val (.int p1), .val (.int p2), .val (.int p3), .val (.int p4), .val (.int p5), .val (.int p6), .val (.int c309), .val (.int c312), .val (.int c315), .val (.int (2 : Int32)), .unset, .unset, .unset, .unset, .unset, .unset, .unset, .unset] [(.int (2 : Int32))])) _
      refine XS.iconst X315.here hx rfl (hb hby at_45) ?_
      show Steps p.tables e below (T315.setTop (mkF m 46 #[.val (.int p1), .val (.int p2), .val (.int p3), .val (.int p4), .val (.int p5), .val (.int p6), .val (.int c309), .val (.int c312), .val (.int c315), .val (.int (2 : Int32)), .unset, .unset, .unset, .unset, .unset, .unset, .unset, .unset] [(.int (1 : Int32)), (.int (2 : Int32))])) _
      refine XS.icmpYes X315.here hx rfl (pc0 := 46) (pc' := 69) rfl (hb hby at_46) rfl (feq (by decide : ¬ ((2 : Int32) = (1 : Int32)))).2 (by decide) (by decide) ?_
      show Steps p.tables e below (T315.setTop (mkF m 69 #[.val (.int p1), .val (.int p2), .val (.int p3), .val (.int p4), .val (.int p5), .val (.int p6), .val (.int c309), .val (.int c312), .val (.int c315), .val (.int (2 : Int32)), .unset, .unset, .unset, .unset, .unset, .unset, .unset, .unset] [])) _
      refine XS.iload X315.here hx rfl (hb hby at_69) rfl ?_
      show Steps p.tables e below (T315.setTop (mkF m 71 #[.val (.int p1), .val (.int p2), .val (.int p3), .val (.int p4), .val (.int p5), .val (.int p6), .val (.int c309), .val (.int c312), .val (.int c315), .val (.int (2 : Int32)), .unset, .unset, .unset, .unset, .unset, .unset, .unset, .unset] [(.int (2 : Int32))])) _
      refine XS.iconst X315.here hx rfl (hb hby at_71) ?_
      show Steps p.tables e below (T315.setTop (mkF m 72 #[.val (.int p1), .val (.int p2), .val (.int p3), .val (.int p4), .val (.int p5), .val (.int p6), .val (.int c309), .val (.int c312), .val (.int c315), .val (.int (2 : Int32)), .unset, .unset, .unset, .unset, .unset, .unset, .unset, .unset] [(.int (2 : Int32)), (.int (2 : Int32))])) _
      refine XS.icmpNo X315.here hx rfl (hb hby at_72) rfl (teq (by decide : (2 : Int32) = (2 : Int32))).2 ?_
      show Steps p.tables e below (T315.setTop (mkF m 75 #[.val (.int p1), .val (.int p2), .val (.int p3), .val (.int p4), .val (.int p5), .val (.int p6), .val (.int c309), .val (.int c312), .val (.int c315), .val (.int (2 : Int32)), .unset, .unset, .unset, .unset, .unset, .unset, .unset, .unset] [])) _
      exact h)
  obtain ⟨T318, h318, X318, e318, E318, A318, D318, -, st318⟩ := newO X315 hx hZ hown (hw _ (List.mem_of_getElem? (i := 4) rfl)) (hw _ (List.mem_of_getElem? (i := 5) rfl)) (hw _ (List.mem_of_getElem? (i := 6) rfl)) hh315 (g := (mkF m 75 #[.val (.int p1), .val (.int p2), .val (.int p3), .val (.int p4), .val (.int p5), .val (.int p6), .val (.int c309), .val (.int c312), .val (.int c315), .val (.int (2 : Int32)), .unset, .unset, .unset, .unset, .unset, .unset, .unset, .unset] [])) rfl (hb hby at_75) (by decide) (by decide)
  obtain ⟨b318, g318⟩ : ∃ z, z = h0.size := ⟨_, rfl⟩
  rw [← g318] at A318 D318 st318
  have k320 : Rch p e below S0 T318 (mkF m 78 #[.val (.int p1), .val (.int p2), .val (.int p3), .val (.int p4), .val (.int p5), .val (.int p6), .val (.int c309), .val (.int c312), .val (.int c315), .val (.int (2 : Int32)), .unset, .unset, .unset, .unset, .unset, .unset, .unset, .unset] [(.ref b318)]) := fun t h => k319 t (st318 t h)
  have ge_b318 : n0 ≤ b318 := own_ge O0 (Nat.le_of_eq g318.symm)
  have sf_b318 : Safe Z consts_1 s.vm h0 b318 := Safe.new (Nat.le_of_eq g318.symm)
  replace sf_b318 := Safe.ext E318 hC0 sf_b318
  have hC321 := hC0.ext E318
  have rC321 := rC0.trans (CHr.ext E318 hC0)
  have O322 := O0.ext E318
  have hkk323 := Nat.le_trans hk E318.1
  have E_b318 := A318
  have F_b318_value : Fld Z h318 b318 "java/lang/String" "value" "[B" .null := D318 (Or.inr (hw _ (List.mem_of_getElem? (i := 20) rfl))) (ty := (.array .byte)) (by decide)
  have F_b318_coder : Fld Z h318 b318 "java/lang/String" "coder" "B" (.int (0 : Int32)) := D318 (Or.inr (hw _ (List.mem_of_getElem? (i := 21) rfl))) (ty := .byte) (by decide)
  have k325 : Rch p e below S0 T318 (mkF m 80 #[.val (.int p1), .val (.int p2), .val (.int p3), .val (.int p4), .val (.int p5), .val (.int p6), .val (.int c309), .val (.int c312), .val (.int c315), .val (.int (2 : Int32)), .unset, .unset, .unset, .unset, .unset, .unset, .unset, .unset] [(.int (2 : Int32)), (.ref b318), (.ref b318)]) := fun t h => k320 t (by
      show Steps p.tables e below (T318.setTop (mkF m 78 #[.val (.int p1), .val (.int p2), .val (.int p3), .val (.int p4), .val (.int p5), .val (.int p6), .val (.int c309), .val (.int c312), .val (.int c315), .val (.int (2 : Int32)), .unset, .unset, .unset, .unset, .unset, .unset, .unset, .unset] [(.ref b318)])) _
      refine XS.dup X318.here hx rfl (hb hby at_78) rfl rfl ?_
      show Steps p.tables e below (T318.setTop (mkF m 79 #[.val (.int p1), .val (.int p2), .val (.int p3), .val (.int p4), .val (.int p5), .val (.int p6), .val (.int c309), .val (.int c312), .val (.int c315), .val (.int (2 : Int32)), .unset, .unset, .unset, .unset, .unset, .unset, .unset, .unset] [(.ref b318), (.ref b318)])) _
      refine XS.iconst X318.here hx rfl (hb hby at_79) ?_
      show Steps p.tables e below (T318.setTop (mkF m 80 #[.val (.int p1), .val (.int p2), .val (.int p3), .val (.int p4), .val (.int p5), .val (.int p6), .val (.int c309), .val (.int c312), .val (.int c315), .val (.int (2 : Int32)), .unset, .unset, .unset, .unset, .unset, .unset, .unset, .unset] [(.int (2 : Int32)), (.ref b318), (.ref b318)])) _
      exact h)
  obtain ⟨T324, h324, k324, X324, e324, E324, A324, st324⟩ := newP X318 hx hZ (hw _ (List.mem_of_getElem? (i := 7) rfl)) e318 (g := (mkF m 80 #[.val (.int p1), .val (.int p2), .val (.int p3), .val (.int p4), .val (.int p5), .val (.int p6), .val (.int c309), .val (.int c312), .val (.int c315), .val (.int (2 : Int32)), .unset, .unset, .unset, .unset, .unset, .unset, .unset, .unset] [(.int (2 : Int32)), (.ref b318), (.ref b318)])) rfl (hb hby at_80) rfl (by decide) (cap := 2) (by decide) (by decide) (by decide) (by decide)
  obtain ⟨b324, g324⟩ : ∃ z, z = h318.size := ⟨_, rfl⟩
  rw [← g324] at A324 st324
  have k326 : Rch p e below S0 T324 (mkF m 82 #[.val (.int p1), .val (.int p2), .val (.int p3), .val (.int p4), .val (.int p5), .val (.int p6), .val (.int c309), .val (.int c312), .val (.int c315), .val (.int (2 : Int32)), .unset, .unset, .unset, .unset, .unset, .unset, .unset, .unset] [(.ref b324), (.ref b318), (.ref b318)]) := fun t h => k325 t (st324 t h)
  have ne_b318_b324 : b318 ≠ b324 := own_ne E_b318.lt (Nat.le_of_eq g324.symm)
  have ge_b324 : n0 ≤ b324 := own_ge O322 (Nat.le_of_eq g324.symm)
  have sf_b324 : Safe Z consts_1 s.vm h318 b324 := Safe.new (Nat.le_of_eq g324.symm)
  replace sf_b318 := Safe.ext E324 hC321 sf_b318
  replace sf_b324 := Safe.ext E324 hC321 sf_b324
  have hC327 := hC321.ext E324
  have rC327 := rC321.trans (CHr.ext E324 hC321)
  have O328 := O322.ext E324
  replace E_b318 := E_b318.ext E324
  replace F_b318_value := F_b318_value.ext E324
  replace F_b318_coder := F_b318_coder.ext E324
  have hkk329 := Nat.le_trans hkk323 E324.1
  have V_b324 : Arv Z h324 b324 k324 .char (2 : Int32) [(.int (0 : Int32)), (.int (0 : Int32))] (.int (0 : Int32)) := (Arv.new A324 (by decide)).pad (pad_rep [] (.int (0 : Int32)) 2)
  have k331 : Rch p e below S0 T324 (mkF m 86 #[.val (.int p1), .val (.int p2), .val (.int p3), .val (.int p4), .val (.int p5), .val (.int p6), .val (.int c309), .val (.int c312), .val (.int c315), .val (.int (2 : Int32)), .unset, .unset, .unset, .unset, .unset, .unset, .unset, .unset] [(.int c309), (.int (0 : Int32)), (.ref b324), (.ref b324), (.ref b318), (.ref b318)]) := fun t h => k326 t (by
      show Steps p.tables e below (T324.setTop (mkF m 82 #[.val (.int p1), .val (.int p2), .val (.int p3), .val (.int p4), .val (.int p5), .val (.int p6), .val (.int c309), .val (.int c312), .val (.int c315), .val (.int (2 : Int32)), .unset, .unset, .unset, .unset, .unset, .unset, .unset, .unset] [(.ref b324), (.ref b318), (.ref b318)])) _
      refine XS.dup X324.here hx rfl (hb hby at_82) rfl rfl ?_
      show Steps p.tables e below (T324.setTop (mkF m 83 #[.val (.int p1), .val (.int p2), .val (.int p3), .val (.int p4), .val (.int p5), .val (.int p6), .val (.int c309), .val (.int c312), .val (.int c315), .val (.int (2 : Int32)), .unset, .unset, .unset, .unset, .unset, .unset, .unset, .unset] [(.ref b324), (.ref b324), (.ref b318), (.ref b318)])) _
      refine XS.iconst X324.here hx rfl (hb hby at_83) ?_
      show Steps p.tables e below (T324.setTop (mkF m 84 #[.val (.int p1), .val (.int p2), .val (.int p3), .val (.int p4), .val (.int p5), .val (.int p6), .val (.int c309), .val (.int c312), .val (.int c315), .val (.int (2 : Int32)), .unset, .unset, .unset, .unset, .unset, .unset, .unset, .unset] [(.int (0 : Int32)), (.ref b324), (.ref b324), (.ref b318), (.ref b318)])) _
      refine XS.iload X324.here hx rfl (hb hby at_84) rfl ?_
      show Steps p.tables e below (T324.setTop (mkF m 86 #[.val (.int p1), .val (.int p2), .val (.int p3), .val (.int p4), .val (.int p5), .val (.int p6), .val (.int c309), .val (.int c312), .val (.int c315), .val (.int (2 : Int32)), .unset, .unset, .unset, .unset, .unset, .unset, .unset, .unset] [(.int c309), (.int (0 : Int32)), (.ref b324), (.ref b324), (.ref b318), (.ref b318)])) _
      exact h)
  obtain ⟨cl330, Ar330, q330, Sz330, Ng330, Hs330, G330⟩ := id V_b324
  have hin330 : ¬ ((0 : Int32) < 0 ∨ cl330.slots.size ≤ ((0 : Int32)).toNatClampNeg) := inb_of Sz330 ⟨by decide, by decide⟩
  obtain ⟨T330, h330, X330, e330, W330, st330⟩ := stC X324 hx hZ e324 Ar330 (j := (0 : Int32)) hin330 (g := (mkF m 86 #[.val (.int p1), .val (.int p2), .val (.int p3), .val (.int p4), .val (.int p5), .val (.int p6), .val (.int c309), .val (.int c312), .val (.int c315), .val (.int (2 : Int32)), .unset, .unset, .unset, .unset, .unset, .unset, .unset, .unset] [(.int c309), (.int (0 : Int32)), (.ref b324), (.ref b324), (.ref b318), (.ref b318)])) rfl rfl (hb hby at_86)
  have k332 : Rch p e below S0 T330 (mkF m 87 #[.val (.int p1), .val (.int p2), .val (.int p3), .val (.int p4), .val (.int p5), .val (.int p6), .val (.int c309), .val (.int c312), .val (.int c315), .val (.int (2 : Int32)), .unset, .unset, .unset, .unset, .unset, .unset, .unset, .unset] [(.ref b324), (.ref b318), (.ref b318)]) := fun t h => k331 t (st330 t h)
  have N330 := Fr.snoc X330 N315 ge_b324
  have V_b324' := Arv.set Ar330 q330 Sz330 Ng330 Hs330 G330 (fits_nar_char _) W330 0 rfl (Nat.le_of_ble_eq_true rfl)
  replace V_b324 : Arv Z h330 b324 k324 .char (2 : Int32) [(.int c309), (.int (0 : Int32))] (.int (0 : Int32)) := (by have q := V_b324'; rw [(own_nar c309 hc309).1] at q; exact q)
  have hC333 := hC327.wr W330 sf_b324
  have rC333 := rC327.trans (CHr.wr W330 sf_b324 hC327)
  replace sf_b318 := Safe.wr W330 sf_b324 hC327 sf_b318
  replace sf_b324 := Safe.wr W330 sf_b324 hC327 sf_b324
  have O334 := O328.wr W330 ge_b324
  replace E_b318 := E_b318.wr W330
  replace F_b318_value := F_b318_value.other W330 (Or.inl ne_b318_b324)
  replace F_b318_coder := F_b318_coder.other W330 (Or.inl ne_b318_b324)
  have hkk335 := Nat.le_trans hkk329 (Keep.of_wr W330).1
  have k337 : Rch p e below S0 T330 (mkF m 91 #[.val (.int p1), .val (.int p2), .val (.int p3), .val (.int p4), .val (.int p5), .val (.int p6), .val (.int c309), .val (.int c312), .val (.int c315), .val (.int (2 : Int32)), .unset, .unset, .unset, .unset, .unset, .unset, .unset, .unset] [(.int c312), (.int (1 : Int32)), (.ref b324), (.ref b324), (.ref b318), (.ref b318)]) := fun t h => k332 t (by
      show Steps p.tables e below (T330.setTop (mkF m 87 #[.val (.int p1), .val (.int p2), .val (.int p3), .val (.int p4), .val (.int p5), .val (.int p6), .val (.int c309), .val (.int c312), .val (.int c315), .val (.int (2 : Int32)), .unset, .unset, .unset, .unset, .unset, .unset, .unset, .unset] [(.ref b324), (.ref b318), (.ref b318)])) _
      refine XS.dup X330.here hx rfl (hb hby at_87) rfl rfl ?_
      show Steps p.tables e below (T330.setTop (mkF m 88 #[.val (.int p1), .val (.int p2), .val (.int p3), .val (.int p4), .val (.int p5), .val (.int p6), .val (.int c309), .val (.int c312), .val (.int c315), .val (.int (2 : Int32)), .unset, .unset, .unset, .unset, .unset, .unset, .unset, .unset] [(.ref b324), (.ref b324), (.ref b318), (.ref b318)])) _
      refine XS.iconst X330.here hx rfl (hb hby at_88) ?_
      show Steps p.tables e below (T330.setTop (mkF m 89 #[.val (.int p1), .val (.int p2), .val (.int p3), .val (.int p4), .val (.int p5), .val (.int p6), .val (.int c309), .val (.int c312), .val (.int c315), .val (.int (2 : Int32)), .unset, .unset, .unset, .unset, .unset, .unset, .unset, .unset] [(.int (1 : Int32)), (.ref b324), (.ref b324), (.ref b318), (.ref b318)])) _
      refine XS.iload X330.here hx rfl (hb hby at_89) rfl ?_
      show Steps p.tables e below (T330.setTop (mkF m 91 #[.val (.int p1), .val (.int p2), .val (.int p3), .val (.int p4), .val (.int p5), .val (.int p6), .val (.int c309), .val (.int c312), .val (.int c315), .val (.int (2 : Int32)), .unset, .unset, .unset, .unset, .unset, .unset, .unset, .unset] [(.int c312), (.int (1 : Int32)), (.ref b324), (.ref b324), (.ref b318), (.ref b318)])) _
      exact h)
  obtain ⟨cl336, Ar336, q336, Sz336, Ng336, Hs336, G336⟩ := id V_b324
  have hin336 : ¬ ((1 : Int32) < 0 ∨ cl336.slots.size ≤ ((1 : Int32)).toNatClampNeg) := inb_of Sz336 ⟨by decide, by decide⟩
  obtain ⟨T336, h336, X336, e336, W336, st336⟩ := stC X330 hx hZ e330 Ar336 (j := (1 : Int32)) hin336 (g := (mkF m 91 #[.val (.int p1), .val (.int p2), .val (.int p3), .val (.int p4), .val (.int p5), .val (.int p6), .val (.int c309), .val (.int c312), .val (.int c315), .val (.int (2 : Int32)), .unset, .unset, .unset, .unset, .unset, .unset, .unset, .unset] [(.int c312), (.int (1 : Int32)), (.ref b324), (.ref b324), (.ref b318), (.ref b318)])) rfl rfl (hb hby at_91)
  have k338 : Rch p e below S0 T336 (mkF m 92 #[.val (.int p1), .val (.int p2), .val (.int p3), .val (.int p4), .val (.int p5), .val (.int p6), .val (.int c309), .val (.int c312), .val (.int c315), .val (.int (2 : Int32)), .unset, .unset, .unset, .unset, .unset, .unset, .unset, .unset] [(.ref b324), (.ref b318), (.ref b318)]) := fun t h => k337 t (st336 t h)
  have N336 := Fr.snoc X336 N330 ge_b324
  have V_b324' := Arv.set Ar336 q336 Sz336 Ng336 Hs336 G336 (fits_nar_char _) W336 1 rfl (Nat.le_of_ble_eq_true rfl)
  replace V_b324 : Arv Z h336 b324 k324 .char (2 : Int32) [(.int c309), (.int c312)] (.int (0 : Int32)) := (by have q := V_b324'; rw [(own_nar c312 hc312).1] at q; exact q)
  have hC339 := hC333.wr W336 sf_b324
  have rC339 := rC333.trans (CHr.wr W336 sf_b324 hC333)
  replace sf_b318 := Safe.wr W336 sf_b324 hC333 sf_b318
  replace sf_b324 := Safe.wr W336 sf_b324 hC333 sf_b324
  have O340 := O334.wr W336 ge_b324
  replace E_b318 := E_b318.wr W336
  replace F_b318_value := F_b318_value.other W336 (Or.inl ne_b318_b324)
  replace F_b318_coder := F_b318_coder.other W336 (Or.inl ne_b318_b324)
  have hkk341 := Nat.le_trans hkk335 (Keep.of_wr W336).1
  have hws : ∀ d ∈ StrChars.Road.words, d.before a0 Z = true := fun d hd => hw d ((by decide +kernel : ∀ d ∈ StrChars.Road.words, d ∈ tables_1) d hd)
  have hp : ∀ c ∈ ([c309, c312] : List Int32), ¬ c < 0 ∧ ¬ (255 : Int32) < c := by
    intro c hc
    simp only [List.mem_cons, List.not_mem_nil, or_false] at hc
    rcases hc with rfl | rfl
    · exact hc309
    · exact hc312
  obtain ⟨_, _, ⟨T342, L342, kk342, n342⟩, -, X342, ⟨Lc342, hQ342, l342, y342, z342⟩, st342⟩ := X336.specialBack hx (y := (⟨"java/lang/String", "<init>", "([C)V"⟩ : MethodName)) rfl hown (mvT hZ (hw _ (List.mem_of_getElem? (i := 8) rfl))) (mvT hZ (hw _ (List.mem_of_getElem? (i := 9) rfl))) (mvT hZ (hw _ (List.mem_of_getElem? (i := 10) rfl))) (by decide) (StrChars.Road.backV (W := 1) hZ hws (kI := 4) (hw _ (List.mem_of_getElem? (i := 5) rfl)) (cs := [c309, c312]) (bs := [c309, c312].map (fun c => c.toInt8.toInt32)) (n := 2) ge_b318 (own_le O340) E_b318 F_b318_value F_b318_coder V_b324 (SC.ext O340.2) hzC rfl rfl (by decide) (by decide) hp rfl (by decide) (by decide)) (g := (mkF m 92 #[.val (.int p1), .val (.int p2), .val (.int p3), .val (.int p4), .val (.int p5), .val (.int p6), .val (.int c309), .val (.int c312), .val (.int c315), .val (.int (2 : Int32)), .unset, .unset, .unset, .unset, .unset, .unset, .unset, .unset] [(.ref b324), (.ref b318), (.ref b318)])) rfl (by rw [hml]; rfl) (Steps.refl _) (a := b318) (argsL := [(.ref b324)]) (rest := [(.ref b318)]) (lenOf pd_1 rfl) rfl (by show 2 * 0 + _ ≤ _; exact Nat.le_of_eq rfl) (hb hby at_92) (fun _ _ => ⟨rfl, e336, (by decide : 2 + 1 ≤ _), (by decide : 6 + 2 ≤ _)⟩)
  dsimp only [Pt.U, Pt.locs, Pt.cells, Pt.slots] at X342 l342 y342 z342 st342 hQ342
  subst l342 y342 z342
  obtain ⟨rfl, Nq342, K342, Eb342, Cb342, t342, kb342, u342, v342, ww342, Vb342, Ab342⟩ := hQ342
  have N342 := Fr.app N336 Nq342
  have k343 : Rch p e below S0 T342 (mkF m 95 #[.val (.int p1), .val (.int p2), .val (.int p3), .val (.int p4), .val (.int p5), .val (.int p6), .val (.int c309), .val (.int c312), .val (.int c315), .val (.int (2 : Int32)), .unset, .unset, .unset, .unset, .unset, .unset, .unset, .unset] [(.ref b318)]) := fun t h => k338 t (st342.trans h)
  have hC344 := hC339.keep K342 (sfS sf_b318 sf0)
  have rC344 := rC339.trans (CHr.keep K342 (sfS sf_b318 sf0) hC339)
  have sfx345 := (sfS sf_b318 sf0)
  replace sf_b318 := Safe.keep K342 sfx345 hC339 sf_b318
  replace sf_b324 := Safe.keep K342 sfx345 hC339 sf_b324
  have O346 := O340.keep K342 (allS ge_b318 all0)
  replace E_b318 := E_b318.keep K342
  replace V_b324 := V_b324.keep K342 (ninS (Ne.symm ne_b318_b324) nin0)
  have hkk347 := Nat.le_trans hkk341 K342.1
  have k348 : Rch p e below S0 T342 (mkF m 127 #[.val (.int p1), .val (.int p2), .val (.int p3), .val (.int p4), .val (.int p5), .val (.int p6), .val (.int c309), .val (.int c312), .val (.int c315), .val (.int (2 : Int32)), .val (.ref b318), .unset, .unset, .unset, .unset, .unset, .unset, .unset] []) := fun t h => k343 t (by
      show Steps p.tables e below (T342.setTop (mkF m 95 #[.val (.int p1), .val (.int p2), .val (.int p3), .val (.int p4), .val (.int p5), .val (.int p6), .val (.int c309), .val (.int c312), .val (.int c315), .val (.int (2 : Int32)), .unset, .unset, .unset, .unset, .unset, .unset, .unset, .unset] [(.ref b318)])) _
      refine XS.astore X342.here hx rfl (hb hby at_95) rfl rfl (l' := #[.val (.int p1), .val (.int p2), .val (.int p3), .val (.int p4), .val (.int p5), .val (.int p6), .val (.int c309), .val (.int c312), .val (.int c315), .val (.int (2 : Int32)), .val (.ref b318), .unset, .unset, .unset, .unset, .unset, .unset, .unset]) rfl ?_
      show Steps p.tables e below (T342.setTop (mkF m 97 #[.val (.int p1), .val (.int p2), .val (.int p3), .val (.int p4), .val (.int p5), .val (.int p6), .val (.int c309), .val (.int c312), .val (.int c315), .val (.int (2 : Int32)), .val (.ref b318), .unset, .unset, .unset, .unset, .unset, .unset, .unset] [])) _
      refine XS.goto X342.here hx rfl (pc0 := 97) (pc' := 127) rfl (hb hby at_97) (by decide) (by decide) ?_
      show Steps p.tables e below (T342.setTop (mkF m 127 #[.val (.int p1), .val (.int p2), .val (.int p3), .val (.int p4), .val (.int p5), .val (.int p6), .val (.int c309), .val (.int c312), .val (.int c315), .val (.int (2 : Int32)), .val (.ref b318), .unset, .unset, .unset, .unset, .unset, .unset, .unset] [])) _
      exact h)
  obtain ⟨T361, kk, wK, X361, e361, k361⟩ : ∃ (T' : State) (kk : Int32) (wK : Addr), Like X342 T' ∧ T'.heap = T342.heap ∧ Rch p e below S0 T' (mkF m 168 #[.val (.int p1), .val (.int p2), .val (.int p3), .val (.int p4), .val (.int p5), .val (.int p6), .val (.int c309), .val (.int c312), .val (.int c315), .val (.int (2 : Int32)), .val (.ref b318), .val (.int kk), .val (.ref wK), .unset, .unset, .unset, .unset, .unset] []) := by
    rcases own_sel p5 with hk1 | hk1 | hk1
    · have k350 : Rch p e below S0 T342 (mkF m 141 #[.val (.int p1), .val (.int p2), .val (.int p3), .val (.int p4), .val (.int p5), .val (.int p6), .val (.int c309), .val (.int c312), .val (.int c315), .val (.int (2 : Int32)), .val (.ref b318), .val (.int (0 : Int32)), .unset, .unset, .unset, .unset, .unset, .unset] []) := fun t h => k348 t (by
          show Steps p.tables e below (T342.setTop (mkF m 127 #[.val (.int p1), .val (.int p2), .val (.int p3), .val (.int p4), .val (.int p5), .val (.int p6), .val (.int c309), .val (.int c312), .val (.int c315), .val (.int (2 : Int32)), .val (.ref b318), .unset, .unset, .unset, .unset, .unset, .unset, .unset] [])) _
          refine XS.iload X342.here hx rfl (hb hby at_127) rfl ?_
          show Steps p.tables e below (T342.setTop (mkF m 129 #[.val (.int p1), .val (.int p2), .val (.int p3), .val (.int p4), .val (.int p5), .val (.int p6), .val (.int c309), .val (.int c312), .val (.int c315), .val (.int (2 : Int32)), .val (.ref b318), .unset, .unset, .unset, .unset, .unset, .unset, .unset] [(.int p5)])) _
          refine X342.ldcInt hx hown (mvT hZ (hw _ (List.mem_of_getElem? (i := 26) rfl))) (g := (mkF m 129 #[.val (.int p1), .val (.int p2), .val (.int p3), .val (.int p4), .val (.int p5), .val (.int p6), .val (.int c309), .val (.int c312), .val (.int c315), .val (.int (2 : Int32)), .val (.ref b318), .unset, .unset, .unset, .unset, .unset, .unset, .unset] [(.int p5)])) rfl (hb hby at_129) _ ?_
          show Steps p.tables e below (T342.setTop (mkF m 131 #[.val (.int p1), .val (.int p2), .val (.int p3), .val (.int p4), .val (.int p5), .val (.int p6), .val (.int c309), .val (.int c312), .val (.int c315), .val (.int (2 : Int32)), .val (.ref b318), .unset, .unset, .unset, .unset, .unset, .unset, .unset] [(.int (2147483647 : Int32)), (.int p5)])) _
          refine XS.iand X342.here hx rfl (hb hby at_131) rfl ?_
          show Steps p.tables e below (T342.setTop (mkF m 132 #[.val (.int p1), .val (.int p2), .val (.int p3), .val (.int p4), .val (.int p5), .val (.int p6), .val (.int c309), .val (.int c312), .val (.int c315), .val (.int (2 : Int32)), .val (.ref b318), .unset, .unset, .unset, .unset, .unset, .unset, .unset] [(.int (p5 &&& (2147483647 : Int32)))])) _
          refine XS.iconst X342.here hx rfl (hb hby at_132) ?_
          show Steps p.tables e below (T342.setTop (mkF m 133 #[.val (.int p1), .val (.int p2), .val (.int p3), .val (.int p4), .val (.int p5), .val (.int p6), .val (.int c309), .val (.int c312), .val (.int c315), .val (.int (2 : Int32)), .val (.ref b318), .unset, .unset, .unset, .unset, .unset, .unset, .unset] [(.int (3 : Int32)), (.int (p5 &&& (2147483647 : Int32)))])) _
          refine iremM X342 hx rfl (hb hby at_133) rfl (by decide) ?_
          rw [hk1]
          show Steps p.tables e below (T342.setTop (mkF m 134 #[.val (.int p1), .val (.int p2), .val (.int p3), .val (.int p4), .val (.int p5), .val (.int p6), .val (.int c309), .val (.int c312), .val (.int c315), .val (.int (2 : Int32)), .val (.ref b318), .unset, .unset, .unset, .unset, .unset, .unset, .unset] [(.int (0 : Int32))])) _
          refine XS.istore X342.here hx rfl (hb hby at_134) rfl (l' := #[.val (.int p1), .val (.int p2), .val (.int p3), .val (.int p4), .val (.int p5), .val (.int p6), .val (.int c309), .val (.int c312), .val (.int c315), .val (.int (2 : Int32)), .val (.ref b318), .val (.int (0 : Int32)), .unset, .unset, .unset, .unset, .unset, .unset]) rfl ?_
          show Steps p.tables e below (T342.setTop (mkF m 136 #[.val (.int p1), .val (.int p2), .val (.int p3), .val (.int p4), .val (.int p5), .val (.int p6), .val (.int c309), .val (.int c312), .val (.int c315), .val (.int (2 : Int32)), .val (.ref b318), .val (.int (0 : Int32)), .unset, .unset, .unset, .unset, .unset, .unset] [])) _
          refine XS.iload X342.here hx rfl (hb hby at_136) rfl ?_
          show Steps p.tables e below (T342.setTop (mkF m 138 #[.val (.int p1), .val (.int p2), .val (.int p3), .val (.int p4), .val (.int p5), .val (.int p6), .val (.int c309), .val (.int c312), .val (.int c315), .val (.int (2 : Int32)), .val (.ref b318), .val (.int (0 : Int32)), .unset, .unset, .unset, .unset, .unset, .unset] [(.int (0 : Int32))])) _
          refine XS.ifNo X342.here hx rfl (hb hby at_138) rfl ((if0 _ _).trans (teq (by decide : (0 : Int32) = (0 : Int32))).2) ?_
          show Steps p.tables e below (T342.setTop (mkF m 141 #[.val (.int p1), .val (.int p2), .val (.int p3), .val (.int p4), .val (.int p5), .val (.int p6), .val (.int c309), .val (.int c312), .val (.int c315), .val (.int (2 : Int32)), .val (.ref b318), .val (.int (0 : Int32)), .unset, .unset, .unset, .unset, .unset, .unset] [])) _
          exact h)
      obtain ⟨T349, X349, e349, st349⟩ := getS2 X342 hx hZ hown (host := "") (Or.inl (hw _ (List.mem_of_getElem? (i := 27) rfl))) Via.refl rfl (SM.ext O346.2) (g := (mkF m 141 #[.val (.int p1), .val (.int p2), .val (.int p3), .val (.int p4), .val (.int p5), .val (.int p6), .val (.int c309), .val (.int c312), .val (.int c315), .val (.int (2 : Int32)), .val (.ref b318), .val (.int (0 : Int32)), .unset, .unset, .unset, .unset, .unset, .unset] [])) rfl (hb hby at_141)
      have k351 : Rch p e below S0 T349 (mkF m 144 #[.val (.int p1), .val (.int p2), .val (.int p3), .val (.int p4), .val (.int p5), .val (.int p6), .val (.int c309), .val (.int c312), .val (.int c315), .val (.int (2 : Int32)), .val (.ref b318), .val (.int (0 : Int32)), .unset, .unset, .unset, .unset, .unset, .unset] [(.ref wM)]) := fun t h => k350 t (st349 t h)
      have k352 : Rch p e below S0 T349 (mkF m 168 #[.val (.int p1), .val (.int p2), .val (.int p3), .val (.int p4), .val (.int p5), .val (.int p6), .val (.int c309), .val (.int c312), .val (.int c315), .val (.int (2 : Int32)), .val (.ref b318), .val (.int (0 : Int32)), .val (.ref wM), .unset, .unset, .unset, .unset, .unset] []) := fun t h => k351 t (by
          show Steps p.tables e below (T349.setTop (mkF m 144 #[.val (.int p1), .val (.int p2), .val (.int p3), .val (.int p4), .val (.int p5), .val (.int p6), .val (.int c309), .val (.int c312), .val (.int c315), .val (.int (2 : Int32)), .val (.ref b318), .val (.int (0 : Int32)), .unset, .unset, .unset, .unset, .unset, .unset] [(.ref wM)])) _
          refine XS.astore X349.here hx rfl (hb hby at_144) rfl rfl (l' := #[.val (.int p1), .val (.int p2), .val (.int p3), .val (.int p4), .val (.int p5), .val (.int p6), .val (.int c309), .val (.int c312), .val (.int c315), .val (.int (2 : Int32)), .val (.ref b318), .val (.int (0 : Int32)), .val (.ref wM), .unset, .unset, .unset, .unset, .unset]) rfl ?_
          show Steps p.tables e below (T349.setTop (mkF m 146 #[.val (.int p1), .val (.int p2), .val (.int p3), .val (.int p4), .val (.int p5), .val (.int p6), .val (.int c309), .val (.int c312), .val (.int c315), .val (.int (2 : Int32)), .val (.ref b318), .val (.int (0 : Int32)), .val (.ref wM), .unset, .unset, .unset, .unset, .unset] [])) _
          refine XS.goto X349.here hx rfl (pc0 := 146) (pc' := 168) rfl (hb hby at_146) (by decide) (by decide) ?_
          show Steps p.tables e below (T349.setTop (mkF m 168 #[.val (.int p1), .val (.int p2), .val (.int p3), .val (.int p4), .val (.int p5), .val (.int p6), .val (.int c309), .val (.int c312), .val (.int c315), .val (.int (2 : Int32)), .val (.ref b318), .val (.int (0 : Int32)), .val (.ref wM), .unset, .unset, .unset, .unset, .unset] [])) _
          exact h)
      exact ⟨_, (0 : Int32), wM, X349, e349, k352⟩
    · have k354 : Rch p e below S0 T342 (mkF m 155 #[.val (.int p1), .val (.int p2), .val (.int p3), .val (.int p4), .val (.int p5), .val (.int p6), .val (.int c309), .val (.int c312), .val (.int c315), .val (.int (2 : Int32)), .val (.ref b318), .val (.int (1 : Int32)), .unset, .unset, .unset, .unset, .unset, .unset] []) := fun t h => k348 t (by
          show Steps p.tables e below (T342.setTop (mkF m 127 #[.val (.int p1), .val (.int p2), .val (.int p3), .val (.int p4), .val (.int p5), .val (.int p6), .val (.int c309), .val (.int c312), .val (.int c315), .val (.int (2 : Int32)), .val (.ref b318), .unset, .unset, .unset, .unset, .unset, .unset, .unset] [])) _
          refine XS.iload X342.here hx rfl (hb hby at_127) rfl ?_
          show Steps p.tables e below (T342.setTop (mkF m 129 #[.val (.int p1), .val (.int p2), .val (.int p3), .val (.int p4), .val (.int p5), .val (.int p6), .val (.int c309), .val (.int c312), .val (.int c315), .val (.int (2 : Int32)), .val (.ref b318), .unset, .unset, .unset, .unset, .unset, .unset, .unset] [(.int p5)])) _
          refine X342.ldcInt hx hown (mvT hZ (hw _ (List.mem_of_getElem? (i := 26) rfl))) (g := (mkF m 129 #[.val (.int p1), .val (.int p2), .val (.int p3), .val (.int p4), .val (.int p5), .val (.int p6), .val (.int c309), .val (.int c312), .val (.int c315), .val (.int (2 : Int32)), .val (.ref b318), .unset, .unset, .unset, .unset, .unset, .unset, .unset] [(.int p5)])) rfl (hb hby at_129) _ ?_
          show Steps p.tables e below (T342.setTop (mkF m 131 #[.val (.int p1), .val (.int p2), .val (.int p3), .val (.int p4), .val (.int p5), .val (.int p6), .val (.int c309), .val (.int c312), .val (.int c315), .val (.int (2 : Int32)), .val (.ref b318), .unset, .unset, .unset, .unset, .unset, .unset, .unset] [(.int (2147483647 : Int32)), (.int p5)])) _
          refine XS.iand X342.here hx rfl (hb hby at_131) rfl ?_
          show Steps p.tables e below (T342.setTop (mkF m 132 #[.val (.int p1), .val (.int p2), .val (.int p3), .val (.int p4), .val (.int p5), .val (.int p6), .val (.int c309), .val (.int c312), .val (.int c315), .val (.int (2 : Int32)), .val (.ref b318), .unset, .unset, .unset, .unset, .unset, .unset, .unset] [(.int (p5 &&& (2147483647 : Int32)))])) _
          refine XS.iconst X342.here hx rfl (hb hby at_132) ?_
          show Steps p.tables e below (T342.setTop (mkF m 133 #[.val (.int p1), .val (.int p2), .val (.int p3), .val (.int p4), .val (.int p5), .val (.int p6), .val (.int c309), .val (.int c312), .val (.int c315), .val (.int (2 : Int32)), .val (.ref b318), .unset, .unset, .unset, .unset, .unset, .unset, .unset] [(.int (3 : Int32)), (.int (p5 &&& (2147483647 : Int32)))])) _
          refine iremM X342 hx rfl (hb hby at_133) rfl (by decide) ?_
          rw [hk1]
          show Steps p.tables e below (T342.setTop (mkF m 134 #[.val (.int p1), .val (.int p2), .val (.int p3), .val (.int p4), .val (.int p5), .val (.int p6), .val (.int c309), .val (.int c312), .val (.int c315), .val (.int (2 : Int32)), .val (.ref b318), .unset, .unset, .unset, .unset, .unset, .unset, .unset] [(.int (1 : Int32))])) _
          refine XS.istore X342.here hx rfl (hb hby at_134) rfl (l' := #[.val (.int p1), .val (.int p2), .val (.int p3), .val (.int p4), .val (.int p5), .val (.int p6), .val (.int c309), .val (.int c312), .val (.int c315), .val (.int (2 : Int32)), .val (.ref b318), .val (.int (1 : Int32)), .unset, .unset, .unset, .unset, .unset, .unset]) rfl ?_
          show Steps p.tables e below (T342.setTop (mkF m 136 #[.val (.int p1), .val (.int p2), .val (.int p3), .val (.int p4), .val (.int p5), .val (.int p6), .val (.int c309), .val (.int c312), .val (.int c315), .val (.int (2 : Int32)), .val (.ref b318), .val (.int (1 : Int32)), .unset, .unset, .unset, .unset, .unset, .unset] [])) _
          refine XS.iload X342.here hx rfl (hb hby at_136) rfl ?_
          show Steps p.tables e below (T342.setTop (mkF m 138 #[.val (.int p1), .val (.int p2), .val (.int p3), .val (.int p4), .val (.int p5), .val (.int p6), .val (.int c309), .val (.int c312), .val (.int c315), .val (.int (2 : Int32)), .val (.ref b318), .val (.int (1 : Int32)), .unset, .unset, .unset, .unset, .unset, .unset] [(.int (1 : Int32))])) _
          refine XS.ifYes X342.here hx rfl (pc0 := 138) (pc' := 149) rfl (hb hby at_138) rfl ((if0 _ _).trans (feq (by decide : ¬ ((1 : Int32) = (0 : Int32)))).2) (by decide) (by decide) ?_
          show Steps p.tables e below (T342.setTop (mkF m 149 #[.val (.int p1), .val (.int p2), .val (.int p3), .val (.int p4), .val (.int p5), .val (.int p6), .val (.int c309), .val (.int c312), .val (.int c315), .val (.int (2 : Int32)), .val (.ref b318), .val (.int (1 : Int32)), .unset, .unset, .unset, .unset, .unset, .unset] [])) _
          refine XS.iload X342.here hx rfl (hb hby at_149) rfl ?_
          show Steps p.tables e below (T342.setTop (mkF m 151 #[.val (.int p1), .val (.int p2), .val (.int p3), .val (.int p4), .val (.int p5), .val (.int p6), .val (.int c309), .val (.int c312), .val (.int c315), .val (.int (2 : Int32)), .val (.ref b318), .val (.int (1 : Int32)), .unset, .unset, .unset, .unset, .unset, .unset] [(.int (1 : Int32))])) _
          refine XS.iconst X342.here hx rfl (hb hby at_151) ?_
          show Steps p.tables e below (T342.setTop (mkF m 152 #[.val (.int p1), .val (.int p2), .val (.int p3), .val (.int p4), .val (.int p5), .val (.int p6), .val (.int c309), .val (.int c312), .val (.int c315), .val (.int (2 : Int32)), .val (.ref b318), .val (.int (1 : Int32)), .unset, .unset, .unset, .unset, .unset, .unset] [(.int (1 : Int32)), (.int (1 : Int32))])) _
          refine XS.icmpNo X342.here hx rfl (hb hby at_152) rfl (teq (by decide : (1 : Int32) = (1 : Int32))).2 ?_
          show Steps p.tables e below (T342.setTop (mkF m 155 #[.val (.int p1), .val (.int p2), .val (.int p3), .val (.int p4), .val (.int p5), .val (.int p6), .val (.int c309), .val (.int c312), .val (.int c315), .val (.int (2 : Int32)), .val (.ref b318), .val (.int (1 : Int32)), .unset, .unset, .unset, .unset, .unset, .unset] [])) _
          exact h)
      obtain ⟨T353, X353, e353, st353⟩ := getS2 X342 hx hZ hown (host := "") (Or.inl (hw _ (List.mem_of_getElem? (i := 93) rfl))) Via.refl rfl (SP.ext O346.2) (g := (mkF m 155 #[.val (.int p1), .val (.int p2), .val (.int p3), .val (.int p4), .val (.int p5), .val (.int p6), .val (.int c309), .val (.int c312), .val (.int c315), .val (.int (2 : Int32)), .val (.ref b318), .val (.int (1 : Int32)), .unset, .unset, .unset, .unset, .unset, .unset] [])) rfl (hb hby at_155)
      have k355 : Rch p e below S0 T353 (mkF m 158 #[.val (.int p1), .val (.int p2), .val (.int p3), .val (.int p4), .val (.int p5), .val (.int p6), .val (.int c309), .val (.int c312), .val (.int c315), .val (.int (2 : Int32)), .val (.ref b318), .val (.int (1 : Int32)), .unset, .unset, .unset, .unset, .unset, .unset] [(.ref wP)]) := fun t h => k354 t (st353 t h)
      have k356 : Rch p e below S0 T353 (mkF m 168 #[.val (.int p1), .val (.int p2), .val (.int p3), .val (.int p4), .val (.int p5), .val (.int p6), .val (.int c309), .val (.int c312), .val (.int c315), .val (.int (2 : Int32)), .val (.ref b318), .val (.int (1 : Int32)), .val (.ref wP), .unset, .unset, .unset, .unset, .unset] []) := fun t h => k355 t (by
          show Steps p.tables e below (T353.setTop (mkF m 158 #[.val (.int p1), .val (.int p2), .val (.int p3), .val (.int p4), .val (.int p5), .val (.int p6), .val (.int c309), .val (.int c312), .val (.int c315), .val (.int (2 : Int32)), .val (.ref b318), .val (.int (1 : Int32)), .unset, .unset, .unset, .unset, .unset, .unset] [(.ref wP)])) _
          refine XS.astore X353.here hx rfl (hb hby at_158) rfl rfl (l' := #[.val (.int p1), .val (.int p2), .val (.int p3), .val (.int p4), .val (.int p5), .val (.int p6), .val (.int c309), .val (.int c312), .val (.int c315), .val (.int (2 : Int32)), .val (.ref b318), .val (.int (1 : Int32)), .val (.ref wP), .unset, .unset, .unset, .unset, .unset]) rfl ?_
          show Steps p.tables e below (T353.setTop (mkF m 160 #[.val (.int p1), .val (.int p2), .val (.int p3), .val (.int p4), .val (.int p5), .val (.int p6), .val (.int c309), .val (.int c312), .val (.int c315), .val (.int (2 : Int32)), .val (.ref b318), .val (.int (1 : Int32)), .val (.ref wP), .unset, .unset, .unset, .unset, .unset] [])) _
          refine XS.goto X353.here hx rfl (pc0 := 160) (pc' := 168) rfl (hb hby at_160) (by decide) (by decide) ?_
          show Steps p.tables e below (T353.setTop (mkF m 168 #[.val (.int p1), .val (.int p2), .val (.int p3), .val (.int p4), .val (.int p5), .val (.int p6), .val (.int c309), .val (.int c312), .val (.int c315), .val (.int (2 : Int32)), .val (.ref b318), .val (.int (1 : Int32)), .val (.ref wP), .unset, .unset, .unset, .unset, .unset] [])) _
          exact h)
      exact ⟨_, (1 : Int32), wP, X353, e353, k356⟩
    · have k358 : Rch p e below S0 T342 (mkF m 163 #[.val (.int p1), .val (.int p2), .val (.int p3), .val (.int p4), .val (.int p5), .val (.int p6), .val (.int c309), .val (.int c312), .val (.int c315), .val (.int (2 : Int32)), .val (.ref b318), .val (.int (2 : Int32)), .unset, .unset, .unset, .unset, .unset, .unset] []) := fun t h => k348 t (by
          show Steps p.tables e below (T342.setTop (mkF m 127 #[.val (.int p1), .val (.int p2), .val (.int p3), .val (.int p4), .val (.int p5), .val (.int p6), .val (.int c309), .val (.int c312), .val (.int c315), .val (.int (2 : Int32)), .val (.ref b318), .unset, .unset, .unset, .unset, .unset, .unset, .unset] [])) _
          refine XS.iload X342.here hx rfl (hb hby at_127) rfl ?_
          show Steps p.tables e below (T342.setTop (mkF m 129 #[.val (.int p1), .val (.int p2), .val (.int p3), .val (.int p4), .val (.int p5), .val (.int p6), .val (.int c309), .val (.int c312), .val (.int c315), .val (.int (2 : Int32)), .val (.ref b318), .unset, .unset, .unset, .unset, .unset, .unset, .unset] [(.int p5)])) _
          refine X342.ldcInt hx hown (mvT hZ (hw _ (List.mem_of_getElem? (i := 26) rfl))) (g := (mkF m 129 #[.val (.int p1), .val (.int p2), .val (.int p3), .val (.int p4), .val (.int p5), .val (.int p6), .val (.int c309), .val (.int c312), .val (.int c315), .val (.int (2 : Int32)), .val (.ref b318), .unset, .unset, .unset, .unset, .unset, .unset, .unset] [(.int p5)])) rfl (hb hby at_129) _ ?_
          show Steps p.tables e below (T342.setTop (mkF m 131 #[.val (.int p1), .val (.int p2), .val (.int p3), .val (.int p4), .val (.int p5), .val (.int p6), .val (.int c309), .val (.int c312), .val (.int c315), .val (.int (2 : Int32)), .val (.ref b318), .unset, .unset, .unset, .unset, .unset, .unset, .unset] [(.int (2147483647 : Int32)), (.int p5)])) _
          refine XS.iand X342.here hx rfl (hb hby at_131) rfl ?_
          show Steps p.tables e below (T342.setTop (mkF m 132 #[.val (.int p1), .val (.int p2), .val (.int p3), .val (.int p4), .val (.int p5), .val (.int p6), .val (.int c309), .val (.int c312), .val (.int c315), .val (.int (2 : Int32)), .val (.ref b318), .unset, .unset, .unset, .unset, .unset, .unset, .unset] [(.int (p5 &&& (2147483647 : Int32)))])) _
          refine XS.iconst X342.here hx rfl (hb hby at_132) ?_
          show Steps p.tables e below (T342.setTop (mkF m 133 #[.val (.int p1), .val (.int p2), .val (.int p3), .val (.int p4), .val (.int p5), .val (.int p6), .val (.int c309), .val (.int c312), .val (.int c315), .val (.int (2 : Int32)), .val (.ref b318), .unset, .unset, .unset, .unset, .unset, .unset, .unset] [(.int (3 : Int32)), (.int (p5 &&& (2147483647 : Int32)))])) _
          refine iremM X342 hx rfl (hb hby at_133) rfl (by decide) ?_
          rw [hk1]
          show Steps p.tables e below (T342.setTop (mkF m 134 #[.val (.int p1), .val (.int p2), .val (.int p3), .val (.int p4), .val (.int p5), .val (.int p6), .val (.int c309), .val (.int c312), .val (.int c315), .val (.int (2 : Int32)), .val (.ref b318), .unset, .unset, .unset, .unset, .unset, .unset, .unset] [(.int (2 : Int32))])) _
          refine XS.istore X342.here hx rfl (hb hby at_134) rfl (l' := #[.val (.int p1), .val (.int p2), .val (.int p3), .val (.int p4), .val (.int p5), .val (.int p6), .val (.int c309), .val (.int c312), .val (.int c315), .val (.int (2 : Int32)), .val (.ref b318), .val (.int (2 : Int32)), .unset, .unset, .unset, .unset, .unset, .unset]) rfl ?_
          show Steps p.tables e below (T342.setTop (mkF m 136 #[.val (.int p1), .val (.int p2), .val (.int p3), .val (.int p4), .val (.int p5), .val (.int p6), .val (.int c309), .val (.int c312), .val (.int c315), .val (.int (2 : Int32)), .val (.ref b318), .val (.int (2 : Int32)), .unset, .unset, .unset, .unset, .unset, .unset] [])) _
          refine XS.iload X342.here hx rfl (hb hby at_136) rfl ?_
          show Steps p.tables e below (T342.setTop (mkF m 138 #[.val (.int p1), .val (.int p2), .val (.int p3), .val (.int p4), .val (.int p5), .val (.int p6), .val (.int c309), .val (.int c312), .val (.int c315), .val (.int (2 : Int32)), .val (.ref b318), .val (.int (2 : Int32)), .unset, .unset, .unset, .unset, .unset, .unset] [(.int (2 : Int32))])) _
          refine XS.ifYes X342.here hx rfl (pc0 := 138) (pc' := 149) rfl (hb hby at_138) rfl ((if0 _ _).trans (feq (by decide : ¬ ((2 : Int32) = (0 : Int32)))).2) (by decide) (by decide) ?_
          show Steps p.tables e below (T342.setTop (mkF m 149 #[.val (.int p1), .val (.int p2), .val (.int p3), .val (.int p4), .val (.int p5), .val (.int p6), .val (.int c309), .val (.int c312), .val (.int c315), .val (.int (2 : Int32)), .val (.ref b318), .val (.int (2 : Int32)), .unset, .unset, .unset, .unset, .unset, .unset] [])) _
          refine XS.iload X342.here hx rfl (hb hby at_149) rfl ?_
          show Steps p.tables e below (T342.setTop (mkF m 151 #[.val (.int p1), .val (.int p2), .val (.int p3), .val (.int p4), .val (.int p5), .val (.int p6), .val (.int c309), .val (.int c312), .val (.int c315), .val (.int (2 : Int32)), .val (.ref b318), .val (.int (2 : Int32)), .unset, .unset, .unset, .unset, .unset, .unset] [(.int (2 : Int32))])) _
          refine XS.iconst X342.here hx rfl (hb hby at_151) ?_
          show Steps p.tables e below (T342.setTop (mkF m 152 #[.val (.int p1), .val (.int p2), .val (.int p3), .val (.int p4), .val (.int p5), .val (.int p6), .val (.int c309), .val (.int c312), .val (.int c315), .val (.int (2 : Int32)), .val (.ref b318), .val (.int (2 : Int32)), .unset, .unset, .unset, .unset, .unset, .unset] [(.int (1 : Int32)), (.int (2 : Int32))])) _
          refine XS.icmpYes X342.here hx rfl (pc0 := 152) (pc' := 163) rfl (hb hby at_152) rfl (feq (by decide : ¬ ((2 : Int32) = (1 : Int32)))).2 (by decide) (by decide) ?_
          show Steps p.tables e below (T342.setTop (mkF m 163 #[.val (.int p1), .val (.int p2), .val (.int p3), .val (.int p4), .val (.int p5), .val (.int p6), .val (.int c309), .val (.int c312), .val (.int c315), .val (.int (2 : Int32)), .val (.ref b318), .val (.int (2 : Int32)), .unset, .unset, .unset, .unset, .unset, .unset] [])) _
          exact h)
      obtain ⟨T357, X357, e357, st357⟩ := getS2 X342 hx hZ hown (host := "") (Or.inl (hw _ (List.mem_of_getElem? (i := 81) rfl))) Via.refl rfl (SA.ext O346.2) (g := (mkF m 163 #[.val (.int p1), .val (.int p2), .val (.int p3), .val (.int p4), .val (.int p5), .val (.int p6), .val (.int c309), .val (.int c312), .val (.int c315), .val (.int (2 : Int32)), .val (.ref b318), .val (.int (2 : Int32)), .unset, .unset, .unset, .unset, .unset, .unset] [])) rfl (hb hby at_163)
      have k359 : Rch p e below S0 T357 (mkF m 166 #[.val (.int p1), .val (.int p2), .val (.int p3), .val (.int p4), .val (.int p5), .val (.int p6), .val (.int c309), .val (.int c312), .val (.int c315), .val (.int (2 : Int32)), .val (.ref b318), .val (.int (2 : Int32)), .unset, .unset, .unset, .unset, .unset, .unset] [(.ref wA)]) := fun t h => k358 t (st357 t h)
      have k360 : Rch p e below S0 T357 (mkF m 168 #[.val (.int p1), .val (.int p2), .val (.int p3), .val (.int p4), .val (.int p5), .val (.int p6), .val (.int c309), .val (.int c312), .val (.int c315), .val (.int (2 : Int32)), .val (.ref b318), .val (.int (2 : Int32)), .val (.ref wA), .unset, .unset, .unset, .unset, .unset] []) := fun t h => k359 t (by
          show Steps p.tables e below (T357.setTop (mkF m 166 #[.val (.int p1), .val (.int p2), .val (.int p3), .val (.int p4), .val (.int p5), .val (.int p6), .val (.int c309), .val (.int c312), .val (.int c315), .val (.int (2 : Int32)), .val (.ref b318), .val (.int (2 : Int32)), .unset, .unset, .unset, .unset, .unset, .unset] [(.ref wA)])) _
          refine XS.astore X357.here hx rfl (hb hby at_166) rfl rfl (l' := #[.val (.int p1), .val (.int p2), .val (.int p3), .val (.int p4), .val (.int p5), .val (.int p6), .val (.int c309), .val (.int c312), .val (.int c315), .val (.int (2 : Int32)), .val (.ref b318), .val (.int (2 : Int32)), .val (.ref wA), .unset, .unset, .unset, .unset, .unset]) rfl ?_
          show Steps p.tables e below (T357.setTop (mkF m 168 #[.val (.int p1), .val (.int p2), .val (.int p3), .val (.int p4), .val (.int p5), .val (.int p6), .val (.int c309), .val (.int c312), .val (.int c315), .val (.int (2 : Int32)), .val (.ref b318), .val (.int (2 : Int32)), .val (.ref wA), .unset, .unset, .unset, .unset, .unset] [])) _
          exact h)
      exact ⟨_, (2 : Int32), wA, X357, e357, k360⟩
  replace X361 := X361.out
  have k362 : Rch p e below S0 T361 (mkF m 178 #[.val (.int p1), .val (.int p2), .val (.int p3), .val (.int p4), .val (.int p5), .val (.int p6), .val (.int c309), .val (.int c312), .val (.int c315), .val (.int (2 : Int32)), .val (.ref b318), .val (.int kk), .val (.ref wK), .unset, .unset, .unset, .unset, .unset] [(.int (((p6.toUInt32 >>> ((18 : Int32) &&& 31).toUInt32).toInt32) &&& (255 : Int32)))]) := fun t h => k361 t (by
      show Steps p.tables e below (T361.setTop (mkF m 168 #[.val (.int p1), .val (.int p2), .val (.int p3), .val (.int p4), .val (.int p5), .val (.int p6), .val (.int c309), .val (.int c312), .val (.int c315), .val (.int (2 : Int32)), .val (.ref b318), .val (.int kk), .val (.ref wK), .unset, .unset, .unset, .unset, .unset] [])) _
      refine XS.iload X361.here hx rfl (hb hby at_168) rfl ?_
      show Steps p.tables e below (T361.setTop (mkF m 170 #[.val (.int p1), .val (.int p2), .val (.int p3), .val (.int p4), .val (.int p5), .val (.int p6), .val (.int c309), .val (.int c312), .val (.int c315), .val (.int (2 : Int32)), .val (.ref b318), .val (.int kk), .val (.ref wK), .unset, .unset, .unset, .unset, .unset] [(.int p6)])) _
      refine XS.bipush X361.here hx rfl (hb hby at_170) ?_
      show Steps p.tables e below (T361.setTop (mkF m 172 #[.val (.int p1), .val (.int p2), .val (.int p3), .val (.int p4), .val (.int p5), .val (.int p6), .val (.int c309), .val (.int c312), .val (.int c315), .val (.int (2 : Int32)), .val (.ref b318), .val (.int kk), .val (.ref wK), .unset, .unset, .unset, .unset, .unset] [(.int (18 : Int32)), (.int p6)])) _
      refine XS.iushr X361.here hx rfl (hb hby at_172) rfl ?_
      show Steps p.tables e below (T361.setTop (mkF m 173 #[.val (.int p1), .val (.int p2), .val (.int p3), .val (.int p4), .val (.int p5), .val (.int p6), .val (.int c309), .val (.int c312), .val (.int c315), .val (.int (2 : Int32)), .val (.ref b318), .val (.int kk), .val (.ref wK), .unset, .unset, .unset, .unset, .unset] [(.int ((p6.toUInt32 >>> ((18 : Int32) &&& 31).toUInt32).toInt32))])) _
      refine XS.sipush X361.here hx rfl (hb hby at_173) ?_
      show Steps p.tables e below (T361.setTop (mkF m 176 #[.val (.int p1), .val (.int p2), .val (.int p3), .val (.int p4), .val (.int p5), .val (.int p6), .val (.int c309), .val (.int c312), .val (.int c315), .val (.int (2 : Int32)), .val (.ref b318), .val (.int kk), .val (.ref wK), .unset, .unset, .unset, .unset, .unset] [(.int (255 : Int32)), (.int ((p6.toUInt32 >>> ((18 : Int32) &&& 31).toUInt32).toInt32))])) _
      refine XS.iand X361.here hx rfl (hb hby at_176) rfl ?_
      show Steps p.tables e below (T361.setTop (mkF m 177 #[.val (.int p1), .val (.int p2), .val (.int p3), .val (.int p4), .val (.int p5), .val (.int p6), .val (.int c309), .val (.int c312), .val (.int c315), .val (.int (2 : Int32)), .val (.ref b318), .val (.int kk), .val (.ref wK), .unset, .unset, .unset, .unset, .unset] [(.int (((p6.toUInt32 >>> ((18 : Int32) &&& 31).toUInt32).toInt32) &&& (255 : Int32)))])) _
      refine XS.i2c X361.here hx rfl (hb hby at_177) rfl ?_
      rw [(own_nar (((p6.toUInt32 >>> ((18 : Int32) &&& 31).toUInt32).toInt32) &&& (255 : Int32)) (own_255 ((p6.toUInt32 >>> ((18 : Int32) &&& 31).toUInt32).toInt32))).2]
      show Steps p.tables e below (T361.setTop (mkF m 178 #[.val (.int p1), .val (.int p2), .val (.int p3), .val (.int p4), .val (.int p5), .val (.int p6), .val (.int c309), .val (.int c312), .val (.int c315), .val (.int (2 : Int32)), .val (.ref b318), .val (.int kk), .val (.ref wK), .unset, .unset, .unset, .unset, .unset] [(.int (((p6.toUInt32 >>> ((18 : Int32) &&& 31).toUInt32).toInt32) &&& (255 : Int32)))])) _
      exact h)
  obtain ⟨_, _, ⟨T363, L363, kk363, n363⟩, -, X363, ⟨Lc363, hQ363, l363, y363, z363⟩, st363⟩ := Jvm.LawKit.callS X361 hx (y := (⟨"java/lang/String", "valueOf", "(C)Ljava/lang/String;"⟩ : MethodName)) hown (mvT hZ (hw _ (List.mem_of_getElem? (i := 30) rfl))) (mvT hZ (hw _ (List.mem_of_getElem? (i := 31) rfl))) (mvT hZ (hw _ (List.mem_of_getElem? (i := 6) rfl))) (mvT hZ (hw _ (List.mem_of_getElem? (i := 32) rfl))) (by decide) (backOf (W := 0) (rmVO l Z a0 hw [] (((p6.toUInt32 >>> ((18 : Int32) &&& 31).toUInt32).toInt32) &&& (255 : Int32)) zC T342.heap n0 O346 SC hzC (own_255 ((p6.toUInt32 >>> ((18 : Int32) &&& 31).toUInt32).toInt32)).2) hZ (hw _ (List.mem_of_getElem? (i := 32) rfl)) (hw _ (List.mem_of_getElem? (i := 6) rfl)) (by decide) (by decide)) (g := (mkF m 178 #[.val (.int p1), .val (.int p2), .val (.int p3), .val (.int p4), .val (.int p5), .val (.int p6), .val (.int c309), .val (.int c312), .val (.int c315), .val (.int (2 : Int32)), .val (.ref b318), .val (.int kk), .val (.ref wK), .unset, .unset, .unset, .unset, .unset] [(.int (((p6.toUInt32 >>> ((18 : Int32) &&& 31).toUInt32).toInt32) &&& (255 : Int32)))])) rfl (by rw [hml]; rfl) (argsL := [(.int (((p6.toUInt32 >>> ((18 : Int32) &&& 31).toUInt32).toInt32) &&& (255 : Int32)))]) (rest := []) (lenOf pd_4 rfl) rfl (by show 2 * 0 + _ ≤ _; exact Nat.le_of_eq rfl) (hb hby at_178) (fun _ _ => ⟨rfl, e361, (by decide : 3 + 2 ≤ _), (by decide : 8 + 5 ≤ _)⟩)
  dsimp only [Pt.U, Pt.locs, Pt.cells, Pt.slots] at X363 l363 y363 z363 st363 hQ363
  subst l363 y363 z363
  obtain ⟨b363, rfl, Nq363, E363, z363, X363E⟩ := hQ363
  have N363 := Fr.app N342 Nq363
  have k364 : Rch p e below S0 T363 (mkF m 181 #[.val (.int p1), .val (.int p2), .val (.int p3), .val (.int p4), .val (.int p5), .val (.int p6), .val (.int c309), .val (.int c312), .val (.int c315), .val (.int (2 : Int32)), .val (.ref b318), .val (.int kk), .val (.ref wK), .unset, .unset, .unset, .unset, .unset] [(.ref b363)]) := fun t h => k362 t (st363 t h)
  replace sf_b318 := Safe.ext E363 hC344 sf_b318
  replace sf_b324 := Safe.ext E363 hC344 sf_b324
  have hC365 := hC344.ext E363
  have rC365 := rC344.trans (CHr.ext E363 hC344)
  have O366 := O346.ext E363
  replace E_b318 := E_b318.ext E363
  replace Vb342 := Vb342.ext E363
  replace Cb342 := Cb342.ext E363
  replace V_b324 := V_b324.ext E363
  replace Ab342 := Ab342.ext E363
  have hkk367 := Nat.le_trans hkk347 E363.1
  have k368 : Rch p e below S0 T363 (mkF m 185 #[.val (.int p1), .val (.int p2), .val (.int p3), .val (.int p4), .val (.int p5), .val (.int p6), .val (.int c309), .val (.int c312), .val (.int c315), .val (.int (2 : Int32)), .val (.ref b318), .val (.int kk), .val (.ref wK), .val (.ref b363), .unset, .unset, .unset, .unset] [(.int p6)]) := fun t h => k364 t (by
      show Steps p.tables e below (T363.setTop (mkF m 181 #[.val (.int p1), .val (.int p2), .val (.int p3), .val (.int p4), .val (.int p5), .val (.int p6), .val (.int c309), .val (.int c312), .val (.int c315), .val (.int (2 : Int32)), .val (.ref b318), .val (.int kk), .val (.ref wK), .unset, .unset, .unset, .unset, .unset] [(.ref b363)])) _
      refine XS.astore X363.here hx rfl (hb hby at_181) rfl rfl (l' := #[.val (.int p1), .val (.int p2), .val (.int p3), .val (.int p4), .val (.int p5), .val (.int p6), .val (.int c309), .val (.int c312), .val (.int c315), .val (.int (2 : Int32)), .val (.ref b318), .val (.int kk), .val (.ref wK), .val (.ref b363), .unset, .unset, .unset, .unset]) rfl ?_
      show Steps p.tables e below (T363.setTop (mkF m 183 #[.val (.int p1), .val (.int p2), .val (.int p3), .val (.int p4), .val (.int p5), .val (.int p6), .val (.int c309), .val (.int c312), .val (.int c315), .val (.int (2 : Int32)), .val (.ref b318), .val (.int kk), .val (.ref wK), .val (.ref b363), .unset, .unset, .unset, .unset] [])) _
      refine XS.iload X363.here hx rfl (hb hby at_183) rfl ?_
      show Steps p.tables e below (T363.setTop (mkF m 185 #[.val (.int p1), .val (.int p2), .val (.int p3), .val (.int p4), .val (.int p5), .val (.int p6), .val (.int c309), .val (.int c312), .val (.int c315), .val (.int (2 : Int32)), .val (.ref b318), .val (.int kk), .val (.ref wK), .val (.ref b363), .unset, .unset, .unset, .unset] [(.int p6)])) _
      exact h)
  obtain ⟨_, _, ⟨T369, L369, kk369, n369⟩, -, X369, ⟨Lc369, hQ369, l369, y369, z369⟩, st369⟩ := Jvm.LawKit.callS X363 hx (y := (⟨"com/example/suretygate/suretygate/rolemodel/CabinetFunctionIsSigningPinLaw", "pick", "(I)C"⟩ : MethodName)) hown (mvT hZ (hw _ (List.mem_of_getElem? (i := 0) rfl))) (mvT hZ (hw _ (List.mem_of_getElem? (i := 1) rfl))) (mvT hZ (hw _ (List.mem_of_getElem? (i := 2) rfl))) (mvT hZ (hw _ (List.mem_of_getElem? (i := 3) rfl))) (by decide) (backOf (W := 0) (rmP l Z a0 hw [] p6  T363.heap n0 O366 ) hZ (hw _ (List.mem_of_getElem? (i := 3) rfl)) (hw _ (List.mem_of_getElem? (i := 2) rfl)) (by decide) (by decide)) (g := (mkF m 185 #[.val (.int p1), .val (.int p2), .val (.int p3), .val (.int p4), .val (.int p5), .val (.int p6), .val (.int c309), .val (.int c312), .val (.int c315), .val (.int (2 : Int32)), .val (.ref b318), .val (.int kk), .val (.ref wK), .val (.ref b363), .unset, .unset, .unset, .unset] [(.int p6)])) rfl (by rw [hml]; rfl) (argsL := [(.int p6)]) (rest := []) (lenOf pd_0 rfl) rfl (by show 2 * 0 + _ ≤ _; exact Nat.le_of_eq rfl) (hb hby at_185) (fun _ _ => ⟨rfl, rfl, (by decide : 5 + 0 ≤ _), (by decide : 13 + 0 ≤ _)⟩)
  dsimp only [Pt.U, Pt.locs, Pt.cells, Pt.slots] at X369 l369 y369 z369 st369 hQ369
  subst l369 y369 z369
  obtain ⟨c369, rfl, Nq369, hh369, hc369⟩ := hQ369
  have N369 := Fr.app N363 Nq369
  have k370 : Rch p e below S0 T369 (mkF m 188 #[.val (.int p1), .val (.int p2), .val (.int p3), .val (.int p4), .val (.int p5), .val (.int p6), .val (.int c309), .val (.int c312), .val (.int c315), .val (.int (2 : Int32)), .val (.ref b318), .val (.int kk), .val (.ref wK), .val (.ref b363), .unset, .unset, .unset, .unset] [(.int c369)]) := fun t h => k368 t (st369 t h)
  obtain ⟨_, _, ⟨T371, L371, kk371, n371⟩, -, X371, ⟨Lc371, hQ371, l371, y371, z371⟩, st371⟩ := Jvm.LawKit.callS X369 hx (y := (⟨"java/lang/String", "valueOf", "(C)Ljava/lang/String;"⟩ : MethodName)) hown (mvT hZ (hw _ (List.mem_of_getElem? (i := 30) rfl))) (mvT hZ (hw _ (List.mem_of_getElem? (i := 31) rfl))) (mvT hZ (hw _ (List.mem_of_getElem? (i := 6) rfl))) (mvT hZ (hw _ (List.mem_of_getElem? (i := 32) rfl))) (by decide) (backOf (W := 0) (rmVO l Z a0 hw [] c369 zC T363.heap n0 O366 SC hzC hc369.2) hZ (hw _ (List.mem_of_getElem? (i := 32) rfl)) (hw _ (List.mem_of_getElem? (i := 6) rfl)) (by decide) (by decide)) (g := (mkF m 188 #[.val (.int p1), .val (.int p2), .val (.int p3), .val (.int p4), .val (.int p5), .val (.int p6), .val (.int c309), .val (.int c312), .val (.int c315), .val (.int (2 : Int32)), .val (.ref b318), .val (.int kk), .val (.ref wK), .val (.ref b363), .unset, .unset, .unset, .unset] [(.int c369)])) rfl (by rw [hml]; rfl) (argsL := [(.int c369)]) (rest := []) (lenOf pd_4 rfl) rfl (by show 2 * 0 + _ ≤ _; exact Nat.le_of_eq rfl) (hb hby at_188) (fun _ _ => ⟨rfl, hh369, (by decide : 5 + 2 ≤ _), (by decide : 13 + 5 ≤ _)⟩)
  dsimp only [Pt.U, Pt.locs, Pt.cells, Pt.slots] at X371 l371 y371 z371 st371 hQ371
  subst l371 y371 z371
  obtain ⟨b371, rfl, Nq371, E371, z371, X371E⟩ := hQ371
  have N371 := Fr.app N369 Nq371
  have k372 : Rch p e below S0 T371 (mkF m 191 #[.val (.int p1), .val (.int p2), .val (.int p3), .val (.int p4), .val (.int p5), .val (.int p6), .val (.int c309), .val (.int c312), .val (.int c315), .val (.int (2 : Int32)), .val (.ref b318), .val (.int kk), .val (.ref wK), .val (.ref b363), .unset, .unset, .unset, .unset] [(.ref b371)]) := fun t h => k370 t (st371 t h)
  replace sf_b318 := Safe.ext E371 hC365 sf_b318
  replace sf_b324 := Safe.ext E371 hC365 sf_b324
  have hC373 := hC365.ext E371
  have rC373 := rC365.trans (CHr.ext E371 hC365)
  have O374 := O366.ext E371
  replace E_b318 := E_b318.ext E371
  replace Vb342 := Vb342.ext E371
  replace Cb342 := Cb342.ext E371
  replace V_b324 := V_b324.ext E371
  replace Ab342 := Ab342.ext E371
  replace X363E := X363E.ext E371
  have hkk375 := Nat.le_trans hkk367 E371.1
  have k376 : Rch p e below S0 T371 (mkF m 198 #[.val (.int p1), .val (.int p2), .val (.int p3), .val (.int p4), .val (.int p5), .val (.int p6), .val (.int c309), .val (.int c312), .val (.int c315), .val (.int (2 : Int32)), .val (.ref b318), .val (.int kk), .val (.ref wK), .val (.ref b363), .val (.ref b371), .unset, .unset, .unset] [(.int ((p6.toUInt32 >>> ((9 : Int32) &&& 31).toUInt32).toInt32))]) := fun t h => k372 t (by
      show Steps p.tables e below (T371.setTop (mkF m 191 #[.val (.int p1), .val (.int p2), .val (.int p3), .val (.int p4), .val (.int p5), .val (.int p6), .val (.int c309), .val (.int c312), .val (.int c315), .val (.int (2 : Int32)), .val (.ref b318), .val (.int kk), .val (.ref wK), .val (.ref b363), .unset, .unset, .unset, .unset] [(.ref b371)])) _
      refine XS.astore X371.here hx rfl (hb hby at_191) rfl rfl (l' := #[.val (.int p1), .val (.int p2), .val (.int p3), .val (.int p4), .val (.int p5), .val (.int p6), .val (.int c309), .val (.int c312), .val (.int c315), .val (.int (2 : Int32)), .val (.ref b318), .val (.int kk), .val (.ref wK), .val (.ref b363), .val (.ref b371), .unset, .unset, .unset]) rfl ?_
      show Steps p.tables e below (T371.setTop (mkF m 193 #[.val (.int p1), .val (.int p2), .val (.int p3), .val (.int p4), .val (.int p5), .val (.int p6), .val (.int c309), .val (.int c312), .val (.int c315), .val (.int (2 : Int32)), .val (.ref b318), .val (.int kk), .val (.ref wK), .val (.ref b363), .val (.ref b371), .unset, .unset, .unset] [])) _
      refine XS.iload X371.here hx rfl (hb hby at_193) rfl ?_
      show Steps p.tables e below (T371.setTop (mkF m 195 #[.val (.int p1), .val (.int p2), .val (.int p3), .val (.int p4), .val (.int p5), .val (.int p6), .val (.int c309), .val (.int c312), .val (.int c315), .val (.int (2 : Int32)), .val (.ref b318), .val (.int kk), .val (.ref wK), .val (.ref b363), .val (.ref b371), .unset, .unset, .unset] [(.int p6)])) _
      refine XS.bipush X371.here hx rfl (hb hby at_195) ?_
      show Steps p.tables e below (T371.setTop (mkF m 197 #[.val (.int p1), .val (.int p2), .val (.int p3), .val (.int p4), .val (.int p5), .val (.int p6), .val (.int c309), .val (.int c312), .val (.int c315), .val (.int (2 : Int32)), .val (.ref b318), .val (.int kk), .val (.ref wK), .val (.ref b363), .val (.ref b371), .unset, .unset, .unset] [(.int (9 : Int32)), (.int p6)])) _
      refine XS.iushr X371.here hx rfl (hb hby at_197) rfl ?_
      show Steps p.tables e below (T371.setTop (mkF m 198 #[.val (.int p1), .val (.int p2), .val (.int p3), .val (.int p4), .val (.int p5), .val (.int p6), .val (.int c309), .val (.int c312), .val (.int c315), .val (.int (2 : Int32)), .val (.ref b318), .val (.int kk), .val (.ref wK), .val (.ref b363), .val (.ref b371), .unset, .unset, .unset] [(.int ((p6.toUInt32 >>> ((9 : Int32) &&& 31).toUInt32).toInt32))])) _
      exact h)
  obtain ⟨_, _, ⟨T377, L377, kk377, n377⟩, -, X377, ⟨Lc377, hQ377, l377, y377, z377⟩, st377⟩ := Jvm.LawKit.callS X371 hx (y := (⟨"com/example/suretygate/suretygate/rolemodel/CabinetFunctionIsSigningPinLaw", "pick", "(I)C"⟩ : MethodName)) hown (mvT hZ (hw _ (List.mem_of_getElem? (i := 0) rfl))) (mvT hZ (hw _ (List.mem_of_getElem? (i := 1) rfl))) (mvT hZ (hw _ (List.mem_of_getElem? (i := 2) rfl))) (mvT hZ (hw _ (List.mem_of_getElem? (i := 3) rfl))) (by decide) (backOf (W := 0) (rmP l Z a0 hw [] ((p6.toUInt32 >>> ((9 : Int32) &&& 31).toUInt32).toInt32)  T371.heap n0 O374 ) hZ (hw _ (List.mem_of_getElem? (i := 3) rfl)) (hw _ (List.mem_of_getElem? (i := 2) rfl)) (by decide) (by decide)) (g := (mkF m 198 #[.val (.int p1), .val (.int p2), .val (.int p3), .val (.int p4), .val (.int p5), .val (.int p6), .val (.int c309), .val (.int c312), .val (.int c315), .val (.int (2 : Int32)), .val (.ref b318), .val (.int kk), .val (.ref wK), .val (.ref b363), .val (.ref b371), .unset, .unset, .unset] [(.int ((p6.toUInt32 >>> ((9 : Int32) &&& 31).toUInt32).toInt32))])) rfl (by rw [hml]; rfl) (argsL := [(.int ((p6.toUInt32 >>> ((9 : Int32) &&& 31).toUInt32).toInt32))]) (rest := []) (lenOf pd_0 rfl) rfl (by show 2 * 0 + _ ≤ _; exact Nat.le_of_eq rfl) (hb hby at_198) (fun _ _ => ⟨rfl, rfl, (by decide : 7 + 0 ≤ _), (by decide : 18 + 0 ≤ _)⟩)
  dsimp only [Pt.U, Pt.locs, Pt.cells, Pt.slots] at X377 l377 y377 z377 st377 hQ377
  subst l377 y377 z377
  obtain ⟨c377, rfl, Nq377, hh377, hc377⟩ := hQ377
  have N377 := Fr.app N371 Nq377
  have k378 : Rch p e below S0 T377 (mkF m 201 #[.val (.int p1), .val (.int p2), .val (.int p3), .val (.int p4), .val (.int p5), .val (.int p6), .val (.int c309), .val (.int c312), .val (.int c315), .val (.int (2 : Int32)), .val (.ref b318), .val (.int kk), .val (.ref wK), .val (.ref b363), .val (.ref b371), .unset, .unset, .unset] [(.int c377)]) := fun t h => k376 t (st377 t h)
  obtain ⟨_, _, ⟨T379, L379, kk379, n379⟩, -, X379, ⟨Lc379, hQ379, l379, y379, z379⟩, st379⟩ := Jvm.LawKit.callS X377 hx (y := (⟨"java/lang/String", "valueOf", "(C)Ljava/lang/String;"⟩ : MethodName)) hown (mvT hZ (hw _ (List.mem_of_getElem? (i := 30) rfl))) (mvT hZ (hw _ (List.mem_of_getElem? (i := 31) rfl))) (mvT hZ (hw _ (List.mem_of_getElem? (i := 6) rfl))) (mvT hZ (hw _ (List.mem_of_getElem? (i := 32) rfl))) (by decide) (backOf (W := 0) (rmVO l Z a0 hw [] c377 zC T371.heap n0 O374 SC hzC hc377.2) hZ (hw _ (List.mem_of_getElem? (i := 32) rfl)) (hw _ (List.mem_of_getElem? (i := 6) rfl)) (by decide) (by decide)) (g := (mkF m 201 #[.val (.int p1), .val (.int p2), .val (.int p3), .val (.int p4), .val (.int p5), .val (.int p6), .val (.int c309), .val (.int c312), .val (.int c315), .val (.int (2 : Int32)), .val (.ref b318), .val (.int kk), .val (.ref wK), .val (.ref b363), .val (.ref b371), .unset, .unset, .unset] [(.int c377)])) rfl (by rw [hml]; rfl) (argsL := [(.int c377)]) (rest := []) (lenOf pd_4 rfl) rfl (by show 2 * 0 + _ ≤ _; exact Nat.le_of_eq rfl) (hb hby at_201) (fun _ _ => ⟨rfl, hh377, (by decide : 7 + 2 ≤ _), (by decide : 18 + 5 ≤ _)⟩)
  dsimp only [Pt.U, Pt.locs, Pt.cells, Pt.slots] at X379 l379 y379 z379 st379 hQ379
  subst l379 y379 z379
  obtain ⟨b379, rfl, Nq379, E379, z379, X379E⟩ := hQ379
  have N379 := Fr.app N377 Nq379
  have k380 : Rch p e below S0 T379 (mkF m 204 #[.val (.int p1), .val (.int p2), .val (.int p3), .val (.int p4), .val (.int p5), .val (.int p6), .val (.int c309), .val (.int c312), .val (.int c315), .val (.int (2 : Int32)), .val (.ref b318), .val (.int kk), .val (.ref wK), .val (.ref b363), .val (.ref b371), .unset, .unset, .unset] [(.ref b379)]) := fun t h => k378 t (st379 t h)
  replace sf_b318 := Safe.ext E379 hC373 sf_b318
  replace sf_b324 := Safe.ext E379 hC373 sf_b324
  have hC381 := hC373.ext E379
  have rC381 := rC373.trans (CHr.ext E379 hC373)
  have O382 := O374.ext E379
  replace E_b318 := E_b318.ext E379
  replace Vb342 := Vb342.ext E379
  replace Cb342 := Cb342.ext E379
  replace V_b324 := V_b324.ext E379
  replace Ab342 := Ab342.ext E379
  replace X363E := X363E.ext E379
  replace X371E := X371E.ext E379
  have hkk383 := Nat.le_trans hkk375 E379.1
  have k385 : Rch p e below S0 T379 (mkF m 206 #[.val (.int p1), .val (.int p2), .val (.int p3), .val (.int p4), .val (.int p5), .val (.int p6), .val (.int c309), .val (.int c312), .val (.int c315), .val (.int (2 : Int32)), .val (.ref b318), .val (.int kk), .val (.ref wK), .val (.ref b363), .val (.ref b371), .val (.ref b379), .unset, .unset] []) := fun t h => k380 t (by
      show Steps p.tables e below (T379.setTop (mkF m 204 #[.val (.int p1), .val (.int p2), .val (.int p3), .val (.int p4), .val (.int p5), .val (.int p6), .val (.int c309), .val (.int c312), .val (.int c315), .val (.int (2 : Int32)), .val (.ref b318), .val (.int kk), .val (.ref wK), .val (.ref b363), .val (.ref b371), .unset, .unset, .unset] [(.ref b379)])) _
      refine XS.astore X379.here hx rfl (hb hby at_204) rfl rfl (l' := #[.val (.int p1), .val (.int p2), .val (.int p3), .val (.int p4), .val (.int p5), .val (.int p6), .val (.int c309), .val (.int c312), .val (.int c315), .val (.int (2 : Int32)), .val (.ref b318), .val (.int kk), .val (.ref wK), .val (.ref b363), .val (.ref b371), .val (.ref b379), .unset, .unset]) rfl ?_
      show Steps p.tables e below (T379.setTop (mkF m 206 #[.val (.int p1), .val (.int p2), .val (.int p3), .val (.int p4), .val (.int p5), .val (.int p6), .val (.int c309), .val (.int c312), .val (.int c315), .val (.int (2 : Int32)), .val (.ref b318), .val (.int kk), .val (.ref wK), .val (.ref b363), .val (.ref b371), .val (.ref b379), .unset, .unset] [])) _
      exact h)
  obtain ⟨T384, h384, X384, e384, E384, A384, D384, -, st384⟩ := newO X379 hx hZ hown (hw _ (List.mem_of_getElem? (i := 45) rfl)) (hw _ (List.mem_of_getElem? (i := 46) rfl)) (hw _ (List.mem_of_getElem? (i := 47) rfl)) rfl (g := (mkF m 206 #[.val (.int p1), .val (.int p2), .val (.int p3), .val (.int p4), .val (.int p5), .val (.int p6), .val (.int c309), .val (.int c312), .val (.int c315), .val (.int (2 : Int32)), .val (.ref b318), .val (.int kk), .val (.ref wK), .val (.ref b363), .val (.ref b371), .val (.ref b379), .unset, .unset] [])) rfl (hb hby at_206) (by decide) (by decide)
  obtain ⟨b384, g384⟩ : ∃ z, z = T379.heap.size := ⟨_, rfl⟩
  rw [← g384] at A384 D384 st384
  have k386 : Rch p e below S0 T384 (mkF m 209 #[.val (.int p1), .val (.int p2), .val (.int p3), .val (.int p4), .val (.int p5), .val (.int p6), .val (.int c309), .val (.int c312), .val (.int c315), .val (.int (2 : Int32)), .val (.ref b318), .val (.int kk), .val (.ref wK), .val (.ref b363), .val (.ref b371), .val (.ref b379), .unset, .unset] [(.ref b384)]) := fun t h => k385 t (st384 t h)
  have ne_b318_b384 : b318 ≠ b384 := own_ne E_b318.lt (Nat.le_of_eq g384.symm)
  have ne_b324_b384 : b324 ≠ b384 := own_ne V_b324.lt (Nat.le_of_eq g384.symm)
  have ne_t342_b384 : t342 ≠ b384 := own_ne Ab342.lt (Nat.le_of_eq g384.symm)
  have ne_b363_b384 : b363 ≠ b384 := own_ne X363E.lt (Nat.le_of_eq g384.symm)
  have ne_b371_b384 : b371 ≠ b384 := own_ne X371E.lt (Nat.le_of_eq g384.symm)
  have ne_b379_b384 : b379 ≠ b384 := own_ne X379E.lt (Nat.le_of_eq g384.symm)
  have ge_b384 : n0 ≤ b384 := own_ge O382 (Nat.le_of_eq g384.symm)
  have sf_b384 : Safe Z consts_1 s.vm T379.heap b384 := Safe.new (Nat.le_of_eq g384.symm)
  replace sf_b318 := Safe.ext E384 hC381 sf_b318
  replace sf_b324 := Safe.ext E384 hC381 sf_b324
  replace sf_b384 := Safe.ext E384 hC381 sf_b384
  have hC387 := hC381.ext E384
  have rC387 := rC381.trans (CHr.ext E384 hC381)
  have O388 := O382.ext E384
  replace E_b318 := E_b318.ext E384
  replace Vb342 := Vb342.ext E384
  replace Cb342 := Cb342.ext E384
  replace V_b324 := V_b324.ext E384
  replace Ab342 := Ab342.ext E384
  replace X363E := X363E.ext E384
  replace X371E := X371E.ext E384
  replace X379E := X379E.ext E384
  have hkk389 := Nat.le_trans hkk383 E384.1
  have E_b384 := A384
  have F_b384_name : Fld Z h384 b384 "com/example/suretygate/suretygate/rolemodel/CabinetFunction" "name" "Ljava/lang/String;" .null := D384 (Or.inr (hw _ (List.mem_of_getElem? (i := 58) rfl))) (ty := (.object "java/lang/String")) (by decide)
  have F_b384_kind : Fld Z h384 b384 "com/example/suretygate/suretygate/rolemodel/CabinetFunction" "kind" "Lcom/example/suretygate/suretygate/rolemodel/CabinetFunction$Kind;" .null := D384 (Or.inr (hw _ (List.mem_of_getElem? (i := 60) rfl))) (ty := (.object "com/example/suretygate/suretygate/rolemodel/CabinetFunction$Kind")) (by decide)
  have F_b384_label : Fld Z h384 b384 "com/example/suretygate/suretygate/rolemodel/CabinetFunction" "label" "Ljava/lang/String;" .null := D384 (Or.inr (hw _ (List.mem_of_getElem? (i := 62) rfl))) (ty := (.object "java/lang/String")) (by decide)
  have F_b384_path : Fld Z h384 b384 "com/example/suretygate/suretygate/rolemodel/CabinetFunction" "path" "Ljava/lang/String;" .null := D384 (Or.inr (hw _ (List.mem_of_getElem? (i := 64) rfl))) (ty := (.object "java/lang/String")) (by decide)
  have F_b384_signs : Fld Z h384 b384 "com/example/suretygate/suretygate/rolemodel/CabinetFunction" "signs" "Ljava/lang/String;" .null := D384 (Or.inr (hw _ (List.mem_of_getElem? (i := 66) rfl))) (ty := (.object "java/lang/String")) (by decide)
  have k390 : Rch p e below S0 T384 (mkF m 220 #[.val (.int p1), .val (.int p2), .val (.int p3), .val (.int p4), .val (.int p5), .val (.int p6), .val (.int c309), .val (.int c312), .val (.int c315), .val (.int (2 : Int32)), .val (.ref b318), .val (.int kk), .val (.ref wK), .val (.ref b363), .val (.ref b371), .val (.ref b379), .unset, .unset] [(.ref b318), (.ref b379), (.ref b371), (.ref wK), (.ref b363), (.ref b384), (.ref b384)]) := fun t h => k386 t (by
      show Steps p.tables e below (T384.setTop (mkF m 209 #[.val (.int p1), .val (.int p2), .val (.int p3), .val (.int p4), .val (.int p5), .val (.int p6), .val (.int c309), .val (.int c312), .val (.int c315), .val (.int (2 : Int32)), .val (.ref b318), .val (.int kk), .val (.ref wK), .val (.ref b363), .val (.ref b371), .val (.ref b379), .unset, .unset] [(.ref b384)])) _
      refine XS.dup X384.here hx rfl (hb hby at_209) rfl rfl ?_
      show Steps p.tables e below (T384.setTop (mkF m 210 #[.val (.int p1), .val (.int p2), .val (.int p3), .val (.int p4), .val (.int p5), .val (.int p6), .val (.int c309), .val (.int c312), .val (.int c315), .val (.int (2 : Int32)), .val (.ref b318), .val (.int kk), .val (.ref wK), .val (.ref b363), .val (.ref b371), .val (.ref b379), .unset, .unset] [(.ref b384), (.ref b384)])) _
      refine XS.aload X384.here hx rfl (hb hby at_210) rfl rfl ?_
      show Steps p.tables e below (T384.setTop (mkF m 212 #[.val (.int p1), .val (.int p2), .val (.int p3), .val (.int p4), .val (.int p5), .val (.int p6), .val (.int c309), .val (.int c312), .val (.int c315), .val (.int (2 : Int32)), .val (.ref b318), .val (.int kk), .val (.ref wK), .val (.ref b363), .val (.ref b371), .val (.ref b379), .unset, .unset] [(.ref b363), (.ref b384), (.ref b384)])) _
      refine XS.aload X384.here hx rfl (hb hby at_212) rfl rfl ?_
      show Steps p.tables e below (T384.setTop (mkF m 214 #[.val (.int p1), .val (.int p2), .val (.int p3), .val (.int p4), .val (.int p5), .val (.int p6), .val (.int c309), .val (.int c312), .val (.int c315), .val (.int (2 : Int32)), .val (.ref b318), .val (.int kk), .val (.ref wK), .val (.ref b363), .val (.ref b371), .val (.ref b379), .unset, .unset] [(.ref wK), (.ref b363), (.ref b384), (.ref b384)])) _
      refine XS.aload X384.here hx rfl (hb hby at_214) rfl rfl ?_
      show Steps p.tables e below (T384.setTop (mkF m 216 #[.val (.int p1), .val (.int p2), .val (.int p3), .val (.int p4), .val (.int p5), .val (.int p6), .val (.int c309), .val (.int c312), .val (.int c315), .val (.int (2 : Int32)), .val (.ref b318), .val (.int kk), .val (.ref wK), .val (.ref b363), .val (.ref b371), .val (.ref b379), .unset, .unset] [(.ref b371), (.ref wK), (.ref b363), (.ref b384), (.ref b384)])) _
      refine XS.aload X384.here hx rfl (hb hby at_216) rfl rfl ?_
      show Steps p.tables e below (T384.setTop (mkF m 218 #[.val (.int p1), .val (.int p2), .val (.int p3), .val (.int p4), .val (.int p5), .val (.int p6), .val (.int c309), .val (.int c312), .val (.int c315), .val (.int (2 : Int32)), .val (.ref b318), .val (.int kk), .val (.ref wK), .val (.ref b363), .val (.ref b371), .val (.ref b379), .unset, .unset] [(.ref b379), (.ref b371), (.ref wK), (.ref b363), (.ref b384), (.ref b384)])) _
      refine XS.aload X384.here hx rfl (hb hby at_218) rfl rfl ?_
      show Steps p.tables e below (T384.setTop (mkF m 220 #[.val (.int p1), .val (.int p2), .val (.int p3), .val (.int p4), .val (.int p5), .val (.int p6), .val (.int c309), .val (.int c312), .val (.int c315), .val (.int (2 : Int32)), .val (.ref b318), .val (.int kk), .val (.ref wK), .val (.ref b363), .val (.ref b371), .val (.ref b379), .unset, .unset] [(.ref b318), (.ref b379), (.ref b371), (.ref wK), (.ref b363), (.ref b384), (.ref b384)])) _
      exact h)
  obtain ⟨_, _, ⟨T391, L391, kk391, n391⟩, -, X391, ⟨Lc391, hQ391, l391, y391, z391⟩, st391⟩ := X384.specialBack hx (y := (⟨"com/example/suretygate/suretygate/rolemodel/CabinetFunction", "<init>", "(Ljava/lang/String;Lcom/example/suretygate/suretygate/rolemodel/CabinetFunction$Kind;Ljava/lang/String;Ljava/lang/String;Ljava/lang/String;)V"⟩ : MethodName)) rfl hown (mvT hZ (hw _ (List.mem_of_getElem? (i := 48) rfl))) (mvT hZ (hw _ (List.mem_of_getElem? (i := 49) rfl))) (mvT hZ (hw _ (List.mem_of_getElem? (i := 50) rfl))) (by decide) (backOf (W := 1) (rmN l Z a0 hw [] b384 b363 wK b371 b379 b318  h384 n0 O388 ge_b384 E_b384 F_b384_name F_b384_kind F_b384_label F_b384_path F_b384_signs) hZ (hw _ (List.mem_of_getElem? (i := 50) rfl)) (hw _ (List.mem_of_getElem? (i := 47) rfl)) (by decide) (by decide)) (g := (mkF m 220 #[.val (.int p1), .val (.int p2), .val (.int p3), .val (.int p4), .val (.int p5), .val (.int p6), .val (.int c309), .val (.int c312), .val (.int c315), .val (.int (2 : Int32)), .val (.ref b318), .val (.int kk), .val (.ref wK), .val (.ref b363), .val (.ref b371), .val (.ref b379), .unset, .unset] [(.ref b318), (.ref b379), (.ref b371), (.ref wK), (.ref b363), (.ref b384), (.ref b384)])) rfl (by rw [hml]; rfl) (Steps.refl _) (a := b384) (argsL := [(.ref b363), (.ref wK), (.ref b371), (.ref b379), (.ref b318)]) (rest := [(.ref b384)]) (lenOf pd_8 rfl) rfl (by show 2 * 0 + _ ≤ _; exact Nat.le_of_eq rfl) (hb hby at_220) (fun _ _ => ⟨rfl, e384, (by decide : 10 + 0 ≤ _), (by decide : 28 + 0 ≤ _)⟩)
  dsimp only [Pt.U, Pt.locs, Pt.cells, Pt.slots] at X391 l391 y391 z391 st391 hQ391
  subst l391 y391 z391
  obtain ⟨rfl, Nq391, K391, Fs391⟩ := hQ391
  have N391 := Fr.app N379 Nq391
  have k392 : Rch p e below S0 T391 (mkF m 223 #[.val (.int p1), .val (.int p2), .val (.int p3), .val (.int p4), .val (.int p5), .val (.int p6), .val (.int c309), .val (.int c312), .val (.int c315), .val (.int (2 : Int32)), .val (.ref b318), .val (.int kk), .val (.ref wK), .val (.ref b363), .val (.ref b371), .val (.ref b379), .unset, .unset] [(.ref b384)]) := fun t h => k390 t (st391.trans h)
  have hC393 := hC387.keep K391 (sfS sf_b384 sf0)
  have rC393 := rC387.trans (CHr.keep K391 (sfS sf_b384 sf0) hC387)
  have sfx394 := (sfS sf_b384 sf0)
  replace sf_b318 := Safe.keep K391 sfx394 hC387 sf_b318
  replace sf_b324 := Safe.keep K391 sfx394 hC387 sf_b324
  replace sf_b384 := Safe.keep K391 sfx394 hC387 sf_b384
  have O395 := O388.keep K391 (allS ge_b384 all0)
  replace E_b318 := E_b318.keep K391
  replace Vb342 := Vb342.keep K391 (ninS ne_b318_b384 nin0)
  replace Cb342 := Cb342.keep K391 (ninS ne_b318_b384 nin0)
  replace V_b324 := V_b324.keep K391 (ninS ne_b324_b384 nin0)
  replace Ab342 := Ab342.keep K391 (ninS ne_t342_b384 nin0)
  replace X363E := X363E.keep K391
  replace X371E := X371E.keep K391
  replace X379E := X379E.keep K391
  replace E_b384 := E_b384.keep K391
  have hkk396 := Nat.le_trans hkk389 K391.1
  have k397 : Rch p e below S0 T391 (mkF m 225 #[.val (.int p1), .val (.int p2), .val (.int p3), .val (.int p4), .val (.int p5), .val (.int p6), .val (.int c309), .val (.int c312), .val (.int c315), .val (.int (2 : Int32)), .val (.ref b318), .val (.int kk), .val (.ref wK), .val (.ref b363), .val (.ref b371), .val (.ref b379), .val (.ref b384), .unset] []) := fun t h => k392 t (by
      show Steps p.tables e below (T391.setTop (mkF m 223 #[.val (.int p1), .val (.int p2), .val (.int p3), .val (.int p4), .val (.int p5), .val (.int p6), .val (.int c309), .val (.int c312), .val (.int c315), .val (.int (2 : Int32)), .val (.ref b318), .val (.int kk), .val (.ref wK), .val (.ref b363), .val (.ref b371), .val (.ref b379), .unset, .unset] [(.ref b384)])) _
      refine XS.astore X391.here hx rfl (hb hby at_223) rfl rfl (l' := #[.val (.int p1), .val (.int p2), .val (.int p3), .val (.int p4), .val (.int p5), .val (.int p6), .val (.int c309), .val (.int c312), .val (.int c315), .val (.int (2 : Int32)), .val (.ref b318), .val (.int kk), .val (.ref wK), .val (.ref b363), .val (.ref b371), .val (.ref b379), .val (.ref b384), .unset]) rfl ?_
      show Steps p.tables e below (T391.setTop (mkF m 225 #[.val (.int p1), .val (.int p2), .val (.int p3), .val (.int p4), .val (.int p5), .val (.int p6), .val (.int c309), .val (.int c312), .val (.int c315), .val (.int (2 : Int32)), .val (.ref b318), .val (.int kk), .val (.ref wK), .val (.ref b363), .val (.ref b371), .val (.ref b379), .val (.ref b384), .unset] [])) _
      exact h)
  have k398 : Rch p e below S0 T391 (mkF m 247 #[.val (.int p1), .val (.int p2), .val (.int p3), .val (.int p4), .val (.int p5), .val (.int p6), .val (.int c309), .val (.int c312), .val (.int c315), .val (.int (2 : Int32)), .val (.ref b318), .val (.int kk), .val (.ref wK), .val (.ref b363), .val (.ref b371), .val (.ref b379), .val (.ref b384), .val (.int (1 : Int32))] [(.ref b384)]) := fun t h => k397 t (by
      show Steps p.tables e below (T391.setTop (mkF m 225 #[.val (.int p1), .val (.int p2), .val (.int p3), .val (.int p4), .val (.int p5), .val (.int p6), .val (.int c309), .val (.int c312), .val (.int c315), .val (.int (2 : Int32)), .val (.ref b318), .val (.int kk), .val (.ref wK), .val (.ref b363), .val (.ref b371), .val (.ref b379), .val (.ref b384), .unset] [])) _
      refine XS.iload X391.here hx rfl (hb hby at_225) rfl ?_
      show Steps p.tables e below (T391.setTop (mkF m 227 #[.val (.int p1), .val (.int p2), .val (.int p3), .val (.int p4), .val (.int p5), .val (.int p6), .val (.int c309), .val (.int c312), .val (.int c315), .val (.int (2 : Int32)), .val (.ref b318), .val (.int kk), .val (.ref wK), .val (.ref b363), .val (.ref b371), .val (.ref b379), .val (.ref b384), .unset] [(.int (2 : Int32))])) _
      refine XS.iconst X391.here hx rfl (hb hby at_227) ?_
      show Steps p.tables e below (T391.setTop (mkF m 228 #[.val (.int p1), .val (.int p2), .val (.int p3), .val (.int p4), .val (.int p5), .val (.int p6), .val (.int c309), .val (.int c312), .val (.int c315), .val (.int (2 : Int32)), .val (.ref b318), .val (.int kk), .val (.ref wK), .val (.ref b363), .val (.ref b371), .val (.ref b379), .val (.ref b384), .unset] [(.int (1 : Int32)), (.int (2 : Int32))])) _
      refine XS.icmpYes X391.here hx rfl (pc0 := 228) (pc' := 238) rfl (hb hby at_228) rfl (feq (by decide : ¬ ((2 : Int32) = (1 : Int32)))).2 (by decide) (by decide) ?_
      show Steps p.tables e below (T391.setTop (mkF m 238 #[.val (.int p1), .val (.int p2), .val (.int p3), .val (.int p4), .val (.int p5), .val (.int p6), .val (.int c309), .val (.int c312), .val (.int c315), .val (.int (2 : Int32)), .val (.ref b318), .val (.int kk), .val (.ref wK), .val (.ref b363), .val (.ref b371), .val (.ref b379), .val (.ref b384), .unset] [])) _
      refine XS.iconst X391.here hx rfl (hb hby at_238) ?_
      show Steps p.tables e below (T391.setTop (mkF m 239 #[.val (.int p1), .val (.int p2), .val (.int p3), .val (.int p4), .val (.int p5), .val (.int p6), .val (.int c309), .val (.int c312), .val (.int c315), .val (.int (2 : Int32)), .val (.ref b318), .val (.int kk), .val (.ref wK), .val (.ref b363), .val (.ref b371), .val (.ref b379), .val (.ref b384), .unset] [(.int (1 : Int32))])) _
      refine XS.goto X391.here hx rfl (pc0 := 239) (pc' := 243) rfl (hb hby at_239) (by decide) (by decide) ?_
      show Steps p.tables e below (T391.setTop (mkF m 243 #[.val (.int p1), .val (.int p2), .val (.int p3), .val (.int p4), .val (.int p5), .val (.int p6), .val (.int c309), .val (.int c312), .val (.int c315), .val (.int (2 : Int32)), .val (.ref b318), .val (.int kk), .val (.ref wK), .val (.ref b363), .val (.ref b371), .val (.ref b379), .val (.ref b384), .unset] [(.int (1 : Int32))])) _
      refine XS.istore X391.here hx rfl (hb hby at_243) rfl (l' := #[.val (.int p1), .val (.int p2), .val (.int p3), .val (.int p4), .val (.int p5), .val (.int p6), .val (.int c309), .val (.int c312), .val (.int c315), .val (.int (2 : Int32)), .val (.ref b318), .val (.int kk), .val (.ref wK), .val (.ref b363), .val (.ref b371), .val (.ref b379), .val (.ref b384), .val (.int (1 : Int32))]) rfl ?_
      show Steps p.tables e below (T391.setTop (mkF m 245 #[.val (.int p1), .val (.int p2), .val (.int p3), .val (.int p4), .val (.int p5), .val (.int p6), .val (.int c309), .val (.int c312), .val (.int c315), .val (.int (2 : Int32)), .val (.ref b318), .val (.int kk), .val (.ref wK), .val (.ref b363), .val (.ref b371), .val (.ref b379), .val (.ref b384), .val (.int (1 : Int32))] [])) _
      refine XS.aload X391.here hx rfl (hb hby at_245) rfl rfl ?_
      show Steps p.tables e below (T391.setTop (mkF m 247 #[.val (.int p1), .val (.int p2), .val (.int p3), .val (.int p4), .val (.int p5), .val (.int p6), .val (.int c309), .val (.int c312), .val (.int c315), .val (.int (2 : Int32)), .val (.ref b318), .val (.int kk), .val (.ref wK), .val (.ref b363), .val (.ref b371), .val (.ref b379), .val (.ref b384), .val (.int (1 : Int32))] [(.ref b384)])) _
      exact h)
  have hpp : ∀ c ∈ ([c309, c312] : List Int32), ¬ c < 0 ∧ ¬ (255 : Int32) < c := by
    intro c hc
    simp only [List.mem_cons, List.not_mem_nil, or_false] at hc
    rcases hc with rfl | rfl
    · exact hc309
    · exact hc312
  have hcdd : StrChars.Road.CodA [c309, c312] 0 (2 : Int32) (([c309, c312].map (fun c => c.toInt8.toInt32)).map Value.int) := Or.inl ⟨rfl, rfl, rfl, fun c hc => (hpp c hc).2⟩
  obtain ⟨cq399, kq399, q399a, q399b, q399c⟩ := isOf hZ rfl E_b384
  obtain ⟨_, _, ⟨T399, L399, kk399, n399⟩, -, X399, hS399, gr399, ⟨Lc399, hQ399, l399, y399, z399, hR399⟩, st399⟩ := X391.virtualBackS hx (y := (⟨"com/example/suretygate/suretygate/rolemodel/CabinetFunction", "isSigning", "()Z"⟩ : MethodName)) (z := (⟨"com/example/suretygate/suretygate/rolemodel/CabinetFunction", "isSigning", "()Z"⟩ : MethodName)) hown (mvT hZ (hw _ (List.mem_of_getElem? (i := 67) rfl))) (mvT hZ (hw _ (List.mem_of_getElem? (i := 68) rfl))) (notFace_of_selects (args := #[]) (mvT hZ (hw _ (List.mem_of_getElem? (i := 70) rfl)))) (mvT hZ (hw _ (List.mem_of_getElem? (i := 70) rfl))) (mvT hZ (hw _ (List.mem_of_getElem? (i := 69) rfl))) (by decide) (backOfSH (W := 0) (rmG l Z a0 hw [] b384 b318 t342 kb342 (2 : Int32) (([c309, c312].map (fun c => c.toInt8.toInt32)).map Value.int) ([c309, c312]) zC T391.heap n0 O395 SC hzC Fs391 E_b318 Vb342 Cb342 Ab342 hcdd hpp (Nat.le_of_ble_eq_true rfl)) hZ (hw _ (List.mem_of_getElem? (i := 71) rfl)) (hw _ (List.mem_of_getElem? (i := 47) rfl)) (by decide) (by decide) hEL hC393) q399a q399c (g := (mkF m 247 #[.val (.int p1), .val (.int p2), .val (.int p3), .val (.int p4), .val (.int p5), .val (.int p6), .val (.int c309), .val (.int c312), .val (.int c315), .val (.int (2 : Int32)), .val (.ref b318), .val (.int kk), .val (.ref wK), .val (.ref b363), .val (.ref b371), .val (.ref b379), .val (.ref b384), .val (.int (1 : Int32))] [(.ref b384)])) rfl (by rw [hml]; rfl) (Steps.refl _) (argsL := []) (rest := []) (lenOf pd_9 rfl) rfl (by show 2 * 0 + _ ≤ _; exact Nat.le_of_eq rfl) (hb hby at_247) (fun _ _ => ⟨rfl, rfl, (by decide : 10 + 2 ≤ _), (by decide : 28 + 8 ≤ _)⟩)
  dsimp only [Pt.U, Pt.locs, Pt.cells, Pt.slots] at X399 l399 y399 z399 st399 hQ399 hS399 gr399 hR399
  subst l399 y399 z399
  have hZ399 : Z.Warmed39 (s.setVm T399.vm).vm := State.Warmed39.trans (t := (s.setVm s.vm)) hZ hS399.1
  have hown399 : (s.setVm T399.vm).vm.findClass "com/example/suretygate/suretygate/rolemodel/CabinetFunctionIsSigningPinLaw" = some m.cls := by rw [show (s.setVm T399.vm).vm = T399.vm from rfl, hS399.1.alike.findClass]; exact hown
  replace hS399 := foldS hS (by exact hkk396) hS399 gr399
  have hk399 := Nat.le_refl T399.heap.size
  replace X399 : Stand p l e room_1 (s.setVm T399.vm) m #[(.int p1), (.int p2), (.int p3), (.int p4), (.int p5), (.int p6)] below meth c T399 _ _ _ := X399
  obtain ⟨r399, rfl, Nq399, E399, hr399⟩ := hQ399
  have N399 := Fr.app N391 Nq399
  have k400 : Rch p e below S0 T399 (mkF m 250 #[.val (.int p1), .val (.int p2), .val (.int p3), .val (.int p4), .val (.int p5), .val (.int p6), .val (.int c309), .val (.int c312), .val (.int c315), .val (.int (2 : Int32)), .val (.ref b318), .val (.int kk), .val (.ref wK), .val (.ref b363), .val (.ref b371), .val (.ref b379), .val (.ref b384), .val (.int (1 : Int32))] [(.int r399)]) := fun t h => k398 t (st399.trans h)
  replace sf_b318 := hR399.safe E_b318.lt sf_b318
  replace sf_b324 := hR399.safe V_b324.lt sf_b324
  replace sf_b384 := hR399.safe E_b384.lt sf_b384
  have hC401 := hR399.1
  have rC401 := rC393.trans hR399
  have O402 := O395.ext E399
  replace E_b318 := E_b318.ext E399
  replace Vb342 := Vb342.ext E399
  replace Cb342 := Cb342.ext E399
  replace V_b324 := V_b324.ext E399
  replace Ab342 := Ab342.ext E399
  replace X363E := X363E.ext E399
  replace X371E := X371E.ext E399
  replace X379E := X379E.ext E399
  replace E_b384 := E_b384.ext E399
  replace Fs391 := Fs391.ext E399
  obtain rfl : r399 = (1 : Int32) := by
    rcases hr399 with ⟨q, hq⟩ | ⟨q, hq⟩
    · exact absurd hq (by simp)
    · exact q
  have k403 : Rch p e below S0 T399 (mkF m 260 #[.val (.int p1), .val (.int p2), .val (.int p3), .val (.int p4), .val (.int p5), .val (.int p6), .val (.int c309), .val (.int c312), .val (.int c315), .val (.int (2 : Int32)), .val (.ref b318), .val (.int kk), .val (.ref wK), .val (.ref b363), .val (.ref b371), .val (.ref b379), .val (.ref b384), .val (.int (1 : Int32))] [(.int (1 : Int32))]) := fun t h => k400 t (by
      show Steps p.tables e below (T399.setTop (mkF m 250 #[.val (.int p1), .val (.int p2), .val (.int p3), .val (.int p4), .val (.int p5), .val (.int p6), .val (.int c309), .val (.int c312), .val (.int c315), .val (.int (2 : Int32)), .val (.ref b318), .val (.int kk), .val (.ref wK), .val (.ref b363), .val (.ref b371), .val (.ref b379), .val (.ref b384), .val (.int (1 : Int32))] [(.int (1 : Int32))])) _
      refine XS.iload X399.here hx rfl (hb hby at_250) rfl ?_
      show Steps p.tables e below (T399.setTop (mkF m 252 #[.val (.int p1), .val (.int p2), .val (.int p3), .val (.int p4), .val (.int p5), .val (.int p6), .val (.int c309), .val (.int c312), .val (.int c315), .val (.int (2 : Int32)), .val (.ref b318), .val (.int kk), .val (.ref wK), .val (.ref b363), .val (.ref b371), .val (.ref b379), .val (.ref b384), .val (.int (1 : Int32))] [(.int (1 : Int32)), (.int (1 : Int32))])) _
      refine XS.icmpNo X399.here hx rfl (hb hby at_252) rfl (teq (by decide : (1 : Int32) = (1 : Int32))).2 ?_
      show Steps p.tables e below (T399.setTop (mkF m 255 #[.val (.int p1), .val (.int p2), .val (.int p3), .val (.int p4), .val (.int p5), .val (.int p6), .val (.int c309), .val (.int c312), .val (.int c315), .val (.int (2 : Int32)), .val (.ref b318), .val (.int kk), .val (.ref wK), .val (.ref b363), .val (.ref b371), .val (.ref b379), .val (.ref b384), .val (.int (1 : Int32))] [])) _
      refine XS.iconst X399.here hx rfl (hb hby at_255) ?_
      show Steps p.tables e below (T399.setTop (mkF m 256 #[.val (.int p1), .val (.int p2), .val (.int p3), .val (.int p4), .val (.int p5), .val (.int p6), .val (.int c309), .val (.int c312), .val (.int c315), .val (.int (2 : Int32)), .val (.ref b318), .val (.int kk), .val (.ref wK), .val (.ref b363), .val (.ref b371), .val (.ref b379), .val (.ref b384), .val (.int (1 : Int32))] [(.int (1 : Int32))])) _
      refine XS.goto X399.here hx rfl (pc0 := 256) (pc' := 260) rfl (hb hby at_256) (by decide) (by decide) ?_
      show Steps p.tables e below (T399.setTop (mkF m 260 #[.val (.int p1), .val (.int p2), .val (.int p3), .val (.int p4), .val (.int p5), .val (.int p6), .val (.int c309), .val (.int c312), .val (.int c315), .val (.int (2 : Int32)), .val (.ref b318), .val (.int kk), .val (.ref wK), .val (.ref b363), .val (.ref b371), .val (.ref b379), .val (.ref b384), .val (.int (1 : Int32))] [(.int (1 : Int32))])) _
      exact h)
  obtain ⟨fs, hr, hrun, hended, hfin⟩ := X399.leaveW hS399 (by exact hk399) (v := (some (.int (1 : Int32)))) (fun h => by rw [Bd.returns] at h; cases h)
  refine ⟨_, _, ?_, hrun, hended, _, _, rfl, ?_, (by rw [hh]; have q := own_chr rC401 (CHv.at X399 hZ399 hEL hC401) rfl; exact q), hfin.1, hfin.2.1, hfin.2.2.1, hfin.2.2.2.mono (by decide) (by decide)⟩
  · rw [← hS0]
    refine k403 _ ?_
    show Steps p.tables e below (T399.setTop (mkF m 260 #[.val (.int p1), .val (.int p2), .val (.int p3), .val (.int p4), .val (.int p5), .val (.int p6), .val (.int c309), .val (.int c312), .val (.int c315), .val (.int (2 : Int32)), .val (.ref b318), .val (.int kk), .val (.ref wK), .val (.ref b363), .val (.ref b371), .val (.ref b379), .val (.ref b384), .val (.int (1 : Int32))] [(.int (1 : Int32))])) _
    exact retN X399 hx (t := .boolean) Bd.returns (by simp) (hb hby at_260) hr
  · show Q_rm0_2 Z  h0 n0 _ T399.heap _
    exact ⟨rfl, N399⟩
def Q_rm0_3 (Z : State)  (h0 : Heap) (n0 : Nat) (v : Option Value) (h : Heap) (L : List Loc) : Prop := v = some (.int (1 : Int32)) ∧ Fr n0 L
set_option maxRecDepth 65536 in
set_option maxHeartbeats 40000000 in
theorem rm0_3 (l : Launch) (Z : State) (a0 : Array Value) (hw : ∀ d ∈ tables_1, d.before a0 Z = true) (ws : List Jvm.Cond) (p1 : Int32) (p2 : Int32) (p3 : Int32) (p4 : Int32) (p5 : Int32) (p6 : Int32) (zC : Int32) (wM : Addr) (wP : Addr) (wA : Addr) (h0 : Heap) (n0 : Nat) (O0 : Old Z n0 h0) (SC : Sta Z Z.heap "java/lang/String" "COMPACT_STRINGS" "Z" (.int zC)) (hzC : ¬ zC = 0) (SM : Sta Z Z.heap "com/example/suretygate/suretygate/rolemodel/CabinetFunction$Kind" "MENU" "Lcom/example/suretygate/suretygate/rolemodel/CabinetFunction$Kind;" (.ref wM)) (SP : Sta Z Z.heap "com/example/suretygate/suretygate/rolemodel/CabinetFunction$Kind" "PAGE" "Lcom/example/suretygate/suretygate/rolemodel/CabinetFunction$Kind;" (.ref wP)) (SA : Sta Z Z.heap "com/example/suretygate/suretygate/rolemodel/CabinetFunction$Kind" "ACTION" "Lcom/example/suretygate/suretygate/rolemodel/CabinetFunction$Kind;" (.ref wA)) (hk0 : (p1 &&& (3 : Int32)) = (3 : Int32)) :
    MetFree l x (head1 (Jvm.Cond.code x code maxLocals ret :: ws) room_1) (fun a U => a = #[(.int p1), (.int p2), (.int p3), (.int p4), (.int p5), (.int p6)] ∧ Z.Warmed39 U.vm ∧ U.heap = h0 ∧ CHv Z consts_1 U.vm h0) (fun _ _ _ _ _ => True) (fun _ U o U' => ∃ v L, o = .returned v ∧ Q_rm0_3 Z  h0 n0 v U'.heap L ∧ CHr Z consts_1 U.vm U.heap U'.vm U'.heap ∧ ReturnedEndW U o U' L room_1.cells room_1.slots) := by
  refine MetFree.of_bodySF (plainFor_of_name pn_CabinetFunctionIsSigningPinLaw) hisR ?_
  intro p e s m args below meth c s₁ Bd hml0 hP hK
  obtain ⟨rfl, hZ, hh, hC0⟩ := hP
  have hx := Bd.exec
  have hby := Bd.bytes
  have hml : c.maxLocals = 18 := hml0
  have hown : s.vm.findClass "com/example/suretygate/suretygate/rolemodel/CabinetFunctionIsSigningPinLaw" = some m.cls := findClass_of_methodNamed Bd.named
  have hnm := (name_of_methodNamed Bd.named Bd.method).1
  have X0 : Stand p l e room_1 (s.setVm s.vm) m #[(.int p1), (.int p2), (.int p3), (.int p4), (.int p5), (.int p6)] below meth c s₁ [] 0 0 := Stand.of_body Bd
  have e0 : s₁.heap = h0 := by rw [← hh, Bd.state]; rfl
  have N0 := Fr.nil n0
  obtain ⟨S0, hS0⟩ : ∃ z, z = s₁.setTop (entryFrame m #[(.int p1), (.int p2), (.int p3), (.int p4), (.int p5), (.int p6)] maxLocals) := ⟨_, rfl⟩
  have k0 : Rch p e below S0 s₁ (mkF m 0 #[.val (.int p1), .val (.int p2), .val (.int p3), .val (.int p4), .val (.int p5), .val (.int p6), .unset, .unset, .unset, .unset, .unset, .unset, .unset, .unset, .unset, .unset, .unset, .unset] []) := fun t k => hS0 ▸ castTop (ef_0 m p1 p2 p3 p4 p5 p6) k
  have hS : s.Since s.vm s.heap.size := (State.WarmedH.refl s).since _
  have hk : s.heap.size ≤ h0.size := by rw [← hh]; exact Nat.le_refl _
  have hwS : ∀ d ∈ Bundle.stringAtoms, d.before a0 Z = true := fun d hd => hw d ((by decide +kernel : ∀ d ∈ Bundle.stringAtoms, d ∈ tables_1) d hd)
  have rC0 : CHr Z consts_1 s.vm h0 s.vm h0 := CHr.refl hC0
  have hEL : EW Z a0 consts_1 := (EW.cons (hw _ (List.mem_of_getElem? (i := 72) rfl)) (by decide +kernel) (EW.cons (hw _ (List.mem_of_getElem? (i := 18) rfl)) (by decide +kernel) EW.nil))
  have k404 : Rch p e below S0 s₁ (mkF m 1 #[.val (.int p1), .val (.int p2), .val (.int p3), .val (.int p4), .val (.int p5), .val (.int p6), .unset, .unset, .unset, .unset, .unset, .unset, .unset, .unset, .unset, .unset, .unset, .unset] [(.int p2)]) := fun t h => k0 t (by
      show Steps p.tables e below (s₁.setTop (mkF m 0 #[.val (.int p1), .val (.int p2), .val (.int p3), .val (.int p4), .val (.int p5), .val (.int p6), .unset, .unset, .unset, .unset, .unset, .unset, .unset, .unset, .unset, .unset, .unset, .unset] [])) _
      refine XS.iloadN X0.here hx rfl (hb hby at_0) rfl ?_
      show Steps p.tables e below (s₁.setTop (mkF m 1 #[.val (.int p1), .val (.int p2), .val (.int p3), .val (.int p4), .val (.int p5), .val (.int p6), .unset, .unset, .unset, .unset, .unset, .unset, .unset, .unset, .unset, .unset, .unset, .unset] [(.int p2)])) _
      exact h)
  obtain ⟨_, _, ⟨T405, L405, kk405, n405⟩, -, X405, ⟨Lc405, hQ405, l405, y405, z405⟩, st405⟩ := Jvm.LawKit.callS X0 hx (y := (⟨"com/example/suretygate/suretygate/rolemodel/CabinetFunctionIsSigningPinLaw", "pick", "(I)C"⟩ : MethodName)) hown (mvT hZ (hw _ (List.mem_of_getElem? (i := 0) rfl))) (mvT hZ (hw _ (List.mem_of_getElem? (i := 1) rfl))) (mvT hZ (hw _ (List.mem_of_getElem? (i := 2) rfl))) (mvT hZ (hw _ (List.mem_of_getElem? (i := 3) rfl))) (by decide) (backOf (W := 0) (rmP l Z a0 hw [] p2  h0 n0 O0 ) hZ (hw _ (List.mem_of_getElem? (i := 3) rfl)) (hw _ (List.mem_of_getElem? (i := 2) rfl)) (by decide) (by decide)) (g := (mkF m 1 #[.val (.int p1), .val (.int p2), .val (.int p3), .val (.int p4), .val (.int p5), .val (.int p6), .unset, .unset, .unset, .unset, .unset, .unset, .unset, .unset, .unset, .unset, .unset, .unset] [(.int p2)])) rfl (by rw [hml]; rfl) (argsL := [(.int p2)]) (rest := []) (lenOf pd_0 rfl) rfl (by show 2 * 0 + _ ≤ _; exact Nat.le_of_eq rfl) (hb hby at_1) (fun _ _ => ⟨rfl, e0, (by decide : 0 + 0 ≤ _), (by decide : 0 + 0 ≤ _)⟩)
  dsimp only [Pt.U, Pt.locs, Pt.cells, Pt.slots] at X405 l405 y405 z405 st405 hQ405
  subst l405 y405 z405
  obtain ⟨c405, rfl, Nq405, hh405, hc405⟩ := hQ405
  have N405 := Fr.app N0 Nq405
  have k406 : Rch p e below S0 T405 (mkF m 4 #[.val (.int p1), .val (.int p2), .val (.int p3), .val (.int p4), .val (.int p5), .val (.int p6), .unset, .unset, .unset, .unset, .unset, .unset, .unset, .unset, .unset, .unset, .unset, .unset] [(.int c405)]) := fun t h => k404 t (st405 t h)
  have k407 : Rch p e below S0 T405 (mkF m 7 #[.val (.int p1), .val (.int p2), .val (.int p3), .val (.int p4), .val (.int p5), .val (.int p6), .val (.int c405), .unset, .unset, .unset, .unset, .unset, .unset, .unset, .unset, .unset, .unset, .unset] [(.int p3)]) := fun t h => k406 t (by
      show Steps p.tables e below (T405.setTop (mkF m 4 #[.val (.int p1), .val (.int p2), .val (.int p3), .val (.int p4), .val (.int p5), .val (.int p6), .unset, .unset, .unset, .unset, .unset, .unset, .unset, .unset, .unset, .unset, .unset, .unset] [(.int c405)])) _
      refine XS.istore X405.here hx rfl (hb hby at_4) rfl (l' := #[.val (.int p1), .val (.int p2), .val (.int p3), .val (.int p4), .val (.int p5), .val (.int p6), .val (.int c405), .unset, .unset, .unset, .unset, .unset, .unset, .unset, .unset, .unset, .unset, .unset]) rfl ?_
      show Steps p.tables e below (T405.setTop (mkF m 6 #[.val (.int p1), .val (.int p2), .val (.int p3), .val (.int p4), .val (.int p5), .val (.int p6), .val (.int c405), .unset, .unset, .unset, .unset, .unset, .unset, .unset, .unset, .unset, .unset, .unset] [])) _
      refine XS.iloadN X405.here hx rfl (hb hby at_6) rfl ?_
      show Steps p.tables e below (T405.setTop (mkF m 7 #[.val (.int p1), .val (.int p2), .val (.int p3), .val (.int p4), .val (.int p5), .val (.int p6), .val (.int c405), .unset, .unset, .unset, .unset, .unset, .unset, .unset, .unset, .unset, .unset, .unset] [(.int p3)])) _
      exact h)
  obtain ⟨_, _, ⟨T408, L408, kk408, n408⟩, -, X408, ⟨Lc408, hQ408, l408, y408, z408⟩, st408⟩ := Jvm.LawKit.callS X405 hx (y := (⟨"com/example/suretygate/suretygate/rolemodel/CabinetFunctionIsSigningPinLaw", "pick", "(I)C"⟩ : MethodName)) hown (mvT hZ (hw _ (List.mem_of_getElem? (i := 0) rfl))) (mvT hZ (hw _ (List.mem_of_getElem? (i := 1) rfl))) (mvT hZ (hw _ (List.mem_of_getElem? (i := 2) rfl))) (mvT hZ (hw _ (List.mem_of_getElem? (i := 3) rfl))) (by decide) (backOf (W := 0) (rmP l Z a0 hw [] p3  h0 n0 O0 ) hZ (hw _ (List.mem_of_getElem? (i := 3) rfl)) (hw _ (List.mem_of_getElem? (i := 2) rfl)) (by decide) (by decide)) (g := (mkF m 7 #[.val (.int p1), .val (.int p2), .val (.int p3), .val (.int p4), .val (.int p5), .val (.int p6), .val (.int c405), .unset, .unset, .unset, .unset, .unset, .unset, .unset, .unset, .unset, .unset, .unset] [(.int p3)])) rfl (by rw [hml]; rfl) (argsL := [(.int p3)]) (rest := []) (lenOf pd_0 rfl) rfl (by show 2 * 0 + _ ≤ _; exact Nat.le_of_eq rfl) (hb hby at_7) (fun _ _ => ⟨rfl, hh405, (by decide : 0 + 0 ≤ _), (by decide : 0 + 0 ≤ _)⟩)
  dsimp only [Pt.U, Pt.locs, Pt.cells, Pt.slots] at X408 l408 y408 z408 st408 hQ408
  subst l408 y408 z408
  obtain ⟨c408, rfl, Nq408, hh408, hc408⟩ := hQ408
  have N408 := Fr.app N405 Nq408
  have k409 : Rch p e below S0 T408 (mkF m 10 #[.val (.int p1), .val (.int p2), .val (.int p3), .val (.int p4), .val (.int p5), .val (.int p6), .val (.int c405), .unset, .unset, .unset, .unset, .unset, .unset, .unset, .unset, .unset, .unset, .unset] [(.int c408)]) := fun t h => k407 t (st408 t h)
  have k410 : Rch p e below S0 T408 (mkF m 13 #[.val (.int p1), .val (.int p2), .val (.int p3), .val (.int p4), .val (.int p5), .val (.int p6), .val (.int c405), .val (.int c408), .unset, .unset, .unset, .unset, .unset, .unset, .unset, .unset, .unset, .unset] [(.int p4)]) := fun t h => k409 t (by
      show Steps p.tables e below (T408.setTop (mkF m 10 #[.val (.int p1), .val (.int p2), .val (.int p3), .val (.int p4), .val (.int p5), .val (.int p6), .val (.int c405), .unset, .unset, .unset, .unset, .unset, .unset, .unset, .unset, .unset, .unset, .unset] [(.int c408)])) _
      refine XS.istore X408.here hx rfl (hb hby at_10) rfl (l' := #[.val (.int p1), .val (.int p2), .val (.int p3), .val (.int p4), .val (.int p5), .val (.int p6), .val (.int c405), .val (.int c408), .unset, .unset, .unset, .unset, .unset, .unset, .unset, .unset, .unset, .unset]) rfl ?_
      show Steps p.tables e below (T408.setTop (mkF m 12 #[.val (.int p1), .val (.int p2), .val (.int p3), .val (.int p4), .val (.int p5), .val (.int p6), .val (.int c405), .val (.int c408), .unset, .unset, .unset, .unset, .unset, .unset, .unset, .unset, .unset, .unset] [])) _
      refine XS.iloadN X408.here hx rfl (hb hby at_12) rfl ?_
      show Steps p.tables e below (T408.setTop (mkF m 13 #[.val (.int p1), .val (.int p2), .val (.int p3), .val (.int p4), .val (.int p5), .val (.int p6), .val (.int c405), .val (.int c408), .unset, .unset, .unset, .unset, .unset, .unset, .unset, .unset, .unset, .unset] [(.int p4)])) _
      exact h)
  obtain ⟨_, _, ⟨T411, L411, kk411, n411⟩, -, X411, ⟨Lc411, hQ411, l411, y411, z411⟩, st411⟩ := Jvm.LawKit.callS X408 hx (y := (⟨"com/example/suretygate/suretygate/rolemodel/CabinetFunctionIsSigningPinLaw", "pick", "(I)C"⟩ : MethodName)) hown (mvT hZ (hw _ (List.mem_of_getElem? (i := 0) rfl))) (mvT hZ (hw _ (List.mem_of_getElem? (i := 1) rfl))) (mvT hZ (hw _ (List.mem_of_getElem? (i := 2) rfl))) (mvT hZ (hw _ (List.mem_of_getElem? (i := 3) rfl))) (by decide) (backOf (W := 0) (rmP l Z a0 hw [] p4  h0 n0 O0 ) hZ (hw _ (List.mem_of_getElem? (i := 3) rfl)) (hw _ (List.mem_of_getElem? (i := 2) rfl)) (by decide) (by decide)) (g := (mkF m 13 #[.val (.int p1), .val (.int p2), .val (.int p3), .val (.int p4), .val (.int p5), .val (.int p6), .val (.int c405), .val (.int c408), .unset, .unset, .unset, .unset, .unset, .unset, .unset, .unset, .unset, .unset] [(.int p4)])) rfl (by rw [hml]; rfl) (argsL := [(.int p4)]) (rest := []) (lenOf pd_0 rfl) rfl (by show 2 * 0 + _ ≤ _; exact Nat.le_of_eq rfl) (hb hby at_13) (fun _ _ => ⟨rfl, hh408, (by decide : 0 + 0 ≤ _), (by decide : 0 + 0 ≤ _)⟩)
  dsimp only [Pt.U, Pt.locs, Pt.cells, Pt.slots] at X411 l411 y411 z411 st411 hQ411
  subst l411 y411 z411
  obtain ⟨c411, rfl, Nq411, hh411, hc411⟩ := hQ411
  have N411 := Fr.app N408 Nq411
  have k412 : Rch p e below S0 T411 (mkF m 16 #[.val (.int p1), .val (.int p2), .val (.int p3), .val (.int p4), .val (.int p5), .val (.int p6), .val (.int c405), .val (.int c408), .unset, .unset, .unset, .unset, .unset, .unset, .unset, .unset, .unset, .unset] [(.int c411)]) := fun t h => k410 t (st411 t h)
  have k413 : Rch p e below S0 T411 (mkF m 23 #[.val (.int p1), .val (.int p2), .val (.int p3), .val (.int p4), .val (.int p5), .val (.int p6), .val (.int c405), .val (.int c408), .val (.int c411), .val (.int (3 : Int32)), .unset, .unset, .unset, .unset, .unset, .unset, .unset, .unset] []) := fun t h => k412 t (by
      show Steps p.tables e below (T411.setTop (mkF m 16 #[.val (.int p1), .val (.int p2), .val (.int p3), .val (.int p4), .val (.int p5), .val (.int p6), .val (.int c405), .val (.int c408), .unset, .unset, .unset, .unset, .unset, .unset, .unset, .unset, .unset, .unset] [(.int c411)])) _
      refine XS.istore X411.here hx rfl (hb hby at_16) rfl (l' := #[.val (.int p1), .val (.int p2), .val (.int p3), .val (.int p4), .val (.int p5), .val (.int p6), .val (.int c405), .val (.int c408), .val (.int c411), .unset, .unset, .unset, .unset, .unset, .unset, .unset, .unset, .unset]) rfl ?_
      show Steps p.tables e below (T411.setTop (mkF m 18 #[.val (.int p1), .val (.int p2), .val (.int p3), .val (.int p4), .val (.int p5), .val (.int p6), .val (.int c405), .val (.int c408), .val (.int c411), .unset, .unset, .unset, .unset, .unset, .unset, .unset, .unset, .unset] [])) _
      refine XS.iloadN X411.here hx rfl (hb hby at_18) rfl ?_
      show Steps p.tables e below (T411.setTop (mkF m 19 #[.val (.int p1), .val (.int p2), .val (.int p3), .val (.int p4), .val (.int p5), .val (.int p6), .val (.int c405), .val (.int c408), .val (.int c411), .unset, .unset, .unset, .unset, .unset, .unset, .unset, .unset, .unset] [(.int p1)])) _
      refine XS.iconst X411.here hx rfl (hb hby at_19) ?_
      show Steps p.tables e below (T411.setTop (mkF m 20 #[.val (.int p1), .val (.int p2), .val (.int p3), .val (.int p4), .val (.int p5), .val (.int p6), .val (.int c405), .val (.int c408), .val (.int c411), .unset, .unset, .unset, .unset, .unset, .unset, .unset, .unset, .unset] [(.int (3 : Int32)), (.int p1)])) _
      refine XS.iand X411.here hx rfl (hb hby at_20) rfl ?_
      rw [hk0]
      show Steps p.tables e below (T411.setTop (mkF m 21 #[.val (.int p1), .val (.int p2), .val (.int p3), .val (.int p4), .val (.int p5), .val (.int p6), .val (.int c405), .val (.int c408), .val (.int c411), .unset, .unset, .unset, .unset, .unset, .unset, .unset, .unset, .unset] [(.int (3 : Int32))])) _
      refine XS.istore X411.here hx rfl (hb hby at_21) rfl (l' := #[.val (.int p1), .val (.int p2), .val (.int p3), .val (.int p4), .val (.int p5), .val (.int p6), .val (.int c405), .val (.int c408), .val (.int c411), .val (.int (3 : Int32)), .unset, .unset, .unset, .unset, .unset, .unset, .unset, .unset]) rfl ?_
      show Steps p.tables e below (T411.setTop (mkF m 23 #[.val (.int p1), .val (.int p2), .val (.int p3), .val (.int p4), .val (.int p5), .val (.int p6), .val (.int c405), .val (.int c408), .val (.int c411), .val (.int (3 : Int32)), .unset, .unset, .unset, .unset, .unset, .unset, .unset, .unset] [])) _
      exact h)
  have k415 : Rch p e below S0 T411 (mkF m 100 #[.val (.int p1), .val (.int p2), .val (.int p3), .val (.int p4), .val (.int p5), .val (.int p6), .val (.int c405), .val (.int c408), .val (.int c411), .val (.int (3 : Int32)), .unset, .unset, .unset, .unset, .unset, .unset, .unset, .unset] []) := fun t h => k413 t (by
      show Steps p.tables e below (T411.setTop (mkF m 23 #[.val (.int p1), .val (.int p2), .val (.int p3), .val (.int p4), .val (.int p5), .val (.int p6), .val (.int c405), .val (.int c408), .val (.int c411), .val (.int (3 : Int32)), .unset, .unset, .unset, .unset, .unset, .unset, .unset, .unset] [])) _
      refine XS.iload X411.here hx rfl (hb hby at_23) rfl ?_
      show Steps p.tables e below (T411.setTop (mkF m 25 #[.val (.int p1), .val (.int p2), .val (.int p3), .val (.int p4), .val (.int p5), .val (.int p6), .val (.int c405), .val (.int c408), .val (.int c411), .val (.int (3 : Int32)), .unset, .unset, .unset, .unset, .unset, .unset, .unset, .unset] [(.int (3 : Int32))])) _
      refine XS.ifYes X411.here hx rfl (pc0 := 25) (pc' := 43) rfl (hb hby at_25) rfl ((if0 _ _).trans (feq (by decide : ¬ ((3 : Int32) = (0 : Int32)))).2) (by decide) (by decide) ?_
      show Steps p.tables e below (T411.setTop (mkF m 43 #[.val (.int p1), .val (.int p2), .val (.int p3), .val (.int p4), .val (.int p5), .val (.int p6), .val (.int c405), .val (.int c408), .val (.int c411), .val (.int (3 : Int32)), .unset, .unset, .unset, .unset, .unset, .unset, .unset, .unset] [])) _
      refine XS.iload X411.here hx rfl (hb hby at_43) rfl ?_
      show Steps p.tables e below (T411.setTop (mkF m 45 #[.val (.int p1), .val (.int p2), .val (.int p3), .val (.int p4), .val (.int p5), .val (.int p6), .val (.int c405), .val (.int c408), .val (.int c411), .val (.int (3 : Int32)), .unset, .unset, .unset, .unset, .unset, .unset, .unset, .unset] [(.int (3 : Int32))])) _
      refine XS.iconst X411.here hx rfl (hb hby at_45) ?_
      show Steps p.tables e below (T411.setTop (mkF m 46 #[.val (.int p1), .val (.int p2), .val (.int p3), .val (.int p4), .val (.int p5), .val (.int p6), .val (.int c405), .val (.int c408), .val (.int c411), .val (.int (3 : Int32)), .unset, .unset, .unset, .unset, .unset, .unset, .unset, .unset] [(.int (1 : Int32)), (.int (3 : Int32))])) _
      refine XS.icmpYes X411.here hx rfl (pc0 := 46) (pc' := 69) rfl (hb hby at_46) rfl (feq (by decide : ¬ ((3 : Int32) = (1 : Int32)))).2 (by decide) (by decide) ?_
      show Steps p.tables e below (T411.setTop (mkF m 69 #[.val (.int p1), .val (.int p2), .val (.int p3), .val (.int p4), .val (.int p5), .val (.int p6), .val (.int c405), .val (.int c408), .val (.int c411), .val (.int (3 : Int32)), .unset, .unset, .unset, .unset, .unset, .unset, .unset, .unset] [])) _
      refine XS.iload X411.here hx rfl (hb hby at_69) rfl ?_
      show Steps p.tables e below (T411.setTop (mkF m 71 #[.val (.int p1), .val (.int p2), .val (.int p3), .val (.int p4), .val (.int p5), .val (.int p6), .val (.int c405), .val (.int c408), .val (.int c411), .val (.int (3 : Int32)), .unset, .unset, .unset, .unset, .unset, .unset, .unset, .unset] [(.int (3 : Int32))])) _
      refine XS.iconst X411.here hx rfl (hb hby at_71) ?_
      show Steps p.tables e below (T411.setTop (mkF m 72 #[.val (.int p1), .val (.int p2), .val (.int p3), .val (.int p4), .val (.int p5), .val (.int p6), .val (.int c405), .val (.int c408), .val (.int c411), .val (.int (3 : Int32)), .unset, .unset, .unset, .unset, .unset, .unset, .unset, .unset] [(.int (2 : Int32)), (.int (3 : Int32))])) _
      refine XS.icmpYes X411.here hx rfl (pc0 := 72) (pc' := 100) rfl (hb hby at_72) rfl (feq (by decide : ¬ ((3 : Int32) = (2 : Int32)))).2 (by decide) (by decide) ?_
      show Steps p.tables e below (T411.setTop (mkF m 100 #[.val (.int p1), .val (.int p2), .val (.int p3), .val (.int p4), .val (.int p5), .val (.int p6), .val (.int c405), .val (.int c408), .val (.int c411), .val (.int (3 : Int32)), .unset, .unset, .unset, .unset, .unset, .unset, .unset, .unset] [])) _
      exact h)
  obtain ⟨T414, h414, X414, e414, E414, A414, D414, -, st414⟩ := newO X411 hx hZ hown (hw _ (List.mem_of_getElem? (i := 4) rfl)) (hw _ (List.mem_of_getElem? (i := 5) rfl)) (hw _ (List.mem_of_getElem? (i := 6) rfl)) hh411 (g := (mkF m 100 #[.val (.int p1), .val (.int p2), .val (.int p3), .val (.int p4), .val (.int p5), .val (.int p6), .val (.int c405), .val (.int c408), .val (.int c411), .val (.int (3 : Int32)), .unset, .unset, .unset, .unset, .unset, .unset, .unset, .unset] [])) rfl (hb hby at_100) (by decide) (by decide)
  obtain ⟨b414, g414⟩ : ∃ z, z = h0.size := ⟨_, rfl⟩
  rw [← g414] at A414 D414 st414
  have k416 : Rch p e below S0 T414 (mkF m 103 #[.val (.int p1), .val (.int p2), .val (.int p3), .val (.int p4), .val (.int p5), .val (.int p6), .val (.int c405), .val (.int c408), .val (.int c411), .val (.int (3 : Int32)), .unset, .unset, .unset, .unset, .unset, .unset, .unset, .unset] [(.ref b414)]) := fun t h => k415 t (st414 t h)
  have ge_b414 : n0 ≤ b414 := own_ge O0 (Nat.le_of_eq g414.symm)
  have sf_b414 : Safe Z consts_1 s.vm h0 b414 := Safe.new (Nat.le_of_eq g414.symm)
  replace sf_b414 := Safe.ext E414 hC0 sf_b414
  have hC417 := hC0.ext E414
  have rC417 := rC0.trans (CHr.ext E414 hC0)
  have O418 := O0.ext E414
  have hkk419 := Nat.le_trans hk E414.1
  have E_b414 := A414
  have F_b414_value : Fld Z h414 b414 "java/lang/String" "value" "[B" .null := D414 (Or.inr (hw _ (List.mem_of_getElem? (i := 20) rfl))) (ty := (.array .byte)) (by decide)
  have F_b414_coder : Fld Z h414 b414 "java/lang/String" "coder" "B" (.int (0 : Int32)) := D414 (Or.inr (hw _ (List.mem_of_getElem? (i := 21) rfl))) (ty := .byte) (by decide)
  have k421 : Rch p e below S0 T414 (mkF m 105 #[.val (.int p1), .val (.int p2), .val (.int p3), .val (.int p4), .val (.int p5), .val (.int p6), .val (.int c405), .val (.int c408), .val (.int c411), .val (.int (3 : Int32)), .unset, .unset, .unset, .unset, .unset, .unset, .unset, .unset] [(.int (3 : Int32)), (.ref b414), (.ref b414)]) := fun t h => k416 t (by
      show Steps p.tables e below (T414.setTop (mkF m 103 #[.val (.int p1), .val (.int p2), .val (.int p3), .val (.int p4), .val (.int p5), .val (.int p6), .val (.int c405), .val (.int c408), .val (.int c411), .val (.int (3 : Int32)), .unset, .unset, .unset, .unset, .unset, .unset, .unset, .unset] [(.ref b414)])) _
      refine XS.dup X414.here hx rfl (hb hby at_103) rfl rfl ?_
      show Steps p.tables e below (T414.setTop (mkF m 104 #[.val (.int p1), .val (.int p2), .val (.int p3), .val (.int p4), .val (.int p5), .val (.int p6), .val (.int c405), .val (.int c408), .val (.int c411), .val (.int (3 : Int32)), .unset, .unset, .unset, .unset, .unset, .unset, .unset, .unset] [(.ref b414), (.ref b414)])) _
      refine XS.iconst X414.here hx rfl (hb hby at_104) ?_
      show Steps p.tables e below (T414.setTop (mkF m 105 #[.val (.int p1), .val (.int p2), .val (.int p3), .val (.int p4), .val (.int p5), .val (.int p6), .val (.int c405), .val (.int c408), .val (.int c411), .val (.int (3 : Int32)), .unset, .unset, .unset, .unset, .unset, .unset, .unset, .unset] [(.int (3 : Int32)), (.ref b414), (.ref b414)])) _
      exact h)
  obtain ⟨T420, h420, k420, X420, e420, E420, A420, st420⟩ := newP X414 hx hZ (hw _ (List.mem_of_getElem? (i := 7) rfl)) e414 (g := (mkF m 105 #[.val (.int p1), .val (.int p2), .val (.int p3), .val (.int p4), .val (.int p5), .val (.int p6), .val (.int c405), .val (.int c408), .val (.int c411), .val (.int (3 : Int32)), .unset, .unset, .unset, .unset, .unset, .unset, .unset, .unset] [(.int (3 : Int32)), (.ref b414), (.ref b414)])) rfl (hb hby at_105) rfl (by decide) (cap := 3) (by decide) (by decide) (by decide) (by decide)
  obtain ⟨b420, g420⟩ : ∃ z, z = h414.size := ⟨_, rfl⟩
  rw [← g420] at A420 st420
  have k422 : Rch p e below S0 T420 (mkF m 107 #[.val (.int p1), .val (.int p2), .val (.int p3), .val (.int p4), .val (.int p5), .val (.int p6), .val (.int c405), .val (.int c408), .val (.int c411), .val (.int (3 : Int32)), .unset, .unset, .unset, .unset, .unset, .unset, .unset, .unset] [(.ref b420), (.ref b414), (.ref b414)]) := fun t h => k421 t (st420 t h)
  have ne_b414_b420 : b414 ≠ b420 := own_ne E_b414.lt (Nat.le_of_eq g420.symm)
  have ge_b420 : n0 ≤ b420 := own_ge O418 (Nat.le_of_eq g420.symm)
  have sf_b420 : Safe Z consts_1 s.vm h414 b420 := Safe.new (Nat.le_of_eq g420.symm)
  replace sf_b414 := Safe.ext E420 hC417 sf_b414
  replace sf_b420 := Safe.ext E420 hC417 sf_b420
  have hC423 := hC417.ext E420
  have rC423 := rC417.trans (CHr.ext E420 hC417)
  have O424 := O418.ext E420
  replace E_b414 := E_b414.ext E420
  replace F_b414_value := F_b414_value.ext E420
  replace F_b414_coder := F_b414_coder.ext E420
  have hkk425 := Nat.le_trans hkk419 E420.1
  have V_b420 : Arv Z h420 b420 k420 .char (3 : Int32) [(.int (0 : Int32)), (.int (0 : Int32)), (.int (0 : Int32))] (.int (0 : Int32)) := (Arv.new A420 (by decide)).pad (pad_rep [] (.int (0 : Int32)) 3)
  have k427 : Rch p e below S0 T420 (mkF m 111 #[.val (.int p1), .val (.int p2), .val (.int p3), .val (.int p4), .val (.int p5), .val (.int p6), .val (.int c405), .val (.int c408), .val (.int c411), .val (.int (3 : Int32)), .unset, .unset, .unset, .unset, .unset, .unset, .unset, .unset] [(.int c405), (.int (0 : Int32)), (.ref b420), (.ref b420), (.ref b414), (.ref b414)]) := fun t h => k422 t (by
      show Steps p.tables e below (T420.setTop (mkF m 107 #[.val (.int p1), .val (.int p2), .val (.int p3), .val (.int p4), .val (.int p5), .val (.int p6), .val (.int c405), .val (.int c408), .val (.int c411), .val (.int (3 : Int32)), .unset, .unset, .unset, .unset, .unset, .unset, .unset, .unset] [(.ref b420), (.ref b414), (.ref b414)])) _
      refine XS.dup X420.here hx rfl (hb hby at_107) rfl rfl ?_
      show Steps p.tables e below (T420.setTop (mkF m 108 #[.val (.int p1), .val (.int p2), .val (.int p3), .val (.int p4), .val (.int p5), .val (.int p6), .val (.int c405), .val (.int c408), .val (.int c411), .val (.int (3 : Int32)), .unset, .unset, .unset, .unset, .unset, .unset, .unset, .unset] [(.ref b420), (.ref b420), (.ref b414), (.ref b414)])) _
      refine XS.iconst X420.here hx rfl (hb hby at_108) ?_
      show Steps p.tables e below (T420.setTop (mkF m 109 #[.val (.int p1), .val (.int p2), .val (.int p3), .val (.int p4), .val (.int p5), .val (.int p6), .val (.int c405), .val (.int c408), .val (.int c411), .val (.int (3 : Int32)), .unset, .unset, .unset, .unset, .unset, .unset, .unset, .unset] [(.int (0 : Int32)), (.ref b420), (.ref b420), (.ref b414), (.ref b414)])) _
      refine XS.iload X420.here hx rfl (hb hby at_109) rfl ?_
      show Steps p.tables e below (T420.setTop (mkF m 111 #[.val (.int p1), .val (.int p2), .val (.int p3), .val (.int p4), .val (.int p5), .val (.int p6), .val (.int c405), .val (.int c408), .val (.int c411), .val (.int (3 : Int32)), .unset, .unset, .unset, .unset, .unset, .unset, .unset, .unset] [(.int c405), (.int (0 : Int32)), (.ref b420), (.ref b420), (.ref b414), (.ref b414)])) _
      exact h)
  obtain ⟨cl426, Ar426, q426, Sz426, Ng426, Hs426, G426⟩ := id V_b420
  have hin426 : ¬ ((0 : Int32) < 0 ∨ cl426.slots.size ≤ ((0 : Int32)).toNatClampNeg) := inb_of Sz426 ⟨by decide, by decide⟩
  obtain ⟨T426, h426, X426, e426, W426, st426⟩ := stC X420 hx hZ e420 Ar426 (j := (0 : Int32)) hin426 (g := (mkF m 111 #[.val (.int p1), .val (.int p2), .val (.int p3), .val (.int p4), .val (.int p5), .val (.int p6), .val (.int c405), .val (.int c408), .val (.int c411), .val (.int (3 : Int32)), .unset, .unset, .unset, .unset, .unset, .unset, .unset, .unset] [(.int c405), (.int (0 : Int32)), (.ref b420), (.ref b420), (.ref b414), (.ref b414)])) rfl rfl (hb hby at_111)
  have k428 : Rch p e below S0 T426 (mkF m 112 #[.val (.int p1), .val (.int p2), .val (.int p3), .val (.int p4), .val (.int p5), .val (.int p6), .val (.int c405), .val (.int c408), .val (.int c411), .val (.int (3 : Int32)), .unset, .unset, .unset, .unset, .unset, .unset, .unset, .unset] [(.ref b420), (.ref b414), (.ref b414)]) := fun t h => k427 t (st426 t h)
  have N426 := Fr.snoc X426 N411 ge_b420
  have V_b420' := Arv.set Ar426 q426 Sz426 Ng426 Hs426 G426 (fits_nar_char _) W426 0 rfl (Nat.le_of_ble_eq_true rfl)
  replace V_b420 : Arv Z h426 b420 k420 .char (3 : Int32) [(.int c405), (.int (0 : Int32)), (.int (0 : Int32))] (.int (0 : Int32)) := (by have q := V_b420'; rw [(own_nar c405 hc405).1] at q; exact q)
  have hC429 := hC423.wr W426 sf_b420
  have rC429 := rC423.trans (CHr.wr W426 sf_b420 hC423)
  replace sf_b414 := Safe.wr W426 sf_b420 hC423 sf_b414
  replace sf_b420 := Safe.wr W426 sf_b420 hC423 sf_b420
  have O430 := O424.wr W426 ge_b420
  replace E_b414 := E_b414.wr W426
  replace F_b414_value := F_b414_value.other W426 (Or.inl ne_b414_b420)
  replace F_b414_coder := F_b414_coder.other W426 (Or.inl ne_b414_b420)
  have hkk431 := Nat.le_trans hkk425 (Keep.of_wr W426).1
  have k433 : Rch p e below S0 T426 (mkF m 116 #[.val (.int p1), .val (.int p2), .val (.int p3), .val (.int p4), .val (.int p5), .val (.int p6), .val (.int c405), .val (.int c408), .val (.int c411), .val (.int (3 : Int32)), .unset, .unset, .unset, .unset, .unset, .unset, .unset, .unset] [(.int c408), (.int (1 : Int32)), (.ref b420), (.ref b420), (.ref b414), (.ref b414)]) := fun t h => k428 t (by
      show Steps p.tables e below (T426.setTop (mkF m 112 #[.val (.int p1), .val (.int p2), .val (.int p3), .val (.int p4), .val (.int p5), .val (.int p6), .val (.int c405), .val (.int c408), .val (.int c411), .val (.int (3 : Int32)), .unset, .unset, .unset, .unset, .unset, .unset, .unset, .unset] [(.ref b420), (.ref b414), (.ref b414)])) _
      refine XS.dup X426.here hx rfl (hb hby at_112) rfl rfl ?_
      show Steps p.tables e below (T426.setTop (mkF m 113 #[.val (.int p1), .val (.int p2), .val (.int p3), .val (.int p4), .val (.int p5), .val (.int p6), .val (.int c405), .val (.int c408), .val (.int c411), .val (.int (3 : Int32)), .unset, .unset, .unset, .unset, .unset, .unset, .unset, .unset] [(.ref b420), (.ref b420), (.ref b414), (.ref b414)])) _
      refine XS.iconst X426.here hx rfl (hb hby at_113) ?_
      show Steps p.tables e below (T426.setTop (mkF m 114 #[.val (.int p1), .val (.int p2), .val (.int p3), .val (.int p4), .val (.int p5), .val (.int p6), .val (.int c405), .val (.int c408), .val (.int c411), .val (.int (3 : Int32)), .unset, .unset, .unset, .unset, .unset, .unset, .unset, .unset] [(.int (1 : Int32)), (.ref b420), (.ref b420), (.ref b414), (.ref b414)])) _
      refine XS.iload X426.here hx rfl (hb hby at_114) rfl ?_
      show Steps p.tables e below (T426.setTop (mkF m 116 #[.val (.int p1), .val (.int p2), .val (.int p3), .val (.int p4), .val (.int p5), .val (.int p6), .val (.int c405), .val (.int c408), .val (.int c411), .val (.int (3 : Int32)), .unset, .unset, .unset, .unset, .unset, .unset, .unset, .unset] [(.int c408), (.int (1 : Int32)), (.ref b420), (.ref b420), (.ref b414), (.ref b414)])) _
      exact h)
  obtain ⟨cl432, Ar432, q432, Sz432, Ng432, Hs432, G432⟩ := id V_b420
  have hin432 : ¬ ((1 : Int32) < 0 ∨ cl432.slots.size ≤ ((1 : Int32)).toNatClampNeg) := inb_of Sz432 ⟨by decide, by decide⟩
  obtain ⟨T432, h432, X432, e432, W432, st432⟩ := stC X426 hx hZ e426 Ar432 (j := (1 : Int32)) hin432 (g := (mkF m 116 #[.val (.int p1), .val (.int p2), .val (.int p3), .val (.int p4), .val (.int p5), .val (.int p6), .val (.int c405), .val (.int c408), .val (.int c411), .val (.int (3 : Int32)), .unset, .unset, .unset, .unset, .unset, .unset, .unset, .unset] [(.int c408), (.int (1 : Int32)), (.ref b420), (.ref b420), (.ref b414), (.ref b414)])) rfl rfl (hb hby at_116)
  have k434 : Rch p e below S0 T432 (mkF m 117 #[.val (.int p1), .val (.int p2), .val (.int p3), .val (.int p4), .val (.int p5), .val (.int p6), .val (.int c405), .val (.int c408), .val (.int c411), .val (.int (3 : Int32)), .unset, .unset, .unset, .unset, .unset, .unset, .unset, .unset] [(.ref b420), (.ref b414), (.ref b414)]) := fun t h => k433 t (st432 t h)
  have N432 := Fr.snoc X432 N426 ge_b420
  have V_b420' := Arv.set Ar432 q432 Sz432 Ng432 Hs432 G432 (fits_nar_char _) W432 1 rfl (Nat.le_of_ble_eq_true rfl)
  replace V_b420 : Arv Z h432 b420 k420 .char (3 : Int32) [(.int c405), (.int c408), (.int (0 : Int32))] (.int (0 : Int32)) := (by have q := V_b420'; rw [(own_nar c408 hc408).1] at q; exact q)
  have hC435 := hC429.wr W432 sf_b420
  have rC435 := rC429.trans (CHr.wr W432 sf_b420 hC429)
  replace sf_b414 := Safe.wr W432 sf_b420 hC429 sf_b414
  replace sf_b420 := Safe.wr W432 sf_b420 hC429 sf_b420
  have O436 := O430.wr W432 ge_b420
  replace E_b414 := E_b414.wr W432
  replace F_b414_value := F_b414_value.other W432 (Or.inl ne_b414_b420)
  replace F_b414_coder := F_b414_coder.other W432 (Or.inl ne_b414_b420)
  have hkk437 := Nat.le_trans hkk431 (Keep.of_wr W432).1
  have k439 : Rch p e below S0 T432 (mkF m 121 #[.val (.int p1), .val (.int p2), .val (.int p3), .val (.int p4), .val (.int p5), .val (.int p6), .val (.int c405), .val (.int c408), .val (.int c411), .val (.int (3 : Int32)), .unset, .unset, .unset, .unset, .unset, .unset, .unset, .unset] [(.int c411), (.int (2 : Int32)), (.ref b420), (.ref b420), (.ref b414), (.ref b414)]) := fun t h => k434 t (by
      show Steps p.tables e below (T432.setTop (mkF m 117 #[.val (.int p1), .val (.int p2), .val (.int p3), .val (.int p4), .val (.int p5), .val (.int p6), .val (.int c405), .val (.int c408), .val (.int c411), .val (.int (3 : Int32)), .unset, .unset, .unset, .unset, .unset, .unset, .unset, .unset] [(.ref b420), (.ref b414), (.ref b414)])) _
      refine XS.dup X432.here hx rfl (hb hby at_117) rfl rfl ?_
      show Steps p.tables e below (T432.setTop (mkF m 118 #[.val (.int p1), .val (.int p2), .val (.int p3), .val (.int p4), .val (.int p5), .val (.int p6), .val (.int c405), .val (.int c408), .val (.int c411), .val (.int (3 : Int32)), .unset, .unset, .unset, .unset, .unset, .unset, .unset, .unset] [(.ref b420), (.ref b420), (.ref b414), (.ref b414)])) _
      refine XS.iconst X432.here hx rfl (hb hby at_118) ?_
      show Steps p.tables e below (T432.setTop (mkF m 119 #[.val (.int p1), .val (.int p2), .val (.int p3), .val (.int p4), .val (.int p5), .val (.int p6), .val (.int c405), .val (.int c408), .val (.int c411), .val (.int (3 : Int32)), .unset, .unset, .unset, .unset, .unset, .unset, .unset, .unset] [(.int (2 : Int32)), (.ref b420), (.ref b420), (.ref b414), (.ref b414)])) _
      refine XS.iload X432.here hx rfl (hb hby at_119) rfl ?_
      show Steps p.tables e below (T432.setTop (mkF m 121 #[.val (.int p1), .val (.int p2), .val (.int p3), .val (.int p4), .val (.int p5), .val (.int p6), .val (.int c405), .val (.int c408), .val (.int c411), .val (.int (3 : Int32)), .unset, .unset, .unset, .unset, .unset, .unset, .unset, .unset] [(.int c411), (.int (2 : Int32)), (.ref b420), (.ref b420), (.ref b414), (.ref b414)])) _
      exact h)
  obtain ⟨cl438, Ar438, q438, Sz438, Ng438, Hs438, G438⟩ := id V_b420
  have hin438 : ¬ ((2 : Int32) < 0 ∨ cl438.slots.size ≤ ((2 : Int32)).toNatClampNeg) := inb_of Sz438 ⟨by decide, by decide⟩
  obtain ⟨T438, h438, X438, e438, W438, st438⟩ := stC X432 hx hZ e432 Ar438 (j := (2 : Int32)) hin438 (g := (mkF m 121 #[.val (.int p1), .val (.int p2), .val (.int p3), .val (.int p4), .val (.int p5), .val (.int p6), .val (.int c405), .val (.int c408), .val (.int c411), .val (.int (3 : Int32)), .unset, .unset, .unset, .unset, .unset, .unset, .unset, .unset] [(.int c411), (.int (2 : Int32)), (.ref b420), (.ref b420), (.ref b414), (.ref b414)])) rfl rfl (hb hby at_121)
  have k440 : Rch p e below S0 T438 (mkF m 122 #[.val (.int p1), .val (.int p2), .val (.int p3), .val (.int p4), .val (.int p5), .val (.int p6), .val (.int c405), .val (.int c408), .val (.int c411), .val (.int (3 : Int32)), .unset, .unset, .unset, .unset, .unset, .unset, .unset, .unset] [(.ref b420), (.ref b414), (.ref b414)]) := fun t h => k439 t (st438 t h)
  have N438 := Fr.snoc X438 N432 ge_b420
  have V_b420' := Arv.set Ar438 q438 Sz438 Ng438 Hs438 G438 (fits_nar_char _) W438 2 rfl (Nat.le_of_ble_eq_true rfl)
  replace V_b420 : Arv Z h438 b420 k420 .char (3 : Int32) [(.int c405), (.int c408), (.int c411)] (.int (0 : Int32)) := (by have q := V_b420'; rw [(own_nar c411 hc411).1] at q; exact q)
  have hC441 := hC435.wr W438 sf_b420
  have rC441 := rC435.trans (CHr.wr W438 sf_b420 hC435)
  replace sf_b414 := Safe.wr W438 sf_b420 hC435 sf_b414
  replace sf_b420 := Safe.wr W438 sf_b420 hC435 sf_b420
  have O442 := O436.wr W438 ge_b420
  replace E_b414 := E_b414.wr W438
  replace F_b414_value := F_b414_value.other W438 (Or.inl ne_b414_b420)
  replace F_b414_coder := F_b414_coder.other W438 (Or.inl ne_b414_b420)
  have hkk443 := Nat.le_trans hkk437 (Keep.of_wr W438).1
  have hws : ∀ d ∈ StrChars.Road.words, d.before a0 Z = true := fun d hd => hw d ((by decide +kernel : ∀ d ∈ StrChars.Road.words, d ∈ tables_1) d hd)
  have hp : ∀ c ∈ ([c405, c408, c411] : List Int32), ¬ c < 0 ∧ ¬ (255 : Int32) < c := by
    intro c hc
    simp only [List.mem_cons, List.not_mem_nil, or_false] at hc
    rcases hc with rfl | rfl | rfl
    · exact hc405
    · exact hc408
    · exact hc411
  obtain ⟨_, _, ⟨T444, L444, kk444, n444⟩, -, X444, ⟨Lc444, hQ444, l444, y444, z444⟩, st444⟩ := X438.specialBack hx (y := (⟨"java/lang/String", "<init>", "([C)V"⟩ : MethodName)) rfl hown (mvT hZ (hw _ (List.mem_of_getElem? (i := 8) rfl))) (mvT hZ (hw _ (List.mem_of_getElem? (i := 9) rfl))) (mvT hZ (hw _ (List.mem_of_getElem? (i := 10) rfl))) (by decide) (StrChars.Road.backV (W := 1) hZ hws (kI := 4) (hw _ (List.mem_of_getElem? (i := 5) rfl)) (cs := [c405, c408, c411]) (bs := [c405, c408, c411].map (fun c => c.toInt8.toInt32)) (n := 3) ge_b414 (own_le O442) E_b414 F_b414_value F_b414_coder V_b420 (SC.ext O442.2) hzC rfl rfl (by decide) (by decide) hp rfl (by decide) (by decide)) (g := (mkF m 122 #[.val (.int p1), .val (.int p2), .val (.int p3), .val (.int p4), .val (.int p5), .val (.int p6), .val (.int c405), .val (.int c408), .val (.int c411), .val (.int (3 : Int32)), .unset, .unset, .unset, .unset, .unset, .unset, .unset, .unset] [(.ref b420), (.ref b414), (.ref b414)])) rfl (by rw [hml]; rfl) (Steps.refl _) (a := b414) (argsL := [(.ref b420)]) (rest := [(.ref b414)]) (lenOf pd_1 rfl) rfl (by show 2 * 0 + _ ≤ _; exact Nat.le_of_eq rfl) (hb hby at_122) (fun _ _ => ⟨rfl, e438, (by decide : 2 + 1 ≤ _), (by decide : 7 + 3 ≤ _)⟩)
  dsimp only [Pt.U, Pt.locs, Pt.cells, Pt.slots] at X444 l444 y444 z444 st444 hQ444
  subst l444 y444 z444
  obtain ⟨rfl, Nq444, K444, Eb444, Cb444, t444, kb444, u444, v444, ww444, Vb444, Ab444⟩ := hQ444
  have N444 := Fr.app N438 Nq444
  have k445 : Rch p e below S0 T444 (mkF m 125 #[.val (.int p1), .val (.int p2), .val (.int p3), .val (.int p4), .val (.int p5), .val (.int p6), .val (.int c405), .val (.int c408), .val (.int c411), .val (.int (3 : Int32)), .unset, .unset, .unset, .unset, .unset, .unset, .unset, .unset] [(.ref b414)]) := fun t h => k440 t (st444.trans h)
  have hC446 := hC441.keep K444 (sfS sf_b414 sf0)
  have rC446 := rC441.trans (CHr.keep K444 (sfS sf_b414 sf0) hC441)
  have sfx447 := (sfS sf_b414 sf0)
  replace sf_b414 := Safe.keep K444 sfx447 hC441 sf_b414
  replace sf_b420 := Safe.keep K444 sfx447 hC441 sf_b420
  have O448 := O442.keep K444 (allS ge_b414 all0)
  replace E_b414 := E_b414.keep K444
  replace V_b420 := V_b420.keep K444 (ninS (Ne.symm ne_b414_b420) nin0)
  have hkk449 := Nat.le_trans hkk443 K444.1
  have k450 : Rch p e below S0 T444 (mkF m 127 #[.val (.int p1), .val (.int p2), .val (.int p3), .val (.int p4), .val (.int p5), .val (.int p6), .val (.int c405), .val (.int c408), .val (.int c411), .val (.int (3 : Int32)), .val (.ref b414), .unset, .unset, .unset, .unset, .unset, .unset, .unset] []) := fun t h => k445 t (by
      show Steps p.tables e below (T444.setTop (mkF m 125 #[.val (.int p1), .val (.int p2), .val (.int p3), .val (.int p4), .val (.int p5), .val (.int p6), .val (.int c405), .val (.int c408), .val (.int c411), .val (.int (3 : Int32)), .unset, .unset, .unset, .unset, .unset, .unset, .unset, .unset] [(.ref b414)])) _
      refine XS.astore X444.here hx rfl (hb hby at_125) rfl rfl (l' := #[.val (.int p1), .val (.int p2), .val (.int p3), .val (.int p4), .val (.int p5), .val (.int p6), .val (.int c405), .val (.int c408), .val (.int c411), .val (.int (3 : Int32)), .val (.ref b414), .unset, .unset, .unset, .unset, .unset, .unset, .unset]) rfl ?_
      show Steps p.tables e below (T444.setTop (mkF m 127 #[.val (.int p1), .val (.int p2), .val (.int p3), .val (.int p4), .val (.int p5), .val (.int p6), .val (.int c405), .val (.int c408), .val (.int c411), .val (.int (3 : Int32)), .val (.ref b414), .unset, .unset, .unset, .unset, .unset, .unset, .unset] [])) _
      exact h)
  obtain ⟨T463, kk, wK, X463, e463, k463⟩ : ∃ (T' : State) (kk : Int32) (wK : Addr), Like X444 T' ∧ T'.heap = T444.heap ∧ Rch p e below S0 T' (mkF m 168 #[.val (.int p1), .val (.int p2), .val (.int p3), .val (.int p4), .val (.int p5), .val (.int p6), .val (.int c405), .val (.int c408), .val (.int c411), .val (.int (3 : Int32)), .val (.ref b414), .val (.int kk), .val (.ref wK), .unset, .unset, .unset, .unset, .unset] []) := by
    rcases own_sel p5 with hk1 | hk1 | hk1
    · have k452 : Rch p e below S0 T444 (mkF m 141 #[.val (.int p1), .val (.int p2), .val (.int p3), .val (.int p4), .val (.int p5), .val (.int p6), .val (.int c405), .val (.int c408), .val (.int c411), .val (.int (3 : Int32)), .val (.ref b414), .val (.int (0 : Int32)), .unset, .unset, .unset, .unset, .unset, .unset] []) := fun t h => k450 t (by
          show Steps p.tables e below (T444.setTop (mkF m 127 #[.val (.int p1), .val (.int p2), .val (.int p3), .val (.int p4), .val (.int p5), .val (.int p6), .val (.int c405), .val (.int c408), .val (.int c411), .val (.int (3 : Int32)), .val (.ref b414), .unset, .unset, .unset, .unset, .unset, .unset, .unset] [])) _
          refine XS.iload X444.here hx rfl (hb hby at_127) rfl ?_
          show Steps p.tables e below (T444.setTop (mkF m 129 #[.val (.int p1), .val (.int p2), .val (.int p3), .val (.int p4), .val (.int p5), .val (.int p6), .val (.int c405), .val (.int c408), .val (.int c411), .val (.int (3 : Int32)), .val (.ref b414), .unset, .unset, .unset, .unset, .unset, .unset, .unset] [(.int p5)])) _
          refine X444.ldcInt hx hown (mvT hZ (hw _ (List.mem_of_getElem? (i := 26) rfl))) (g := (mkF m 129 #[.val (.int p1), .val (.int p2), .val (.int p3), .val (.int p4), .val (.int p5), .val (.int p6), .val (.int c405), .val (.int c408), .val (.int c411), .val (.int (3 : Int32)), .val (.ref b414), .unset, .unset, .unset, .unset, .unset, .unset, .unset] [(.int p5)])) rfl (hb hby at_129) _ ?_
          show Steps p.tables e below (T444.setTop (mkF m 131 #[.val (.int p1), .val (.int p2), .val (.int p3), .val (.int p4), .val (.int p5), .val (.int p6), .val (.int c405), .val (.int c408), .val (.int c411), .val (.int (3 : Int32)), .val (.ref b414), .unset, .unset, .unset, .unset, .unset, .unset, .unset] [(.int (2147483647 : Int32)), (.int p5)])) _
          refine XS.iand X444.here hx rfl (hb hby at_131) rfl ?_
          show Steps p.tables e below (T444.setTop (mkF m 132 #[.val (.int p1), .val (.int p2), .val (.int p3), .val (.int p4), .val (.int p5), .val (.int p6), .val (.int c405), .val (.int c408), .val (.int c411), .val (.int (3 : Int32)), .val (.ref b414), .unset, .unset, .unset, .unset, .unset, .unset, .unset] [(.int (p5 &&& (2147483647 : Int32)))])) _
          refine XS.iconst X444.here hx rfl (hb hby at_132) ?_
          show Steps p.tables e below (T444.setTop (mkF m 133 #[.val (.int p1), .val (.int p2), .val (.int p3), .val (.int p4), .val (.int p5), .val (.int p6), .val (.int c405), .val (.int c408), .val (.int c411), .val (.int (3 : Int32)), .val (.ref b414), .unset, .unset, .unset, .unset, .unset, .unset, .unset] [(.int (3 : Int32)), (.int (p5 &&& (2147483647 : Int32)))])) _
          refine iremM X444 hx rfl (hb hby at_133) rfl (by decide) ?_
          rw [hk1]
          show Steps p.tables e below (T444.setTop (mkF m 134 #[.val (.int p1), .val (.int p2), .val (.int p3), .val (.int p4), .val (.int p5), .val (.int p6), .val (.int c405), .val (.int c408), .val (.int c411), .val (.int (3 : Int32)), .val (.ref b414), .unset, .unset, .unset, .unset, .unset, .unset, .unset] [(.int (0 : Int32))])) _
          refine XS.istore X444.here hx rfl (hb hby at_134) rfl (l' := #[.val (.int p1), .val (.int p2), .val (.int p3), .val (.int p4), .val (.int p5), .val (.int p6), .val (.int c405), .val (.int c408), .val (.int c411), .val (.int (3 : Int32)), .val (.ref b414), .val (.int (0 : Int32)), .unset, .unset, .unset, .unset, .unset, .unset]) rfl ?_
          show Steps p.tables e below (T444.setTop (mkF m 136 #[.val (.int p1), .val (.int p2), .val (.int p3), .val (.int p4), .val (.int p5), .val (.int p6), .val (.int c405), .val (.int c408), .val (.int c411), .val (.int (3 : Int32)), .val (.ref b414), .val (.int (0 : Int32)), .unset, .unset, .unset, .unset, .unset, .unset] [])) _
          refine XS.iload X444.here hx rfl (hb hby at_136) rfl ?_
          show Steps p.tables e below (T444.setTop (mkF m 138 #[.val (.int p1), .val (.int p2), .val (.int p3), .val (.int p4), .val (.int p5), .val (.int p6), .val (.int c405), .val (.int c408), .val (.int c411), .val (.int (3 : Int32)), .val (.ref b414), .val (.int (0 : Int32)), .unset, .unset, .unset, .unset, .unset, .unset] [(.int (0 : Int32))])) _
          refine XS.ifNo X444.here hx rfl (hb hby at_138) rfl ((if0 _ _).trans (teq (by decide : (0 : Int32) = (0 : Int32))).2) ?_
          show Steps p.tables e below (T444.setTop (mkF m 141 #[.val (.int p1), .val (.int p2), .val (.int p3), .val (.int p4), .val (.int p5), .val (.int p6), .val (.int c405), .val (.int c408), .val (.int c411), .val (.int (3 : Int32)), .val (.ref b414), .val (.int (0 : Int32)), .unset, .unset, .unset, .unset, .unset, .unset] [])) _
          exact h)
      obtain ⟨T451, X451, e451, st451⟩ := getS2 X444 hx hZ hown (host := "") (Or.inl (hw _ (List.mem_of_getElem? (i := 27) rfl))) Via.refl rfl (SM.ext O448.2) (g := (mkF m 141 #[.val (.int p1), .val (.int p2), .val (.int p3), .val (.int p4), .val (.int p5), .val (.int p6), .val (.int c405), .val (.int c408), .val (.int c411), .val (.int (3 : Int32)), .val (.ref b414), .val (.int (0 : Int32)), .unset, .unset, .unset, .unset, .unset, .unset] [])) rfl (hb hby at_141)
      have k453 : Rch p e below S0 T451 (mkF m 144 #[.val (.int p1), .val (.int p2), .val (.int p3), .val (.int p4), .val (.int p5), .val (.int p6), .val (.int c405), .val (.int c408), .val (.int c411), .val (.int (3 : Int32)), .val (.ref b414), .val (.int (0 : Int32)), .unset, .unset, .unset, .unset, .unset, .unset] [(.ref wM)]) := fun t h => k452 t (st451 t h)
      have k454 : Rch p e below S0 T451 (mkF m 168 #[.val (.int p1), .val (.int p2), .val (.int p3), .val (.int p4), .val (.int p5), .val (.int p6), .val (.int c405), .val (.int c408), .val (.int c411), .val (.int (3 : Int32)), .val (.ref b414), .val (.int (0 : Int32)), .val (.ref wM), .unset, .unset, .unset, .unset, .unset] []) := fun t h => k453 t (by
          show Steps p.tables e below (T451.setTop (mkF m 144 #[.val (.int p1), .val (.int p2), .val (.int p3), .val (.int p4), .val (.int p5), .val (.int p6), .val (.int c405), .val (.int c408), .val (.int c411), .val (.int (3 : Int32)), .val (.ref b414), .val (.int (0 : Int32)), .unset, .unset, .unset, .unset, .unset, .unset] [(.ref wM)])) _
          refine XS.astore X451.here hx rfl (hb hby at_144) rfl rfl (l' := #[.val (.int p1), .val (.int p2), .val (.int p3), .val (.int p4), .val (.int p5), .val (.int p6), .val (.int c405), .val (.int c408), .val (.int c411), .val (.int (3 : Int32)), .val (.ref b414), .val (.int (0 : Int32)), .val (.ref wM), .unset, .unset, .unset, .unset, .unset]) rfl ?_
          show Steps p.tables e below (T451.setTop (mkF m 146 #[.val (.int p1), .val (.int p2), .val (.int p3), .val (.int p4), .val (.int p5), .val (.int p6), .val (.int c405), .val (.int c408), .val (.int c411), .val (.int (3 : Int32)), .val (.ref b414), .val (.int (0 : Int32)), .val (.ref wM), .unset, .unset, .unset, .unset, .unset] [])) _
          refine XS.goto X451.here hx rfl (pc0 := 146) (pc' := 168) rfl (hb hby at_146) (by decide) (by decide) ?_
          show Steps p.tables e below (T451.setTop (mkF m 168 #[.val (.int p1), .val (.int p2), .val (.int p3), .val (.int p4), .val (.int p5), .val (.int p6), .val (.int c405), .val (.int c408), .val (.int c411), .val (.int (3 : Int32)), .val (.ref b414), .val (.int (0 : Int32)), .val (.ref wM), .unset, .unset, .unset, .unset, .unset] [])) _
          exact h)
      exact ⟨_, (0 : Int32), wM, X451, e451, k454⟩
    · have k456 : Rch p e below S0 T444 (mkF m 155 #[.val (.int p1), .val (.int p2), .val (.int p3), .val (.int p4), .val (.int p5), .val (.int p6), .val (.int c405), .val (.int c408), .val (.int c411), .val (.int (3 : Int32)), .val (.ref b414), .val (.int (1 : Int32)), .unset, .unset, .unset, .unset, .unset, .unset] []) := fun t h => k450 t (by
          show Steps p.tables e below (T444.setTop (mkF m 127 #[.val (.int p1), .val (.int p2), .val (.int p3), .val (.int p4), .val (.int p5), .val (.int p6), .val (.int c405), .val (.int c408), .val (.int c411), .val (.int (3 : Int32)), .val (.ref b414), .unset, .unset, .unset, .unset, .unset, .unset, .unset] [])) _
          refine XS.iload X444.here hx rfl (hb hby at_127) rfl ?_
          show Steps p.tables e below (T444.setTop (mkF m 129 #[.val (.int p1), .val (.int p2), .val (.int p3), .val (.int p4), .val (.int p5), .val (.int p6), .val (.int c405), .val (.int c408), .val (.int c411), .val (.int (3 : Int32)), .val (.ref b414), .unset, .unset, .unset, .unset, .unset, .unset, .unset] [(.int p5)])) _
          refine X444.ldcInt hx hown (mvT hZ (hw _ (List.mem_of_getElem? (i := 26) rfl))) (g := (mkF m 129 #[.val (.int p1), .val (.int p2), .val (.int p3), .val (.int p4), .val (.int p5), .val (.int p6), .val (.int c405), .val (.int c408), .val (.int c411), .val (.int (3 : Int32)), .val (.ref b414), .unset, .unset, .unset, .unset, .unset, .unset, .unset] [(.int p5)])) rfl (hb hby at_129) _ ?_
          show Steps p.tables e below (T444.setTop (mkF m 131 #[.val (.int p1), .val (.int p2), .val (.int p3), .val (.int p4), .val (.int p5), .val (.int p6), .val (.int c405), .val (.int c408), .val (.int c411), .val (.int (3 : Int32)), .val (.ref b414), .unset, .unset, .unset, .unset, .unset, .unset, .unset] [(.int (2147483647 : Int32)), (.int p5)])) _
          refine XS.iand X444.here hx rfl (hb hby at_131) rfl ?_
          show Steps p.tables e below (T444.setTop (mkF m 132 #[.val (.int p1), .val (.int p2), .val (.int p3), .val (.int p4), .val (.int p5), .val (.int p6), .val (.int c405), .val (.int c408), .val (.int c411), .val (.int (3 : Int32)), .val (.ref b414), .unset, .unset, .unset, .unset, .unset, .unset, .unset] [(.int (p5 &&& (2147483647 : Int32)))])) _
          refine XS.iconst X444.here hx rfl (hb hby at_132) ?_
          show Steps p.tables e below (T444.setTop (mkF m 133 #[.val (.int p1), .val (.int p2), .val (.int p3), .val (.int p4), .val (.int p5), .val (.int p6), .val (.int c405), .val (.int c408), .val (.int c411), .val (.int (3 : Int32)), .val (.ref b414), .unset, .unset, .unset, .unset, .unset, .unset, .unset] [(.int (3 : Int32)), (.int (p5 &&& (2147483647 : Int32)))])) _
          refine iremM X444 hx rfl (hb hby at_133) rfl (by decide) ?_
          rw [hk1]
          show Steps p.tables e below (T444.setTop (mkF m 134 #[.val (.int p1), .val (.int p2), .val (.int p3), .val (.int p4), .val (.int p5), .val (.int p6), .val (.int c405), .val (.int c408), .val (.int c411), .val (.int (3 : Int32)), .val (.ref b414), .unset, .unset, .unset, .unset, .unset, .unset, .unset] [(.int (1 : Int32))])) _
          refine XS.istore X444.here hx rfl (hb hby at_134) rfl (l' := #[.val (.int p1), .val (.int p2), .val (.int p3), .val (.int p4), .val (.int p5), .val (.int p6), .val (.int c405), .val (.int c408), .val (.int c411), .val (.int (3 : Int32)), .val (.ref b414), .val (.int (1 : Int32)), .unset, .unset, .unset, .unset, .unset, .unset]) rfl ?_
          show Steps p.tables e below (T444.setTop (mkF m 136 #[.val (.int p1), .val (.int p2), .val (.int p3), .val (.int p4), .val (.int p5), .val (.int p6), .val (.int c405), .val (.int c408), .val (.int c411), .val (.int (3 : Int32)), .val (.ref b414), .val (.int (1 : Int32)), .unset, .unset, .unset, .unset, .unset, .unset] [])) _
          refine XS.iload X444.here hx rfl (hb hby at_136) rfl ?_
          show Steps p.tables e below (T444.setTop (mkF m 138 #[.val (.int p1), .val (.int p2), .val (.int p3), .val (.int p4), .val (.int p5), .val (.int p6), .val (.int c405), .val (.int c408), .val (.int c411), .val (.int (3 : Int32)), .val (.ref b414), .val (.int (1 : Int32)), .unset, .unset, .unset, .unset, .unset, .unset] [(.int (1 : Int32))])) _
          refine XS.ifYes X444.here hx rfl (pc0 := 138) (pc' := 149) rfl (hb hby at_138) rfl ((if0 _ _).trans (feq (by decide : ¬ ((1 : Int32) = (0 : Int32)))).2) (by decide) (by decide) ?_
          show Steps p.tables e below (T444.setTop (mkF m 149 #[.val (.int p1), .val (.int p2), .val (.int p3), .val (.int p4), .val (.int p5), .val (.int p6), .val (.int c405), .val (.int c408), .val (.int c411), .val (.int (3 : Int32)), .val (.ref b414), .val (.int (1 : Int32)), .unset, .unset, .unset, .unset, .unset, .unset] [])) _
          refine XS.iload X444.here hx rfl (hb hby at_149) rfl ?_
          show Steps p.tables e below (T444.setTop (mkF m 151 #[.val (.int p1), .val (.int p2), .val (.int p3), .val (.int p4), .val (.int p5), .val (.int p6), .val (.int c405), .val (.int c408), .val (.int c411), .val (.int (3 : Int32)), .val (.ref b414), .val (.int (1 : Int32)), .unset, .unset, .unset, .unset, .unset, .unset] [(.int (1 : Int32))])) _
          refine XS.iconst X444.here hx rfl (hb hby at_151) ?_
          show Steps p.tables e below (T444.setTop (mkF m 152 #[.val (.int p1), .val (.int p2), .val (.int p3), .val (.int p4), .val (.int p5), .val (.int p6), .val (.int c405), .val (.int c408), .val (.int c411), .val (.int (3 : Int32)), .val (.ref b414), .val (.int (1 : Int32)), .unset, .unset, .unset, .unset, .unset, .unset] [(.int (1 : Int32)), (.int (1 : Int32))])) _
          refine XS.icmpNo X444.here hx rfl (hb hby at_152) rfl (teq (by decide : (1 : Int32) = (1 : Int32))).2 ?_
          show Steps p.tables e below (T444.setTop (mkF m 155 #[.val (.int p1), .val (.int p2), .val (.int p3), .val (.int p4), .val (.int p5), .val (.int p6), .val (.int c405), .val (.int c408), .val (.int c411), .val (.int (3 : Int32)), .val (.ref b414), .val (.int (1 : Int32)), .unset, .unset, .unset, .unset, .unset, .unset] [])) _
          exact h)
      obtain ⟨T455, X455, e455, st455⟩ := getS2 X444 hx hZ hown (host := "") (Or.inl (hw _ (List.mem_of_getElem? (i := 93) rfl))) Via.refl rfl (SP.ext O448.2) (g := (mkF m 155 #[.val (.int p1), .val (.int p2), .val (.int p3), .val (.int p4), .val (.int p5), .val (.int p6), .val (.int c405), .val (.int c408), .val (.int c411), .val (.int (3 : Int32)), .val (.ref b414), .val (.int (1 : Int32)), .unset, .unset, .unset, .unset, .unset, .unset] [])) rfl (hb hby at_155)
      have k457 : Rch p e below S0 T455 (mkF m 158 #[.val (.int p1), .val (.int p2), .val (.int p3), .val (.int p4), .val (.int p5), .val (.int p6), .val (.int c405), .val (.int c408), .val (.int c411), .val (.int (3 : Int32)), .val (.ref b414), .val (.int (1 : Int32)), .unset, .unset, .unset, .unset, .unset, .unset] [(.ref wP)]) := fun t h => k456 t (st455 t h)
      have k458 : Rch p e below S0 T455 (mkF m 168 #[.val (.int p1), .val (.int p2), .val (.int p3), .val (.int p4), .val (.int p5), .val (.int p6), .val (.int c405), .val (.int c408), .val (.int c411), .val (.int (3 : Int32)), .val (.ref b414), .val (.int (1 : Int32)), .val (.ref wP), .unset, .unset, .unset, .unset, .unset] []) := fun t h => k457 t (by
          show Steps p.tables e below (T455.setTop (mkF m 158 #[.val (.int p1), .val (.int p2), .val (.int p3), .val (.int p4), .val (.int p5), .val (.int p6), .val (.int c405), .val (.int c408), .val (.int c411), .val (.int (3 : Int32)), .val (.ref b414), .val (.int (1 : Int32)), .unset, .unset, .unset, .unset, .unset, .unset] [(.ref wP)])) _
          refine XS.astore X455.here hx rfl (hb hby at_158) rfl rfl (l' := #[.val (.int p1), .val (.int p2), .val (.int p3), .val (.int p4), .val (.int p5), .val (.int p6), .val (.int c405), .val (.int c408), .val (.int c411), .val (.int (3 : Int32)), .val (.ref b414), .val (.int (1 : Int32)), .val (.ref wP), .unset, .unset, .unset, .unset, .unset]) rfl ?_
          show Steps p.tables e below (T455.setTop (mkF m 160 #[.val (.int p1), .val (.int p2), .val (.int p3), .val (.int p4), .val (.int p5), .val (.int p6), .val (.int c405), .val (.int c408), .val (.int c411), .val (.int (3 : Int32)), .val (.ref b414), .val (.int (1 : Int32)), .val (.ref wP), .unset, .unset, .unset, .unset, .unset] [])) _
          refine XS.goto X455.here hx rfl (pc0 := 160) (pc' := 168) rfl (hb hby at_160) (by decide) (by decide) ?_
          show Steps p.tables e below (T455.setTop (mkF m 168 #[.val (.int p1), .val (.int p2), .val (.int p3), .val (.int p4), .val (.int p5), .val (.int p6), .val (.int c405), .val (.int c408), .val (.int c411), .val (.int (3 : Int32)), .val (.ref b414), .val (.int (1 : Int32)), .val (.ref wP), .unset, .unset, .unset, .unset, .unset] [])) _
          exact h)
      exact ⟨_, (1 : Int32), wP, X455, e455, k458⟩
    · have k460 : Rch p e below S0 T444 (mkF m 163 #[.val (.int p1), .val (.int p2), .val (.int p3), .val (.int p4), .val (.int p5), .val (.int p6), .val (.int c405), .val (.int c408), .val (.int c411), .val (.int (3 : Int32)), .val (.ref b414), .val (.int (2 : Int32)), .unset, .unset, .unset, .unset, .unset, .unset] []) := fun t h => k450 t (by
          show Steps p.tables e below (T444.setTop (mkF m 127 #[.val (.int p1), .val (.int p2), .val (.int p3), .val (.int p4), .val (.int p5), .val (.int p6), .val (.int c405), .val (.int c408), .val (.int c411), .val (.int (3 : Int32)), .val (.ref b414), .unset, .unset, .unset, .unset, .unset, .unset, .unset] [])) _
          refine XS.iload X444.here hx rfl (hb hby at_127) rfl ?_
          show Steps p.tables e below (T444.setTop (mkF m 129 #[.val (.int p1), .val (.int p2), .val (.int p3), .val (.int p4), .val (.int p5), .val (.int p6), .val (.int c405), .val (.int c408), .val (.int c411), .val (.int (3 : Int32)), .val (.ref b414), .unset, .unset, .unset, .unset, .unset, .unset, .unset] [(.int p5)])) _
          refine X444.ldcInt hx hown (mvT hZ (hw _ (List.mem_of_getElem? (i := 26) rfl))) (g := (mkF m 129 #[.val (.int p1), .val (.int p2), .val (.int p3), .val (.int p4), .val (.int p5), .val (.int p6), .val (.int c405), .val (.int c408), .val (.int c411), .val (.int (3 : Int32)), .val (.ref b414), .unset, .unset, .unset, .unset, .unset, .unset, .unset] [(.int p5)])) rfl (hb hby at_129) _ ?_
          show Steps p.tables e below (T444.setTop (mkF m 131 #[.val (.int p1), .val (.int p2), .val (.int p3), .val (.int p4), .val (.int p5), .val (.int p6), .val (.int c405), .val (.int c408), .val (.int c411), .val (.int (3 : Int32)), .val (.ref b414), .unset, .unset, .unset, .unset, .unset, .unset, .unset] [(.int (2147483647 : Int32)), (.int p5)])) _
          refine XS.iand X444.here hx rfl (hb hby at_131) rfl ?_
          show Steps p.tables e below (T444.setTop (mkF m 132 #[.val (.int p1), .val (.int p2), .val (.int p3), .val (.int p4), .val (.int p5), .val (.int p6), .val (.int c405), .val (.int c408), .val (.int c411), .val (.int (3 : Int32)), .val (.ref b414), .unset, .unset, .unset, .unset, .unset, .unset, .unset] [(.int (p5 &&& (2147483647 : Int32)))])) _
          refine XS.iconst X444.here hx rfl (hb hby at_132) ?_
          show Steps p.tables e below (T444.setTop (mkF m 133 #[.val (.int p1), .val (.int p2), .val (.int p3), .val (.int p4), .val (.int p5), .val (.int p6), .val (.int c405), .val (.int c408), .val (.int c411), .val (.int (3 : Int32)), .val (.ref b414), .unset, .unset, .unset, .unset, .unset, .unset, .unset] [(.int (3 : Int32)), (.int (p5 &&& (2147483647 : Int32)))])) _
          refine iremM X444 hx rfl (hb hby at_133) rfl (by decide) ?_
          rw [hk1]
          show Steps p.tables e below (T444.setTop (mkF m 134 #[.val (.int p1), .val (.int p2), .val (.int p3), .val (.int p4), .val (.int p5), .val (.int p6), .val (.int c405), .val (.int c408), .val (.int c411), .val (.int (3 : Int32)), .val (.ref b414), .unset, .unset, .unset, .unset, .unset, .unset, .unset] [(.int (2 : Int32))])) _
          refine XS.istore X444.here hx rfl (hb hby at_134) rfl (l' := #[.val (.int p1), .val (.int p2), .val (.int p3), .val (.int p4), .val (.int p5), .val (.int p6), .val (.int c405), .val (.int c408), .val (.int c411), .val (.int (3 : Int32)), .val (.ref b414), .val (.int (2 : Int32)), .unset, .unset, .unset, .unset, .unset, .unset]) rfl ?_
          show Steps p.tables e below (T444.setTop (mkF m 136 #[.val (.int p1), .val (.int p2), .val (.int p3), .val (.int p4), .val (.int p5), .val (.int p6), .val (.int c405), .val (.int c408), .val (.int c411), .val (.int (3 : Int32)), .val (.ref b414), .val (.int (2 : Int32)), .unset, .unset, .unset, .unset, .unset, .unset] [])) _
          refine XS.iload X444.here hx rfl (hb hby at_136) rfl ?_
          show Steps p.tables e below (T444.setTop (mkF m 138 #[.val (.int p1), .val (.int p2), .val (.int p3), .val (.int p4), .val (.int p5), .val (.int p6), .val (.int c405), .val (.int c408), .val (.int c411), .val (.int (3 : Int32)), .val (.ref b414), .val (.int (2 : Int32)), .unset, .unset, .unset, .unset, .unset, .unset] [(.int (2 : Int32))])) _
          refine XS.ifYes X444.here hx rfl (pc0 := 138) (pc' := 149) rfl (hb hby at_138) rfl ((if0 _ _).trans (feq (by decide : ¬ ((2 : Int32) = (0 : Int32)))).2) (by decide) (by decide) ?_
          show Steps p.tables e below (T444.setTop (mkF m 149 #[.val (.int p1), .val (.int p2), .val (.int p3), .val (.int p4), .val (.int p5), .val (.int p6), .val (.int c405), .val (.int c408), .val (.int c411), .val (.int (3 : Int32)), .val (.ref b414), .val (.int (2 : Int32)), .unset, .unset, .unset, .unset, .unset, .unset] [])) _
          refine XS.iload X444.here hx rfl (hb hby at_149) rfl ?_
          show Steps p.tables e below (T444.setTop (mkF m 151 #[.val (.int p1), .val (.int p2), .val (.int p3), .val (.int p4), .val (.int p5), .val (.int p6), .val (.int c405), .val (.int c408), .val (.int c411), .val (.int (3 : Int32)), .val (.ref b414), .val (.int (2 : Int32)), .unset, .unset, .unset, .unset, .unset, .unset] [(.int (2 : Int32))])) _
          refine XS.iconst X444.here hx rfl (hb hby at_151) ?_
          show Steps p.tables e below (T444.setTop (mkF m 152 #[.val (.int p1), .val (.int p2), .val (.int p3), .val (.int p4), .val (.int p5), .val (.int p6), .val (.int c405), .val (.int c408), .val (.int c411), .val (.int (3 : Int32)), .val (.ref b414), .val (.int (2 : Int32)), .unset, .unset, .unset, .unset, .unset, .unset] [(.int (1 : Int32)), (.int (2 : Int32))])) _
          refine XS.icmpYes X444.here hx rfl (pc0 := 152) (pc' := 163) rfl (hb hby at_152) rfl (feq (by decide : ¬ ((2 : Int32) = (1 : Int32)))).2 (by decide) (by decide) ?_
          show Steps p.tables e below (T444.setTop (mkF m 163 #[.val (.int p1), .val (.int p2), .val (.int p3), .val (.int p4), .val (.int p5), .val (.int p6), .val (.int c405), .val (.int c408), .val (.int c411), .val (.int (3 : Int32)), .val (.ref b414), .val (.int (2 : Int32)), .unset, .unset, .unset, .unset, .unset, .unset] [])) _
          exact h)
      obtain ⟨T459, X459, e459, st459⟩ := getS2 X444 hx hZ hown (host := "") (Or.inl (hw _ (List.mem_of_getElem? (i := 81) rfl))) Via.refl rfl (SA.ext O448.2) (g := (mkF m 163 #[.val (.int p1), .val (.int p2), .val (.int p3), .val (.int p4), .val (.int p5), .val (.int p6), .val (.int c405), .val (.int c408), .val (.int c411), .val (.int (3 : Int32)), .val (.ref b414), .val (.int (2 : Int32)), .unset, .unset, .unset, .unset, .unset, .unset] [])) rfl (hb hby at_163)
      have k461 : Rch p e below S0 T459 (mkF m 166 #[.val (.int p1), .val (.int p2), .val (.int p3), .val (.int p4), .val (.int p5), .val (.int p6), .val (.int c405), .val (.int c408), .val (.int c411), .val (.int (3 : Int32)), .val (.ref b414), .val (.int (2 : Int32)), .unset, .unset, .unset, .unset, .unset, .unset] [(.ref wA)]) := fun t h => k460 t (st459 t h)
      have k462 : Rch p e below S0 T459 (mkF m 168 #[.val (.int p1), .val (.int p2), .val (.int p3), .val (.int p4), .val (.int p5), .val (.int p6), .val (.int c405), .val (.int c408), .val (.int c411), .val (.int (3 : Int32)), .val (.ref b414), .val (.int (2 : Int32)), .val (.ref wA), .unset, .unset, .unset, .unset, .unset] []) := fun t h => k461 t (by
          show Steps p.tables e below (T459.setTop (mkF m 166 #[.val (.int p1), .val (.int p2), .val (.int p3), .val (.int p4), .val (.int p5), .val (.int p6), .val (.int c405), .val (.int c408), .val (.int c411), .val (.int (3 : Int32)), .val (.ref b414), .val (.int (2 : Int32)), .unset, .unset, .unset, .unset, .unset, .unset] [(.ref wA)])) _
          refine XS.astore X459.here hx rfl (hb hby at_166) rfl rfl (l' := #[.val (.int p1), .val (.int p2), .val (.int p3), .val (.int p4), .val (.int p5), .val (.int p6), .val (.int c405), .val (.int c408), .val (.int c411), .val (.int (3 : Int32)), .val (.ref b414), .val (.int (2 : Int32)), .val (.ref wA), .unset, .unset, .unset, .unset, .unset]) rfl ?_
          show Steps p.tables e below (T459.setTop (mkF m 168 #[.val (.int p1), .val (.int p2), .val (.int p3), .val (.int p4), .val (.int p5), .val (.int p6), .val (.int c405), .val (.int c408), .val (.int c411), .val (.int (3 : Int32)), .val (.ref b414), .val (.int (2 : Int32)), .val (.ref wA), .unset, .unset, .unset, .unset, .unset] [])) _
          exact h)
      exact ⟨_, (2 : Int32), wA, X459, e459, k462⟩
  replace X463 := X463.out
  have k464 : Rch p e below S0 T463 (mkF m 178 #[.val (.int p1), .val (.int p2), .val (.int p3), .val (.int p4), .val (.int p5), .val (.int p6), .val (.int c405), .val (.int c408), .val (.int c411), .val (.int (3 : Int32)), .val (.ref b414), .val (.int kk), .val (.ref wK), .unset, .unset, .unset, .unset, .unset] [(.int (((p6.toUInt32 >>> ((18 : Int32) &&& 31).toUInt32).toInt32) &&& (255 : Int32)))]) := fun t h => k463 t (by
      show Steps p.tables e below (T463.setTop (mkF m 168 #[.val (.int p1), .val (.int p2), .val (.int p3), .val (.int p4), .val (.int p5), .val (.int p6), .val (.int c405), .val (.int c408), .val (.int c411), .val (.int (3 : Int32)), .val (.ref b414), .val (.int kk), .val (.ref wK), .unset, .unset, .unset, .unset, .unset] [])) _
      refine XS.iload X463.here hx rfl (hb hby at_168) rfl ?_
      show Steps p.tables e below (T463.setTop (mkF m 170 #[.val (.int p1), .val (.int p2), .val (.int p3), .val (.int p4), .val (.int p5), .val (.int p6), .val (.int c405), .val (.int c408), .val (.int c411), .val (.int (3 : Int32)), .val (.ref b414), .val (.int kk), .val (.ref wK), .unset, .unset, .unset, .unset, .unset] [(.int p6)])) _
      refine XS.bipush X463.here hx rfl (hb hby at_170) ?_
      show Steps p.tables e below (T463.setTop (mkF m 172 #[.val (.int p1), .val (.int p2), .val (.int p3), .val (.int p4), .val (.int p5), .val (.int p6), .val (.int c405), .val (.int c408), .val (.int c411), .val (.int (3 : Int32)), .val (.ref b414), .val (.int kk), .val (.ref wK), .unset, .unset, .unset, .unset, .unset] [(.int (18 : Int32)), (.int p6)])) _
      refine XS.iushr X463.here hx rfl (hb hby at_172) rfl ?_
      show Steps p.tables e below (T463.setTop (mkF m 173 #[.val (.int p1), .val (.int p2), .val (.int p3), .val (.int p4), .val (.int p5), .val (.int p6), .val (.int c405), .val (.int c408), .val (.int c411), .val (.int (3 : Int32)), .val (.ref b414), .val (.int kk), .val (.ref wK), .unset, .unset, .unset, .unset, .unset] [(.int ((p6.toUInt32 >>> ((18 : Int32) &&& 31).toUInt32).toInt32))])) _
      refine XS.sipush X463.here hx rfl (hb hby at_173) ?_
      show Steps p.tables e below (T463.setTop (mkF m 176 #[.val (.int p1), .val (.int p2), .val (.int p3), .val (.int p4), .val (.int p5), .val (.int p6), .val (.int c405), .val (.int c408), .val (.int c411), .val (.int (3 : Int32)), .val (.ref b414), .val (.int kk), .val (.ref wK), .unset, .unset, .unset, .unset, .unset] [(.int (255 : Int32)), (.int ((p6.toUInt32 >>> ((18 : Int32) &&& 31).toUInt32).toInt32))])) _
      refine XS.iand X463.here hx rfl (hb hby at_176) rfl ?_
      show Steps p.tables e below (T463.setTop (mkF m 177 #[.val (.int p1), .val (.int p2), .val (.int p3), .val (.int p4), .val (.int p5), .val (.int p6), .val (.int c405), .val (.int c408), .val (.int c411), .val (.int (3 : Int32)), .val (.ref b414), .val (.int kk), .val (.ref wK), .unset, .unset, .unset, .unset, .unset] [(.int (((p6.toUInt32 >>> ((18 : Int32) &&& 31).toUInt32).toInt32) &&& (255 : Int32)))])) _
      refine XS.i2c X463.here hx rfl (hb hby at_177) rfl ?_
      rw [(own_nar (((p6.toUInt32 >>> ((18 : Int32) &&& 31).toUInt32).toInt32) &&& (255 : Int32)) (own_255 ((p6.toUInt32 >>> ((18 : Int32) &&& 31).toUInt32).toInt32))).2]
      show Steps p.tables e below (T463.setTop (mkF m 178 #[.val (.int p1), .val (.int p2), .val (.int p3), .val (.int p4), .val (.int p5), .val (.int p6), .val (.int c405), .val (.int c408), .val (.int c411), .val (.int (3 : Int32)), .val (.ref b414), .val (.int kk), .val (.ref wK), .unset, .unset, .unset, .unset, .unset] [(.int (((p6.toUInt32 >>> ((18 : Int32) &&& 31).toUInt32).toInt32) &&& (255 : Int32)))])) _
      exact h)
  obtain ⟨_, _, ⟨T465, L465, kk465, n465⟩, -, X465, ⟨Lc465, hQ465, l465, y465, z465⟩, st465⟩ := Jvm.LawKit.callS X463 hx (y := (⟨"java/lang/String", "valueOf", "(C)Ljava/lang/String;"⟩ : MethodName)) hown (mvT hZ (hw _ (List.mem_of_getElem? (i := 30) rfl))) (mvT hZ (hw _ (List.mem_of_getElem? (i := 31) rfl))) (mvT hZ (hw _ (List.mem_of_getElem? (i := 6) rfl))) (mvT hZ (hw _ (List.mem_of_getElem? (i := 32) rfl))) (by decide) (backOf (W := 0) (rmVO l Z a0 hw [] (((p6.toUInt32 >>> ((18 : Int32) &&& 31).toUInt32).toInt32) &&& (255 : Int32)) zC T444.heap n0 O448 SC hzC (own_255 ((p6.toUInt32 >>> ((18 : Int32) &&& 31).toUInt32).toInt32)).2) hZ (hw _ (List.mem_of_getElem? (i := 32) rfl)) (hw _ (List.mem_of_getElem? (i := 6) rfl)) (by decide) (by decide)) (g := (mkF m 178 #[.val (.int p1), .val (.int p2), .val (.int p3), .val (.int p4), .val (.int p5), .val (.int p6), .val (.int c405), .val (.int c408), .val (.int c411), .val (.int (3 : Int32)), .val (.ref b414), .val (.int kk), .val (.ref wK), .unset, .unset, .unset, .unset, .unset] [(.int (((p6.toUInt32 >>> ((18 : Int32) &&& 31).toUInt32).toInt32) &&& (255 : Int32)))])) rfl (by rw [hml]; rfl) (argsL := [(.int (((p6.toUInt32 >>> ((18 : Int32) &&& 31).toUInt32).toInt32) &&& (255 : Int32)))]) (rest := []) (lenOf pd_4 rfl) rfl (by show 2 * 0 + _ ≤ _; exact Nat.le_of_eq rfl) (hb hby at_178) (fun _ _ => ⟨rfl, e463, (by decide : 3 + 2 ≤ _), (by decide : 10 + 5 ≤ _)⟩)
  dsimp only [Pt.U, Pt.locs, Pt.cells, Pt.slots] at X465 l465 y465 z465 st465 hQ465
  subst l465 y465 z465
  obtain ⟨b465, rfl, Nq465, E465, z465, X465E⟩ := hQ465
  have N465 := Fr.app N444 Nq465
  have k466 : Rch p e below S0 T465 (mkF m 181 #[.val (.int p1), .val (.int p2), .val (.int p3), .val (.int p4), .val (.int p5), .val (.int p6), .val (.int c405), .val (.int c408), .val (.int c411), .val (.int (3 : Int32)), .val (.ref b414), .val (.int kk), .val (.ref wK), .unset, .unset, .unset, .unset, .unset] [(.ref b465)]) := fun t h => k464 t (st465 t h)
  replace sf_b414 := Safe.ext E465 hC446 sf_b414
  replace sf_b420 := Safe.ext E465 hC446 sf_b420
  have hC467 := hC446.ext E465
  have rC467 := rC446.trans (CHr.ext E465 hC446)
  have O468 := O448.ext E465
  replace E_b414 := E_b414.ext E465
  replace Vb444 := Vb444.ext E465
  replace Cb444 := Cb444.ext E465
  replace V_b420 := V_b420.ext E465
  replace Ab444 := Ab444.ext E465
  have hkk469 := Nat.le_trans hkk449 E465.1
  have k470 : Rch p e below S0 T465 (mkF m 185 #[.val (.int p1), .val (.int p2), .val (.int p3), .val (.int p4), .val (.int p5), .val (.int p6), .val (.int c405), .val (.int c408), .val (.int c411), .val (.int (3 : Int32)), .val (.ref b414), .val (.int kk), .val (.ref wK), .val (.ref b465), .unset, .unset, .unset, .unset] [(.int p6)]) := fun t h => k466 t (by
      show Steps p.tables e below (T465.setTop (mkF m 181 #[.val (.int p1), .val (.int p2), .val (.int p3), .val (.int p4), .val (.int p5), .val (.int p6), .val (.int c405), .val (.int c408), .val (.int c411), .val (.int (3 : Int32)), .val (.ref b414), .val (.int kk), .val (.ref wK), .unset, .unset, .unset, .unset, .unset] [(.ref b465)])) _
      refine XS.astore X465.here hx rfl (hb hby at_181) rfl rfl (l' := #[.val (.int p1), .val (.int p2), .val (.int p3), .val (.int p4), .val (.int p5), .val (.int p6), .val (.int c405), .val (.int c408), .val (.int c411), .val (.int (3 : Int32)), .val (.ref b414), .val (.int kk), .val (.ref wK), .val (.ref b465), .unset, .unset, .unset, .unset]) rfl ?_
      show Steps p.tables e below (T465.setTop (mkF m 183 #[.val (.int p1), .val (.int p2), .val (.int p3), .val (.int p4), .val (.int p5), .val (.int p6), .val (.int c405), .val (.int c408), .val (.int c411), .val (.int (3 : Int32)), .val (.ref b414), .val (.int kk), .val (.ref wK), .val (.ref b465), .unset, .unset, .unset, .unset] [])) _
      refine XS.iload X465.here hx rfl (hb hby at_183) rfl ?_
      show Steps p.tables e below (T465.setTop (mkF m 185 #[.val (.int p1), .val (.int p2), .val (.int p3), .val (.int p4), .val (.int p5), .val (.int p6), .val (.int c405), .val (.int c408), .val (.int c411), .val (.int (3 : Int32)), .val (.ref b414), .val (.int kk), .val (.ref wK), .val (.ref b465), .unset, .unset, .unset, .unset] [(.int p6)])) _
      exact h)
  obtain ⟨_, _, ⟨T471, L471, kk471, n471⟩, -, X471, ⟨Lc471, hQ471, l471, y471, z471⟩, st471⟩ := Jvm.LawKit.callS X465 hx (y := (⟨"com/example/suretygate/suretygate/rolemodel/CabinetFunctionIsSigningPinLaw", "pick", "(I)C"⟩ : MethodName)) hown (mvT hZ (hw _ (List.mem_of_getElem? (i := 0) rfl))) (mvT hZ (hw _ (List.mem_of_getElem? (i := 1) rfl))) (mvT hZ (hw _ (List.mem_of_getElem? (i := 2) rfl))) (mvT hZ (hw _ (List.mem_of_getElem? (i := 3) rfl))) (by decide) (backOf (W := 0) (rmP l Z a0 hw [] p6  T465.heap n0 O468 ) hZ (hw _ (List.mem_of_getElem? (i := 3) rfl)) (hw _ (List.mem_of_getElem? (i := 2) rfl)) (by decide) (by decide)) (g := (mkF m 185 #[.val (.int p1), .val (.int p2), .val (.int p3), .val (.int p4), .val (.int p5), .val (.int p6), .val (.int c405), .val (.int c408), .val (.int c411), .val (.int (3 : Int32)), .val (.ref b414), .val (.int kk), .val (.ref wK), .val (.ref b465), .unset, .unset, .unset, .unset] [(.int p6)])) rfl (by rw [hml]; rfl) (argsL := [(.int p6)]) (rest := []) (lenOf pd_0 rfl) rfl (by show 2 * 0 + _ ≤ _; exact Nat.le_of_eq rfl) (hb hby at_185) (fun _ _ => ⟨rfl, rfl, (by decide : 5 + 0 ≤ _), (by decide : 15 + 0 ≤ _)⟩)
  dsimp only [Pt.U, Pt.locs, Pt.cells, Pt.slots] at X471 l471 y471 z471 st471 hQ471
  subst l471 y471 z471
  obtain ⟨c471, rfl, Nq471, hh471, hc471⟩ := hQ471
  have N471 := Fr.app N465 Nq471
  have k472 : Rch p e below S0 T471 (mkF m 188 #[.val (.int p1), .val (.int p2), .val (.int p3), .val (.int p4), .val (.int p5), .val (.int p6), .val (.int c405), .val (.int c408), .val (.int c411), .val (.int (3 : Int32)), .val (.ref b414), .val (.int kk), .val (.ref wK), .val (.ref b465), .unset, .unset, .unset, .unset] [(.int c471)]) := fun t h => k470 t (st471 t h)
  obtain ⟨_, _, ⟨T473, L473, kk473, n473⟩, -, X473, ⟨Lc473, hQ473, l473, y473, z473⟩, st473⟩ := Jvm.LawKit.callS X471 hx (y := (⟨"java/lang/String", "valueOf", "(C)Ljava/lang/String;"⟩ : MethodName)) hown (mvT hZ (hw _ (List.mem_of_getElem? (i := 30) rfl))) (mvT hZ (hw _ (List.mem_of_getElem? (i := 31) rfl))) (mvT hZ (hw _ (List.mem_of_getElem? (i := 6) rfl))) (mvT hZ (hw _ (List.mem_of_getElem? (i := 32) rfl))) (by decide) (backOf (W := 0) (rmVO l Z a0 hw [] c471 zC T465.heap n0 O468 SC hzC hc471.2) hZ (hw _ (List.mem_of_getElem? (i := 32) rfl)) (hw _ (List.mem_of_getElem? (i := 6) rfl)) (by decide) (by decide)) (g := (mkF m 188 #[.val (.int p1), .val (.int p2), .val (.int p3), .val (.int p4), .val (.int p5), .val (.int p6), .val (.int c405), .val (.int c408), .val (.int c411), .val (.int (3 : Int32)), .val (.ref b414), .val (.int kk), .val (.ref wK), .val (.ref b465), .unset, .unset, .unset, .unset] [(.int c471)])) rfl (by rw [hml]; rfl) (argsL := [(.int c471)]) (rest := []) (lenOf pd_4 rfl) rfl (by show 2 * 0 + _ ≤ _; exact Nat.le_of_eq rfl) (hb hby at_188) (fun _ _ => ⟨rfl, hh471, (by decide : 5 + 2 ≤ _), (by decide : 15 + 5 ≤ _)⟩)
  dsimp only [Pt.U, Pt.locs, Pt.cells, Pt.slots] at X473 l473 y473 z473 st473 hQ473
  subst l473 y473 z473
  obtain ⟨b473, rfl, Nq473, E473, z473, X473E⟩ := hQ473
  have N473 := Fr.app N471 Nq473
  have k474 : Rch p e below S0 T473 (mkF m 191 #[.val (.int p1), .val (.int p2), .val (.int p3), .val (.int p4), .val (.int p5), .val (.int p6), .val (.int c405), .val (.int c408), .val (.int c411), .val (.int (3 : Int32)), .val (.ref b414), .val (.int kk), .val (.ref wK), .val (.ref b465), .unset, .unset, .unset, .unset] [(.ref b473)]) := fun t h => k472 t (st473 t h)
  replace sf_b414 := Safe.ext E473 hC467 sf_b414
  replace sf_b420 := Safe.ext E473 hC467 sf_b420
  have hC475 := hC467.ext E473
  have rC475 := rC467.trans (CHr.ext E473 hC467)
  have O476 := O468.ext E473
  replace E_b414 := E_b414.ext E473
  replace Vb444 := Vb444.ext E473
  replace Cb444 := Cb444.ext E473
  replace V_b420 := V_b420.ext E473
  replace Ab444 := Ab444.ext E473
  replace X465E := X465E.ext E473
  have hkk477 := Nat.le_trans hkk469 E473.1
  have k478 : Rch p e below S0 T473 (mkF m 198 #[.val (.int p1), .val (.int p2), .val (.int p3), .val (.int p4), .val (.int p5), .val (.int p6), .val (.int c405), .val (.int c408), .val (.int c411), .val (.int (3 : Int32)), .val (.ref b414), .val (.int kk), .val (.ref wK), .val (.ref b465), .val (.ref b473), .unset, .unset, .unset] [(.int ((p6.toUInt32 >>> ((9 : Int32) &&& 31).toUInt32).toInt32))]) := fun t h => k474 t (by
      show Steps p.tables e below (T473.setTop (mkF m 191 #[.val (.int p1), .val (.int p2), .val (.int p3), .val (.int p4), .val (.int p5), .val (.int p6), .val (.int c405), .val (.int c408), .val (.int c411), .val (.int (3 : Int32)), .val (.ref b414), .val (.int kk), .val (.ref wK), .val (.ref b465), .unset, .unset, .unset, .unset] [(.ref b473)])) _
      refine XS.astore X473.here hx rfl (hb hby at_191) rfl rfl (l' := #[.val (.int p1), .val (.int p2), .val (.int p3), .val (.int p4), .val (.int p5), .val (.int p6), .val (.int c405), .val (.int c408), .val (.int c411), .val (.int (3 : Int32)), .val (.ref b414), .val (.int kk), .val (.ref wK), .val (.ref b465), .val (.ref b473), .unset, .unset, .unset]) rfl ?_
      show Steps p.tables e below (T473.setTop (mkF m 193 #[.val (.int p1), .val (.int p2), .val (.int p3), .val (.int p4), .val (.int p5), .val (.int p6), .val (.int c405), .val (.int c408), .val (.int c411), .val (.int (3 : Int32)), .val (.ref b414), .val (.int kk), .val (.ref wK), .val (.ref b465), .val (.ref b473), .unset, .unset, .unset] [])) _
      refine XS.iload X473.here hx rfl (hb hby at_193) rfl ?_
      show Steps p.tables e below (T473.setTop (mkF m 195 #[.val (.int p1), .val (.int p2), .val (.int p3), .val (.int p4), .val (.int p5), .val (.int p6), .val (.int c405), .val (.int c408), .val (.int c411), .val (.int (3 : Int32)), .val (.ref b414), .val (.int kk), .val (.ref wK), .val (.ref b465), .val (.ref b473), .unset, .unset, .unset] [(.int p6)])) _
      refine XS.bipush X473.here hx rfl (hb hby at_195) ?_
      show Steps p.tables e below (T473.setTop (mkF m 197 #[.val (.int p1), .val (.int p2), .val (.int p3), .val (.int p4), .val (.int p5), .val (.int p6), .val (.int c405), .val (.int c408), .val (.int c411), .val (.int (3 : Int32)), .val (.ref b414), .val (.int kk), .val (.ref wK), .val (.ref b465), .val (.ref b473), .unset, .unset, .unset] [(.int (9 : Int32)), (.int p6)])) _
      refine XS.iushr X473.here hx rfl (hb hby at_197) rfl ?_
      show Steps p.tables e below (T473.setTop (mkF m 198 #[.val (.int p1), .val (.int p2), .val (.int p3), .val (.int p4), .val (.int p5), .val (.int p6), .val (.int c405), .val (.int c408), .val (.int c411), .val (.int (3 : Int32)), .val (.ref b414), .val (.int kk), .val (.ref wK), .val (.ref b465), .val (.ref b473), .unset, .unset, .unset] [(.int ((p6.toUInt32 >>> ((9 : Int32) &&& 31).toUInt32).toInt32))])) _
      exact h)
  obtain ⟨_, _, ⟨T479, L479, kk479, n479⟩, -, X479, ⟨Lc479, hQ479, l479, y479, z479⟩, st479⟩ := Jvm.LawKit.callS X473 hx (y := (⟨"com/example/suretygate/suretygate/rolemodel/CabinetFunctionIsSigningPinLaw", "pick", "(I)C"⟩ : MethodName)) hown (mvT hZ (hw _ (List.mem_of_getElem? (i := 0) rfl))) (mvT hZ (hw _ (List.mem_of_getElem? (i := 1) rfl))) (mvT hZ (hw _ (List.mem_of_getElem? (i := 2) rfl))) (mvT hZ (hw _ (List.mem_of_getElem? (i := 3) rfl))) (by decide) (backOf (W := 0) (rmP l Z a0 hw [] ((p6.toUInt32 >>> ((9 : Int32) &&& 31).toUInt32).toInt32)  T473.heap n0 O476 ) hZ (hw _ (List.mem_of_getElem? (i := 3) rfl)) (hw _ (List.mem_of_getElem? (i := 2) rfl)) (by decide) (by decide)) (g := (mkF m 198 #[.val (.int p1), .val (.int p2), .val (.int p3), .val (.int p4), .val (.int p5), .val (.int p6), .val (.int c405), .val (.int c408), .val (.int c411), .val (.int (3 : Int32)), .val (.ref b414), .val (.int kk), .val (.ref wK), .val (.ref b465), .val (.ref b473), .unset, .unset, .unset] [(.int ((p6.toUInt32 >>> ((9 : Int32) &&& 31).toUInt32).toInt32))])) rfl (by rw [hml]; rfl) (argsL := [(.int ((p6.toUInt32 >>> ((9 : Int32) &&& 31).toUInt32).toInt32))]) (rest := []) (lenOf pd_0 rfl) rfl (by show 2 * 0 + _ ≤ _; exact Nat.le_of_eq rfl) (hb hby at_198) (fun _ _ => ⟨rfl, rfl, (by decide : 7 + 0 ≤ _), (by decide : 20 + 0 ≤ _)⟩)
  dsimp only [Pt.U, Pt.locs, Pt.cells, Pt.slots] at X479 l479 y479 z479 st479 hQ479
  subst l479 y479 z479
  obtain ⟨c479, rfl, Nq479, hh479, hc479⟩ := hQ479
  have N479 := Fr.app N473 Nq479
  have k480 : Rch p e below S0 T479 (mkF m 201 #[.val (.int p1), .val (.int p2), .val (.int p3), .val (.int p4), .val (.int p5), .val (.int p6), .val (.int c405), .val (.int c408), .val (.int c411), .val (.int (3 : Int32)), .val (.ref b414), .val (.int kk), .val (.ref wK), .val (.ref b465), .val (.ref b473), .unset, .unset, .unset] [(.int c479)]) := fun t h => k478 t (st479 t h)
  obtain ⟨_, _, ⟨T481, L481, kk481, n481⟩, -, X481, ⟨Lc481, hQ481, l481, y481, z481⟩, st481⟩ := Jvm.LawKit.callS X479 hx (y := (⟨"java/lang/String", "valueOf", "(C)Ljava/lang/String;"⟩ : MethodName)) hown (mvT hZ (hw _ (List.mem_of_getElem? (i := 30) rfl))) (mvT hZ (hw _ (List.mem_of_getElem? (i := 31) rfl))) (mvT hZ (hw _ (List.mem_of_getElem? (i := 6) rfl))) (mvT hZ (hw _ (List.mem_of_getElem? (i := 32) rfl))) (by decide) (backOf (W := 0) (rmVO l Z a0 hw [] c479 zC T473.heap n0 O476 SC hzC hc479.2) hZ (hw _ (List.mem_of_getElem? (i := 32) rfl)) (hw _ (List.mem_of_getElem? (i := 6) rfl)) (by decide) (by decide)) (g := (mkF m 201 #[.val (.int p1), .val (.int p2), .val (.int p3), .val (.int p4), .val (.int p5), .val (.int p6), .val (.int c405), .val (.int c408), .val (.int c411), .val (.int (3 : Int32)), .val (.ref b414), .val (.int kk), .val (.ref wK), .val (.ref b465), .val (.ref b473), .unset, .unset, .unset] [(.int c479)])) rfl (by rw [hml]; rfl) (argsL := [(.int c479)]) (rest := []) (lenOf pd_4 rfl) rfl (by show 2 * 0 + _ ≤ _; exact Nat.le_of_eq rfl) (hb hby at_201) (fun _ _ => ⟨rfl, hh479, (by decide : 7 + 2 ≤ _), (by decide : 20 + 5 ≤ _)⟩)
  dsimp only [Pt.U, Pt.locs, Pt.cells, Pt.slots] at X481 l481 y481 z481 st481 hQ481
  subst l481 y481 z481
  obtain ⟨b481, rfl, Nq481, E481, z481, X481E⟩ := hQ481
  have N481 := Fr.app N479 Nq481
  have k482 : Rch p e below S0 T481 (mkF m 204 #[.val (.int p1), .val (.int p2), .val (.int p3), .val (.int p4), .val (.int p5), .val (.int p6), .val (.int c405), .val (.int c408), .val (.int c411), .val (.int (3 : Int32)), .val (.ref b414), .val (.int kk), .val (.ref wK), .val (.ref b465), .val (.ref b473), .unset, .unset, .unset] [(.ref b481)]) := fun t h => k480 t (st481 t h)
  replace sf_b414 := Safe.ext E481 hC475 sf_b414
  replace sf_b420 := Safe.ext E481 hC475 sf_b420
  have hC483 := hC475.ext E481
  have rC483 := rC475.trans (CHr.ext E481 hC475)
  have O484 := O476.ext E481
  replace E_b414 := E_b414.ext E481
  replace Vb444 := Vb444.ext E481
  replace Cb444 := Cb444.ext E481
  replace V_b420 := V_b420.ext E481
  replace Ab444 := Ab444.ext E481
  replace X465E := X465E.ext E481
  replace X473E := X473E.ext E481
  have hkk485 := Nat.le_trans hkk477 E481.1
  have k487 : Rch p e below S0 T481 (mkF m 206 #[.val (.int p1), .val (.int p2), .val (.int p3), .val (.int p4), .val (.int p5), .val (.int p6), .val (.int c405), .val (.int c408), .val (.int c411), .val (.int (3 : Int32)), .val (.ref b414), .val (.int kk), .val (.ref wK), .val (.ref b465), .val (.ref b473), .val (.ref b481), .unset, .unset] []) := fun t h => k482 t (by
      show Steps p.tables e below (T481.setTop (mkF m 204 #[.val (.int p1), .val (.int p2), .val (.int p3), .val (.int p4), .val (.int p5), .val (.int p6), .val (.int c405), .val (.int c408), .val (.int c411), .val (.int (3 : Int32)), .val (.ref b414), .val (.int kk), .val (.ref wK), .val (.ref b465), .val (.ref b473), .unset, .unset, .unset] [(.ref b481)])) _
      refine XS.astore X481.here hx rfl (hb hby at_204) rfl rfl (l' := #[.val (.int p1), .val (.int p2), .val (.int p3), .val (.int p4), .val (.int p5), .val (.int p6), .val (.int c405), .val (.int c408), .val (.int c411), .val (.int (3 : Int32)), .val (.ref b414), .val (.int kk), .val (.ref wK), .val (.ref b465), .val (.ref b473), .val (.ref b481), .unset, .unset]) rfl ?_
      show Steps p.tables e below (T481.setTop (mkF m 206 #[.val (.int p1), .val (.int p2), .val (.int p3), .val (.int p4), .val (.int p5), .val (.int p6), .val (.int c405), .val (.int c408), .val (.int c411), .val (.int (3 : Int32)), .val (.ref b414), .val (.int kk), .val (.ref wK), .val (.ref b465), .val (.ref b473), .val (.ref b481), .unset, .unset] [])) _
      exact h)
  obtain ⟨T486, h486, X486, e486, E486, A486, D486, -, st486⟩ := newO X481 hx hZ hown (hw _ (List.mem_of_getElem? (i := 45) rfl)) (hw _ (List.mem_of_getElem? (i := 46) rfl)) (hw _ (List.mem_of_getElem? (i := 47) rfl)) rfl (g := (mkF m 206 #[.val (.int p1), .val (.int p2), .val (.int p3), .val (.int p4), .val (.int p5), .val (.int p6), .val (.int c405), .val (.int c408), .val (.int c411), .val (.int (3 : Int32)), .val (.ref b414), .val (.int kk), .val (.ref wK), .val (.ref b465), .val (.ref b473), .val (.ref b481), .unset, .unset] [])) rfl (hb hby at_206) (by decide) (by decide)
  obtain ⟨b486, g486⟩ : ∃ z, z = T481.heap.size := ⟨_, rfl⟩
  rw [← g486] at A486 D486 st486
  have k488 : Rch p e below S0 T486 (mkF m 209 #[.val (.int p1), .val (.int p2), .val (.int p3), .val (.int p4), .val (.int p5), .val (.int p6), .val (.int c405), .val (.int c408), .val (.int c411), .val (.int (3 : Int32)), .val (.ref b414), .val (.int kk), .val (.ref wK), .val (.ref b465), .val (.ref b473), .val (.ref b481), .unset, .unset] [(.ref b486)]) := fun t h => k487 t (st486 t h)
  have ne_b414_b486 : b414 ≠ b486 := own_ne E_b414.lt (Nat.le_of_eq g486.symm)
  have ne_b420_b486 : b420 ≠ b486 := own_ne V_b420.lt (Nat.le_of_eq g486.symm)
  have ne_t444_b486 : t444 ≠ b486 := own_ne Ab444.lt (Nat.le_of_eq g486.symm)
  have ne_b465_b486 : b465 ≠ b486 := own_ne X465E.lt (Nat.le_of_eq g486.symm)
  have ne_b473_b486 : b473 ≠ b486 := own_ne X473E.lt (Nat.le_of_eq g486.symm)
  have ne_b481_b486 : b481 ≠ b486 := own_ne X481E.lt (Nat.le_of_eq g486.symm)
  have ge_b486 : n0 ≤ b486 := own_ge O484 (Nat.le_of_eq g486.symm)
  have sf_b486 : Safe Z consts_1 s.vm T481.heap b486 := Safe.new (Nat.le_of_eq g486.symm)
  replace sf_b414 := Safe.ext E486 hC483 sf_b414
  replace sf_b420 := Safe.ext E486 hC483 sf_b420
  replace sf_b486 := Safe.ext E486 hC483 sf_b486
  have hC489 := hC483.ext E486
  have rC489 := rC483.trans (CHr.ext E486 hC483)
  have O490 := O484.ext E486
  replace E_b414 := E_b414.ext E486
  replace Vb444 := Vb444.ext E486
  replace Cb444 := Cb444.ext E486
  replace V_b420 := V_b420.ext E486
  replace Ab444 := Ab444.ext E486
  replace X465E := X465E.ext E486
  replace X473E := X473E.ext E486
  replace X481E := X481E.ext E486
  have hkk491 := Nat.le_trans hkk485 E486.1
  have E_b486 := A486
  have F_b486_name : Fld Z h486 b486 "com/example/suretygate/suretygate/rolemodel/CabinetFunction" "name" "Ljava/lang/String;" .null := D486 (Or.inr (hw _ (List.mem_of_getElem? (i := 58) rfl))) (ty := (.object "java/lang/String")) (by decide)
  have F_b486_kind : Fld Z h486 b486 "com/example/suretygate/suretygate/rolemodel/CabinetFunction" "kind" "Lcom/example/suretygate/suretygate/rolemodel/CabinetFunction$Kind;" .null := D486 (Or.inr (hw _ (List.mem_of_getElem? (i := 60) rfl))) (ty := (.object "com/example/suretygate/suretygate/rolemodel/CabinetFunction$Kind")) (by decide)
  have F_b486_label : Fld Z h486 b486 "com/example/suretygate/suretygate/rolemodel/CabinetFunction" "label" "Ljava/lang/String;" .null := D486 (Or.inr (hw _ (List.mem_of_getElem? (i := 62) rfl))) (ty := (.object "java/lang/String")) (by decide)
  have F_b486_path : Fld Z h486 b486 "com/example/suretygate/suretygate/rolemodel/CabinetFunction" "path" "Ljava/lang/String;" .null := D486 (Or.inr (hw _ (List.mem_of_getElem? (i := 64) rfl))) (ty := (.object "java/lang/String")) (by decide)
  have F_b486_signs : Fld Z h486 b486 "com/example/suretygate/suretygate/rolemodel/CabinetFunction" "signs" "Ljava/lang/String;" .null := D486 (Or.inr (hw _ (List.mem_of_getElem? (i := 66) rfl))) (ty := (.object "java/lang/String")) (by decide)
  have k492 : Rch p e below S0 T486 (mkF m 220 #[.val (.int p1), .val (.int p2), .val (.int p3), .val (.int p4), .val (.int p5), .val (.int p6), .val (.int c405), .val (.int c408), .val (.int c411), .val (.int (3 : Int32)), .val (.ref b414), .val (.int kk), .val (.ref wK), .val (.ref b465), .val (.ref b473), .val (.ref b481), .unset, .unset] [(.ref b414), (.ref b481), (.ref b473), (.ref wK), (.ref b465), (.ref b486), (.ref b486)]) := fun t h => k488 t (by
      show Steps p.tables e below (T486.setTop (mkF m 209 #[.val (.int p1), .val (.int p2), .val (.int p3), .val (.int p4), .val (.int p5), .val (.int p6), .val (.int c405), .val (.int c408), .val (.int c411), .val (.int (3 : Int32)), .val (.ref b414), .val (.int kk), .val (.ref wK), .val (.ref b465), .val (.ref b473), .val (.ref b481), .unset, .unset] [(.ref b486)])) _
      refine XS.dup X486.here hx rfl (hb hby at_209) rfl rfl ?_
      show Steps p.tables e below (T486.setTop (mkF m 210 #[.val (.int p1), .val (.int p2), .val (.int p3), .val (.int p4), .val (.int p5), .val (.int p6), .val (.int c405), .val (.int c408), .val (.int c411), .val (.int (3 : Int32)), .val (.ref b414), .val (.int kk), .val (.ref wK), .val (.ref b465), .val (.ref b473), .val (.ref b481), .unset, .unset] [(.ref b486), (.ref b486)])) _
      refine XS.aload X486.here hx rfl (hb hby at_210) rfl rfl ?_
      show Steps p.tables e below (T486.setTop (mkF m 212 #[.val (.int p1), .val (.int p2), .val (.int p3), .val (.int p4), .val (.int p5), .val (.int p6), .val (.int c405), .val (.int c408), .val (.int c411), .val (.int (3 : Int32)), .val (.ref b414), .val (.int kk), .val (.ref wK), .val (.ref b465), .val (.ref b473), .val (.ref b481), .unset, .unset] [(.ref b465), (.ref b486), (.ref b486)])) _
      refine XS.aload X486.here hx rfl (hb hby at_212) rfl rfl ?_
      show Steps p.tables e below (T486.setTop (mkF m 214 #[.val (.int p1), .val (.int p2), .val (.int p3), .val (.int p4), .val (.int p5), .val (.int p6), .val (.int c405), .val (.int c408), .val (.int c411), .val (.int (3 : Int32)), .val (.ref b414), .val (.int kk), .val (.ref wK), .val (.ref b465), .val (.ref b473), .val (.ref b481), .unset, .unset] [(.ref wK), (.ref b465), (.ref b486), (.ref b486)])) _
      refine XS.aload X486.here hx rfl (hb hby at_214) rfl rfl ?_
      show Steps p.tables e below (T486.setTop (mkF m 216 #[.val (.int p1), .val (.int p2), .val (.int p3), .val (.int p4), .val (.int p5), .val (.int p6), .val (.int c405), .val (.int c408), .val (.int c411), .val (.int (3 : Int32)), .val (.ref b414), .val (.int kk), .val (.ref wK), .val (.ref b465), .val (.ref b473), .val (.ref b481), .unset, .unset] [(.ref b473), (.ref wK), (.ref b465), (.ref b486), (.ref b486)])) _
      refine XS.aload X486.here hx rfl (hb hby at_216) rfl rfl ?_
      show Steps p.tables e below (T486.setTop (mkF m 218 #[.val (.int p1), .val (.int p2), .val (.int p3), .val (.int p4), .val (.int p5), .val (.int p6), .val (.int c405), .val (.int c408), .val (.int c411), .val (.int (3 : Int32)), .val (.ref b414), .val (.int kk), .val (.ref wK), .val (.ref b465), .val (.ref b473), .val (.ref b481), .unset, .unset] [(.ref b481), (.ref b473), (.ref wK), (.ref b465), (.ref b486), (.ref b486)])) _
      refine XS.aload X486.here hx rfl (hb hby at_218) rfl rfl ?_
      show Steps p.tables e below (T486.setTop (mkF m 220 #[.val (.int p1), .val (.int p2), .val (.int p3), .val (.int p4), .val (.int p5), .val (.int p6), .val (.int c405), .val (.int c408), .val (.int c411), .val (.int (3 : Int32)), .val (.ref b414), .val (.int kk), .val (.ref wK), .val (.ref b465), .val (.ref b473), .val (.ref b481), .unset, .unset] [(.ref b414), (.ref b481), (.ref b473), (.ref wK), (.ref b465), (.ref b486), (.ref b486)])) _
      exact h)
  obtain ⟨_, _, ⟨T493, L493, kk493, n493⟩, -, X493, ⟨Lc493, hQ493, l493, y493, z493⟩, st493⟩ := X486.specialBack hx (y := (⟨"com/example/suretygate/suretygate/rolemodel/CabinetFunction", "<init>", "(Ljava/lang/String;Lcom/example/suretygate/suretygate/rolemodel/CabinetFunction$Kind;Ljava/lang/String;Ljava/lang/String;Ljava/lang/String;)V"⟩ : MethodName)) rfl hown (mvT hZ (hw _ (List.mem_of_getElem? (i := 48) rfl))) (mvT hZ (hw _ (List.mem_of_getElem? (i := 49) rfl))) (mvT hZ (hw _ (List.mem_of_getElem? (i := 50) rfl))) (by decide) (backOf (W := 1) (rmN l Z a0 hw [] b486 b465 wK b473 b481 b414  h486 n0 O490 ge_b486 E_b486 F_b486_name F_b486_kind F_b486_label F_b486_path F_b486_signs) hZ (hw _ (List.mem_of_getElem? (i := 50) rfl)) (hw _ (List.mem_of_getElem? (i := 47) rfl)) (by decide) (by decide)) (g := (mkF m 220 #[.val (.int p1), .val (.int p2), .val (.int p3), .val (.int p4), .val (.int p5), .val (.int p6), .val (.int c405), .val (.int c408), .val (.int c411), .val (.int (3 : Int32)), .val (.ref b414), .val (.int kk), .val (.ref wK), .val (.ref b465), .val (.ref b473), .val (.ref b481), .unset, .unset] [(.ref b414), (.ref b481), (.ref b473), (.ref wK), (.ref b465), (.ref b486), (.ref b486)])) rfl (by rw [hml]; rfl) (Steps.refl _) (a := b486) (argsL := [(.ref b465), (.ref wK), (.ref b473), (.ref b481), (.ref b414)]) (rest := [(.ref b486)]) (lenOf pd_8 rfl) rfl (by show 2 * 0 + _ ≤ _; exact Nat.le_of_eq rfl) (hb hby at_220) (fun _ _ => ⟨rfl, e486, (by decide : 10 + 0 ≤ _), (by decide : 30 + 0 ≤ _)⟩)
  dsimp only [Pt.U, Pt.locs, Pt.cells, Pt.slots] at X493 l493 y493 z493 st493 hQ493
  subst l493 y493 z493
  obtain ⟨rfl, Nq493, K493, Fs493⟩ := hQ493
  have N493 := Fr.app N481 Nq493
  have k494 : Rch p e below S0 T493 (mkF m 223 #[.val (.int p1), .val (.int p2), .val (.int p3), .val (.int p4), .val (.int p5), .val (.int p6), .val (.int c405), .val (.int c408), .val (.int c411), .val (.int (3 : Int32)), .val (.ref b414), .val (.int kk), .val (.ref wK), .val (.ref b465), .val (.ref b473), .val (.ref b481), .unset, .unset] [(.ref b486)]) := fun t h => k492 t (st493.trans h)
  have hC495 := hC489.keep K493 (sfS sf_b486 sf0)
  have rC495 := rC489.trans (CHr.keep K493 (sfS sf_b486 sf0) hC489)
  have sfx496 := (sfS sf_b486 sf0)
  replace sf_b414 := Safe.keep K493 sfx496 hC489 sf_b414
  replace sf_b420 := Safe.keep K493 sfx496 hC489 sf_b420
  replace sf_b486 := Safe.keep K493 sfx496 hC489 sf_b486
  have O497 := O490.keep K493 (allS ge_b486 all0)
  replace E_b414 := E_b414.keep K493
  replace Vb444 := Vb444.keep K493 (ninS ne_b414_b486 nin0)
  replace Cb444 := Cb444.keep K493 (ninS ne_b414_b486 nin0)
  replace V_b420 := V_b420.keep K493 (ninS ne_b420_b486 nin0)
  replace Ab444 := Ab444.keep K493 (ninS ne_t444_b486 nin0)
  replace X465E := X465E.keep K493
  replace X473E := X473E.keep K493
  replace X481E := X481E.keep K493
  replace E_b486 := E_b486.keep K493
  have hkk498 := Nat.le_trans hkk491 K493.1
  have k499 : Rch p e below S0 T493 (mkF m 225 #[.val (.int p1), .val (.int p2), .val (.int p3), .val (.int p4), .val (.int p5), .val (.int p6), .val (.int c405), .val (.int c408), .val (.int c411), .val (.int (3 : Int32)), .val (.ref b414), .val (.int kk), .val (.ref wK), .val (.ref b465), .val (.ref b473), .val (.ref b481), .val (.ref b486), .unset] []) := fun t h => k494 t (by
      show Steps p.tables e below (T493.setTop (mkF m 223 #[.val (.int p1), .val (.int p2), .val (.int p3), .val (.int p4), .val (.int p5), .val (.int p6), .val (.int c405), .val (.int c408), .val (.int c411), .val (.int (3 : Int32)), .val (.ref b414), .val (.int kk), .val (.ref wK), .val (.ref b465), .val (.ref b473), .val (.ref b481), .unset, .unset] [(.ref b486)])) _
      refine XS.astore X493.here hx rfl (hb hby at_223) rfl rfl (l' := #[.val (.int p1), .val (.int p2), .val (.int p3), .val (.int p4), .val (.int p5), .val (.int p6), .val (.int c405), .val (.int c408), .val (.int c411), .val (.int (3 : Int32)), .val (.ref b414), .val (.int kk), .val (.ref wK), .val (.ref b465), .val (.ref b473), .val (.ref b481), .val (.ref b486), .unset]) rfl ?_
      show Steps p.tables e below (T493.setTop (mkF m 225 #[.val (.int p1), .val (.int p2), .val (.int p3), .val (.int p4), .val (.int p5), .val (.int p6), .val (.int c405), .val (.int c408), .val (.int c411), .val (.int (3 : Int32)), .val (.ref b414), .val (.int kk), .val (.ref wK), .val (.ref b465), .val (.ref b473), .val (.ref b481), .val (.ref b486), .unset] [])) _
      exact h)
  have k500 : Rch p e below S0 T493 (mkF m 247 #[.val (.int p1), .val (.int p2), .val (.int p3), .val (.int p4), .val (.int p5), .val (.int p6), .val (.int c405), .val (.int c408), .val (.int c411), .val (.int (3 : Int32)), .val (.ref b414), .val (.int kk), .val (.ref wK), .val (.ref b465), .val (.ref b473), .val (.ref b481), .val (.ref b486), .val (.int (1 : Int32))] [(.ref b486)]) := fun t h => k499 t (by
      show Steps p.tables e below (T493.setTop (mkF m 225 #[.val (.int p1), .val (.int p2), .val (.int p3), .val (.int p4), .val (.int p5), .val (.int p6), .val (.int c405), .val (.int c408), .val (.int c411), .val (.int (3 : Int32)), .val (.ref b414), .val (.int kk), .val (.ref wK), .val (.ref b465), .val (.ref b473), .val (.ref b481), .val (.ref b486), .unset] [])) _
      refine XS.iload X493.here hx rfl (hb hby at_225) rfl ?_
      show Steps p.tables e below (T493.setTop (mkF m 227 #[.val (.int p1), .val (.int p2), .val (.int p3), .val (.int p4), .val (.int p5), .val (.int p6), .val (.int c405), .val (.int c408), .val (.int c411), .val (.int (3 : Int32)), .val (.ref b414), .val (.int kk), .val (.ref wK), .val (.ref b465), .val (.ref b473), .val (.ref b481), .val (.ref b486), .unset] [(.int (3 : Int32))])) _
      refine XS.iconst X493.here hx rfl (hb hby at_227) ?_
      show Steps p.tables e below (T493.setTop (mkF m 228 #[.val (.int p1), .val (.int p2), .val (.int p3), .val (.int p4), .val (.int p5), .val (.int p6), .val (.int c405), .val (.int c408), .val (.int c411), .val (.int (3 : Int32)), .val (.ref b414), .val (.int kk), .val (.ref wK), .val (.ref b465), .val (.ref b473), .val (.ref b481), .val (.ref b486), .unset] [(.int (1 : Int32)), (.int (3 : Int32))])) _
      refine XS.icmpYes X493.here hx rfl (pc0 := 228) (pc' := 238) rfl (hb hby at_228) rfl (feq (by decide : ¬ ((3 : Int32) = (1 : Int32)))).2 (by decide) (by decide) ?_
      show Steps p.tables e below (T493.setTop (mkF m 238 #[.val (.int p1), .val (.int p2), .val (.int p3), .val (.int p4), .val (.int p5), .val (.int p6), .val (.int c405), .val (.int c408), .val (.int c411), .val (.int (3 : Int32)), .val (.ref b414), .val (.int kk), .val (.ref wK), .val (.ref b465), .val (.ref b473), .val (.ref b481), .val (.ref b486), .unset] [])) _
      refine XS.iconst X493.here hx rfl (hb hby at_238) ?_
      show Steps p.tables e below (T493.setTop (mkF m 239 #[.val (.int p1), .val (.int p2), .val (.int p3), .val (.int p4), .val (.int p5), .val (.int p6), .val (.int c405), .val (.int c408), .val (.int c411), .val (.int (3 : Int32)), .val (.ref b414), .val (.int kk), .val (.ref wK), .val (.ref b465), .val (.ref b473), .val (.ref b481), .val (.ref b486), .unset] [(.int (1 : Int32))])) _
      refine XS.goto X493.here hx rfl (pc0 := 239) (pc' := 243) rfl (hb hby at_239) (by decide) (by decide) ?_
      show Steps p.tables e below (T493.setTop (mkF m 243 #[.val (.int p1), .val (.int p2), .val (.int p3), .val (.int p4), .val (.int p5), .val (.int p6), .val (.int c405), .val (.int c408), .val (.int c411), .val (.int (3 : Int32)), .val (.ref b414), .val (.int kk), .val (.ref wK), .val (.ref b465), .val (.ref b473), .val (.ref b481), .val (.ref b486), .unset] [(.int (1 : Int32))])) _
      refine XS.istore X493.here hx rfl (hb hby at_243) rfl (l' := #[.val (.int p1), .val (.int p2), .val (.int p3), .val (.int p4), .val (.int p5), .val (.int p6), .val (.int c405), .val (.int c408), .val (.int c411), .val (.int (3 : Int32)), .val (.ref b414), .val (.int kk), .val (.ref wK), .val (.ref b465), .val (.ref b473), .val (.ref b481), .val (.ref b486), .val (.int (1 : Int32))]) rfl ?_
      show Steps p.tables e below (T493.setTop (mkF m 245 #[.val (.int p1), .val (.int p2), .val (.int p3), .val (.int p4), .val (.int p5), .val (.int p6), .val (.int c405), .val (.int c408), .val (.int c411), .val (.int (3 : Int32)), .val (.ref b414), .val (.int kk), .val (.ref wK), .val (.ref b465), .val (.ref b473), .val (.ref b481), .val (.ref b486), .val (.int (1 : Int32))] [])) _
      refine XS.aload X493.here hx rfl (hb hby at_245) rfl rfl ?_
      show Steps p.tables e below (T493.setTop (mkF m 247 #[.val (.int p1), .val (.int p2), .val (.int p3), .val (.int p4), .val (.int p5), .val (.int p6), .val (.int c405), .val (.int c408), .val (.int c411), .val (.int (3 : Int32)), .val (.ref b414), .val (.int kk), .val (.ref wK), .val (.ref b465), .val (.ref b473), .val (.ref b481), .val (.ref b486), .val (.int (1 : Int32))] [(.ref b486)])) _
      exact h)
  have hpp : ∀ c ∈ ([c405, c408, c411] : List Int32), ¬ c < 0 ∧ ¬ (255 : Int32) < c := by
    intro c hc
    simp only [List.mem_cons, List.not_mem_nil, or_false] at hc
    rcases hc with rfl | rfl | rfl
    · exact hc405
    · exact hc408
    · exact hc411
  have hcdd : StrChars.Road.CodA [c405, c408, c411] 0 (3 : Int32) (([c405, c408, c411].map (fun c => c.toInt8.toInt32)).map Value.int) := Or.inl ⟨rfl, rfl, rfl, fun c hc => (hpp c hc).2⟩
  obtain ⟨cq501, kq501, q501a, q501b, q501c⟩ := isOf hZ rfl E_b486
  obtain ⟨_, _, ⟨T501, L501, kk501, n501⟩, -, X501, hS501, gr501, ⟨Lc501, hQ501, l501, y501, z501, hR501⟩, st501⟩ := X493.virtualBackS hx (y := (⟨"com/example/suretygate/suretygate/rolemodel/CabinetFunction", "isSigning", "()Z"⟩ : MethodName)) (z := (⟨"com/example/suretygate/suretygate/rolemodel/CabinetFunction", "isSigning", "()Z"⟩ : MethodName)) hown (mvT hZ (hw _ (List.mem_of_getElem? (i := 67) rfl))) (mvT hZ (hw _ (List.mem_of_getElem? (i := 68) rfl))) (notFace_of_selects (args := #[]) (mvT hZ (hw _ (List.mem_of_getElem? (i := 70) rfl)))) (mvT hZ (hw _ (List.mem_of_getElem? (i := 70) rfl))) (mvT hZ (hw _ (List.mem_of_getElem? (i := 69) rfl))) (by decide) (backOfSH (W := 0) (rmG l Z a0 hw [] b486 b414 t444 kb444 (3 : Int32) (([c405, c408, c411].map (fun c => c.toInt8.toInt32)).map Value.int) ([c405, c408, c411]) zC T493.heap n0 O497 SC hzC Fs493 E_b414 Vb444 Cb444 Ab444 hcdd hpp (Nat.le_of_ble_eq_true rfl)) hZ (hw _ (List.mem_of_getElem? (i := 71) rfl)) (hw _ (List.mem_of_getElem? (i := 47) rfl)) (by decide) (by decide) hEL hC495) q501a q501c (g := (mkF m 247 #[.val (.int p1), .val (.int p2), .val (.int p3), .val (.int p4), .val (.int p5), .val (.int p6), .val (.int c405), .val (.int c408), .val (.int c411), .val (.int (3 : Int32)), .val (.ref b414), .val (.int kk), .val (.ref wK), .val (.ref b465), .val (.ref b473), .val (.ref b481), .val (.ref b486), .val (.int (1 : Int32))] [(.ref b486)])) rfl (by rw [hml]; rfl) (Steps.refl _) (argsL := []) (rest := []) (lenOf pd_9 rfl) rfl (by show 2 * 0 + _ ≤ _; exact Nat.le_of_eq rfl) (hb hby at_247) (fun _ _ => ⟨rfl, rfl, (by decide : 10 + 2 ≤ _), (by decide : 30 + 8 ≤ _)⟩)
  dsimp only [Pt.U, Pt.locs, Pt.cells, Pt.slots] at X501 l501 y501 z501 st501 hQ501 hS501 gr501 hR501
  subst l501 y501 z501
  have hZ501 : Z.Warmed39 (s.setVm T501.vm).vm := State.Warmed39.trans (t := (s.setVm s.vm)) hZ hS501.1
  have hown501 : (s.setVm T501.vm).vm.findClass "com/example/suretygate/suretygate/rolemodel/CabinetFunctionIsSigningPinLaw" = some m.cls := by rw [show (s.setVm T501.vm).vm = T501.vm from rfl, hS501.1.alike.findClass]; exact hown
  replace hS501 := foldS hS (by exact hkk498) hS501 gr501
  have hk501 := Nat.le_refl T501.heap.size
  replace X501 : Stand p l e room_1 (s.setVm T501.vm) m #[(.int p1), (.int p2), (.int p3), (.int p4), (.int p5), (.int p6)] below meth c T501 _ _ _ := X501
  obtain ⟨r501, rfl, Nq501, E501, hr501⟩ := hQ501
  have N501 := Fr.app N493 Nq501
  have k502 : Rch p e below S0 T501 (mkF m 250 #[.val (.int p1), .val (.int p2), .val (.int p3), .val (.int p4), .val (.int p5), .val (.int p6), .val (.int c405), .val (.int c408), .val (.int c411), .val (.int (3 : Int32)), .val (.ref b414), .val (.int kk), .val (.ref wK), .val (.ref b465), .val (.ref b473), .val (.ref b481), .val (.ref b486), .val (.int (1 : Int32))] [(.int r501)]) := fun t h => k500 t (st501.trans h)
  replace sf_b414 := hR501.safe E_b414.lt sf_b414
  replace sf_b420 := hR501.safe V_b420.lt sf_b420
  replace sf_b486 := hR501.safe E_b486.lt sf_b486
  have hC503 := hR501.1
  have rC503 := rC495.trans hR501
  have O504 := O497.ext E501
  replace E_b414 := E_b414.ext E501
  replace Vb444 := Vb444.ext E501
  replace Cb444 := Cb444.ext E501
  replace V_b420 := V_b420.ext E501
  replace Ab444 := Ab444.ext E501
  replace X465E := X465E.ext E501
  replace X473E := X473E.ext E501
  replace X481E := X481E.ext E501
  replace E_b486 := E_b486.ext E501
  replace Fs493 := Fs493.ext E501
  obtain rfl : r501 = (1 : Int32) := by
    rcases hr501 with ⟨q, hq⟩ | ⟨q, hq⟩
    · exact absurd hq (by simp)
    · exact q
  have k505 : Rch p e below S0 T501 (mkF m 260 #[.val (.int p1), .val (.int p2), .val (.int p3), .val (.int p4), .val (.int p5), .val (.int p6), .val (.int c405), .val (.int c408), .val (.int c411), .val (.int (3 : Int32)), .val (.ref b414), .val (.int kk), .val (.ref wK), .val (.ref b465), .val (.ref b473), .val (.ref b481), .val (.ref b486), .val (.int (1 : Int32))] [(.int (1 : Int32))]) := fun t h => k502 t (by
      show Steps p.tables e below (T501.setTop (mkF m 250 #[.val (.int p1), .val (.int p2), .val (.int p3), .val (.int p4), .val (.int p5), .val (.int p6), .val (.int c405), .val (.int c408), .val (.int c411), .val (.int (3 : Int32)), .val (.ref b414), .val (.int kk), .val (.ref wK), .val (.ref b465), .val (.ref b473), .val (.ref b481), .val (.ref b486), .val (.int (1 : Int32))] [(.int (1 : Int32))])) _
      refine XS.iload X501.here hx rfl (hb hby at_250) rfl ?_
      show Steps p.tables e below (T501.setTop (mkF m 252 #[.val (.int p1), .val (.int p2), .val (.int p3), .val (.int p4), .val (.int p5), .val (.int p6), .val (.int c405), .val (.int c408), .val (.int c411), .val (.int (3 : Int32)), .val (.ref b414), .val (.int kk), .val (.ref wK), .val (.ref b465), .val (.ref b473), .val (.ref b481), .val (.ref b486), .val (.int (1 : Int32))] [(.int (1 : Int32)), (.int (1 : Int32))])) _
      refine XS.icmpNo X501.here hx rfl (hb hby at_252) rfl (teq (by decide : (1 : Int32) = (1 : Int32))).2 ?_
      show Steps p.tables e below (T501.setTop (mkF m 255 #[.val (.int p1), .val (.int p2), .val (.int p3), .val (.int p4), .val (.int p5), .val (.int p6), .val (.int c405), .val (.int c408), .val (.int c411), .val (.int (3 : Int32)), .val (.ref b414), .val (.int kk), .val (.ref wK), .val (.ref b465), .val (.ref b473), .val (.ref b481), .val (.ref b486), .val (.int (1 : Int32))] [])) _
      refine XS.iconst X501.here hx rfl (hb hby at_255) ?_
      show Steps p.tables e below (T501.setTop (mkF m 256 #[.val (.int p1), .val (.int p2), .val (.int p3), .val (.int p4), .val (.int p5), .val (.int p6), .val (.int c405), .val (.int c408), .val (.int c411), .val (.int (3 : Int32)), .val (.ref b414), .val (.int kk), .val (.ref wK), .val (.ref b465), .val (.ref b473), .val (.ref b481), .val (.ref b486), .val (.int (1 : Int32))] [(.int (1 : Int32))])) _
      refine XS.goto X501.here hx rfl (pc0 := 256) (pc' := 260) rfl (hb hby at_256) (by decide) (by decide) ?_
      show Steps p.tables e below (T501.setTop (mkF m 260 #[.val (.int p1), .val (.int p2), .val (.int p3), .val (.int p4), .val (.int p5), .val (.int p6), .val (.int c405), .val (.int c408), .val (.int c411), .val (.int (3 : Int32)), .val (.ref b414), .val (.int kk), .val (.ref wK), .val (.ref b465), .val (.ref b473), .val (.ref b481), .val (.ref b486), .val (.int (1 : Int32))] [(.int (1 : Int32))])) _
      exact h)
  obtain ⟨fs, hr, hrun, hended, hfin⟩ := X501.leaveW hS501 (by exact hk501) (v := (some (.int (1 : Int32)))) (fun h => by rw [Bd.returns] at h; cases h)
  refine ⟨_, _, ?_, hrun, hended, _, _, rfl, ?_, (by rw [hh]; have q := own_chr rC503 (CHv.at X501 hZ501 hEL hC503) rfl; exact q), hfin.1, hfin.2.1, hfin.2.2.1, hfin.2.2.2.mono (by decide) (by decide)⟩
  · rw [← hS0]
    refine k505 _ ?_
    show Steps p.tables e below (T501.setTop (mkF m 260 #[.val (.int p1), .val (.int p2), .val (.int p3), .val (.int p4), .val (.int p5), .val (.int p6), .val (.int c405), .val (.int c408), .val (.int c411), .val (.int (3 : Int32)), .val (.ref b414), .val (.int kk), .val (.ref wK), .val (.ref b465), .val (.ref b473), .val (.ref b481), .val (.ref b486), .val (.int (1 : Int32))] [(.int (1 : Int32))])) _
    exact retN X501 hx (t := .boolean) Bd.returns (by simp) (hb hby at_260) hr
  · show Q_rm0_3 Z  h0 n0 _ T501.heap _
    exact ⟨rfl, N501⟩
theorem own_all (l : Launch) (Z : State) (a0 : Array Value) (hw : ∀ d ∈ tables_1, d.before a0 Z = true) (ws : List Jvm.Cond) (p1 : Int32) (p2 : Int32) (p3 : Int32) (p4 : Int32) (p5 : Int32) (p6 : Int32) (zC : Int32) (wM : Addr) (wP : Addr) (wA : Addr) (h0 : Heap) (n0 : Nat) (O0 : Old Z n0 h0) (SC : Sta Z Z.heap "java/lang/String" "COMPACT_STRINGS" "Z" (.int zC)) (hzC : ¬ zC = 0) (SM : Sta Z Z.heap "com/example/suretygate/suretygate/rolemodel/CabinetFunction$Kind" "MENU" "Lcom/example/suretygate/suretygate/rolemodel/CabinetFunction$Kind;" (.ref wM)) (SP : Sta Z Z.heap "com/example/suretygate/suretygate/rolemodel/CabinetFunction$Kind" "PAGE" "Lcom/example/suretygate/suretygate/rolemodel/CabinetFunction$Kind;" (.ref wP)) (SA : Sta Z Z.heap "com/example/suretygate/suretygate/rolemodel/CabinetFunction$Kind" "ACTION" "Lcom/example/suretygate/suretygate/rolemodel/CabinetFunction$Kind;" (.ref wA)) :
    MetFree l x (head1 (Jvm.Cond.code x code maxLocals ret :: ws) room_1) (fun a U => a = #[(.int p1), (.int p2), (.int p3), (.int p4), (.int p5), (.int p6)] ∧ Z.Warmed39 U.vm ∧ U.heap = h0 ∧ CHv Z consts_1 U.vm h0) (fun _ _ _ _ _ => True) (fun _ U o U' => ∃ v L, o = .returned v ∧ Q_rm0_0 Z h0 n0 v U'.heap L ∧ CHr Z consts_1 U.vm U.heap U'.vm U'.heap ∧ ReturnedEndW U o U' L room_1.cells room_1.slots) := by
  rcases own_and3 p1 with c | c | c | c
  · exact rm0_0 l Z a0 hw ws p1 p2 p3 p4 p5 p6 zC wM wP wA h0 n0 O0 SC hzC SM SP SA c
  · exact rm0_1 l Z a0 hw ws p1 p2 p3 p4 p5 p6 zC wM wP wA h0 n0 O0 SC hzC SM SP SA c
  · exact rm0_2 l Z a0 hw ws p1 p2 p3 p4 p5 p6 zC wM wP wA h0 n0 O0 SC hzC SM SP SA c
  · exact rm0_3 l Z a0 hw ws p1 p2 p3 p4 p5 p6 zC wM wP wA h0 n0 O0 SC hzC SM SP SA c
set_option maxRecDepth 65536 in
set_option maxHeartbeats 40000000 in
theorem comes_1 {Post : Tables → Env → Array Value → State → Outcome → State → Prop} (hpost : ∀ tb e args s v u, (limb_1_1.after args s (.returned v) u = true ∧ limb_1_2.after args s (.returned v) u = true ∧ True) → ReturnedEndW s (.returned v) u (Jvm.fieldLocs frame_1_writes args s ++ Jvm.arrayLocs frame_1_arrays args s ++ Jvm.staticLocs frame_1_statics s) 32 2240 → Post tb e args s (.returned v) u) :
    ArmFor flags0 classFile x code maxLocals ret World_1 tables_1 room_1 Calls_1 rest_1 Pre_1 Post := by
  intro l hfl _ _ p e ha hc hk s m args below hf hA hF happ hP
  obtain ⟨hcalls, hrest, hpre⟩ := hP
  obtain ⟨-, -, -, hnamed, -, -, -, hat⟩ := (Spec.applies_iff hf).mp happ
  obtain ⟨hg, hn⟩ := and_e (Cond.before_iff.mp (show (Jvm.Cond.and given_1 narrow_1).before args s = true from hpre))
  obtain ⟨g_0, g_1⟩ := and_e hg
  obtain ⟨gi_0, gr_0⟩ := and_e g_1
  obtain ⟨gi_1, gr_1⟩ := and_e gr_0
  obtain ⟨gi_2, gr_2⟩ := and_e gr_1
  obtain ⟨gi_3, gr_3⟩ := and_e gr_2
  obtain ⟨gi_4, gr_4⟩ := and_e gr_3
  obtain ⟨w0, w1, w2, w3, w4, w5, rfl⟩ : ∃ w0 w1 w2 w3 w4 w5 : Value, args = #[w0, w1, w2, w3, w4, w5] := by
    have hs : args.size = 6 := by simpa [Cond.value, given_1] using g_0
    obtain ⟨L⟩ := args
    match L, hs with
    | [w0, w1, w2, w3, w4, w5], _ => exact ⟨w0, w1, w2, w3, w4, w5, rfl⟩
  have hw := fun d (hd : d ∈ tables_1) => atoms_spec (ws := Jvm.Cond.code x code maxLocals ret :: tables_1) hat d (List.mem_cons_of_mem _ hd)
  have hfit : Fit s := fun {y c} hc i hi => by
    obtain ⟨ha, rfl⟩ := Array.getElem?_eq_some_iff.mp hc
    have q := List.all_eq_true.mp ((Array.all_eq_true_iff_forall_mem.mp hF) _ (Array.getElem_mem ha)) i (List.mem_range.mpr hi)
    simpa [Array.getElem?_eq_getElem hi] using q
  obtain ⟨i0, ei0⟩ := is_v gi_0
  obtain rfl : w0 = (.int i0) := Option.some.inj ei0
  obtain ⟨i1, ei1⟩ := is_v gi_1
  obtain rfl : w1 = (.int i1) := Option.some.inj ei1
  obtain ⟨i2, ei2⟩ := is_v gi_2
  obtain rfl : w2 = (.int i2) := Option.some.inj ei2
  obtain ⟨i3, ei3⟩ := is_v gi_3
  obtain rfl : w3 = (.int i3) := Option.some.inj ei3
  obtain ⟨i4, ei4⟩ := is_v gi_4
  obtain rfl : w4 = (.int i4) := Option.some.inj ei4
  obtain ⟨i5, ei5⟩ := is_v gr_4
  obtain rfl : w5 = (.int i5) := Option.some.inj ei5
  obtain ⟨hsets, hown0⟩ := atoms_of _ (rest_1_c_eq ▸ (show rest_1_c.before _ s = true from hrest))
  have hr0 := Cond.before_iff.mp hown0
  obtain ⟨xM, hn⟩ := and_e hn
  obtain ⟨xA, xP⟩ := and_e hn
  obtain ⟨wM, vM⟩ := exa_v xM
  have SM := Sta.start vM (Or.inr ⟨(hw _ (List.mem_of_getElem? (i := 28) rfl)), (hw _ (List.mem_of_getElem? (i := 29) rfl))⟩)
  obtain ⟨wA, vA⟩ := exa_v xA
  have SA := Sta.start vA (Or.inr ⟨(hw _ (List.mem_of_getElem? (i := 28) rfl)), (hw _ (List.mem_of_getElem? (i := 82) rfl))⟩)
  obtain ⟨wP, vP⟩ := exa_v xP
  have SP := Sta.start vP (Or.inr ⟨(hw _ (List.mem_of_getElem? (i := 28) rfl)), (hw _ (List.mem_of_getElem? (i := 94) rfl))⟩)
  obtain ⟨zC, eC⟩ := is_v (Cond.before_iff.mp (hsets _ (List.mem_of_getElem? (i := 1) rfl)))
  have SC := Sta.start eC (Or.inl (hsets _ (List.mem_of_getElem? (i := 0) rfl)))
  have hzC : ¬ zC = 0 := fun q => by
    have u := not_v (Cond.before_iff.mp (hsets _ (List.mem_of_getElem? (i := 2) rfl)))
    simp only [Cond.value, eC, Term.int_eval, q] at u
    simp at u
  have hEL : EW s _ consts_1 := (EW.cons (hw _ (List.mem_of_getElem? (i := 72) rfl)) (by decide +kernel) (EW.cons (hw _ (List.mem_of_getElem? (i := 18) rfl)) (by decide +kernel) EW.nil))
  have hCH : CHv s consts_1 s.vm s.heap := CHv.start hEL (fun p hp => hcalls.1 p hp) (hsets _ (List.mem_of_getElem? (i := 2) rfl)) (hw _ (List.mem_of_getElem? (i := 19) rfl)) (hw _ (List.mem_of_getElem? (i := 5) rfl))
  obtain ⟨n, o, h1, h2, h3, _, L, rfl, ⟨rfl, N⟩, -, hq⟩ := own_all l s _ hw tables_1 i0 i1 i2 i3 i4 i5 zC wM wP wA s.heap s.heap.size (Old.start s) SC hzC SM SP SA p e ha hc hk s m _ below hf ((Spec.applies_iff_loose hf).mp happ).1 ⟨rfl, State.Warmed39.refl s, rfl, hCH⟩ trivial
  refine ⟨n, _, h1, h2, h3, hpost _ _ _ _ _ _ ⟨Cond.after_iff.mpr rfl, Cond.after_iff.mpr (eq_i res_at (Term.int_eval (1)) rfl), trivial⟩ ⟨hq.1, hq.2.1, hq.2.2.1, (hq.2.2.2.sift fun y hy => Or.inr (N y hy)).mono (by decide) (by decide)⟩⟩
theorem main_1_1 : Claimed_1_1 := comes_1 fun _ _ _ _ _ _ h hF => ⟨h.1, hF⟩
theorem main_1_2 : Claimed_1_2 := comes_1 fun _ _ _ _ _ _ h hF => ⟨h.2.1, hF⟩
end Jvm.Pilot.@@N@@
namespace Jvm.Pilot.@@N@@
open Jvm Jvm.ClassFile Sem Op Lib Jvm.Free Jvm.Stand Jvm.Pilot.@@N@@.Jvm.D
/-! MADE BY PROGRAM (witnessworld.py) out of the Statement's table words and the real class files: 23 classes; the members and pool entries that the words name. The judged class is class 1, her method 1. -/
namespace start1
open Jvm.ClassFile
def u (s : String) : CpInfo := .utf8 (stringToUtf16 s)
/-- a pool by its gaps: so many unusable entries, then the entry; so many at the end -/
def gap : Nat → List CpInfo → List CpInfo
  | 0, r => r
  | n + 1, r => .unusable :: gap n r
def poolList (es : List (Nat × CpInfo)) (last : Nat) : List CpInfo := es.foldr (fun e r => gap e.1 (e.2 :: r)) (gap last [])
def pool (es : List (Nat × CpInfo)) (last : Nat) : Array CpInfo := ⟨poolList es last⟩
def fileOf (pool : Array CpInfo) (this : Nat) (attrs : Array Attribute := #[]) (ms : Array MethodInfo := #[]) (fl : Nat := 33) (sup : Nat := 0) (ifs : Array Nat := #[]) (fds : Array FieldInfo := #[]) : ClassFile where
  minorVersion := 0
  majorVersion := 65
  constantPool := pool
  accessFlags := fl
  thisClass := this
  superClass := sup
  interfaces := ifs
  fields := fds
  methods := ms
  attributes := attrs
def plain (name : String) (sup : Option ClassId) : Class where
  name := name
  kind := .ordinary
  loader := none
  accessFlags := 33
  super := sup
  interfaces := #[]
  cf := none
  fields := #[]
  methods := #[]
  instanceTypes := #[]
  staticTypes := #[]
  resolved := #[]
  callSites := []
  init := .initialized
  statics := none
  mirror := none

def pool0 : Array CpInfo := pool [(5, u "<init>"), (0, u "()V"), (1, .class_ 10), (1, u "java/lang/Object")] 113

def k0c0 : Code := { maxStack := 0, maxLocals := 1, code := object_method_1_code, exceptionTable := #[], attributes := #[] }
def k0m0 : Method := { name := "<init>", desc := "()V", sig := { parameters := [], returnType := none }, accessFlags := 1, code := some k0c0 }
/-- java/lang/Object -/
def k0 : Class := { plain "java/lang/Object" none with
  accessFlags := 33
  interfaces := #[]
  cf := some (fileOf pool0 8 #[] #[{ accessFlags := 1, nameIndex := 5, descriptorIndex := 6, attributes := #[] }] 33 0 #[] #[])
  fields := #[]
  methods := #[k0m0]
  instanceTypes := #[]
  staticTypes := #[]
  resolved := Array.replicate 124 none
  statics := none }

def pool1 : Array CpInfo := pool [(2, .class_ 4), (1, u "java/lang/Object"), (0, u "<init>"), (0, u "()V"), (0, .methodref 8 9), (0, .class_ 10), (0, .nameAndType 11 12), (0, u "com/example/suretygate/suretygate/rolemodel/CabinetFunctionIsSigningPinLaw"), (0, u "pick"), (0, u "(I)C"), (0, .class_ 14), (0, u "java/lang/String"), (0, .methodref 13 16), (0, .nameAndType 5 17), (0, u "([C)V"), (0, .integer 2147483647), (0, .fieldref 20 21), (0, .class_ 22), (0, .nameAndType 23 24), (0, u "com/example/suretygate/suretygate/rolemodel/CabinetFunction$Kind"), (0, u "MENU"), (0, u "Lcom/example/suretygate/suretygate/rolemodel/CabinetFunction$Kind;"), (0, .fieldref 20 26), (0, .nameAndType 27 24), (0, u "PAGE"), (0, .fieldref 20 29), (0, .nameAndType 30 24), (0, u "ACTION"), (0, .methodref 13 32), (0, .nameAndType 33 34), (0, u "valueOf"), (0, u "(C)Ljava/lang/String;"), (0, .class_ 36), (0, u "com/example/suretygate/suretygate/rolemodel/CabinetFunction"), (0, .methodref 35 38), (0, .nameAndType 5 39), (0, u "(Ljava/lang/String;Lcom/example/suretygate/suretygate/rolemodel/CabinetFunction$Kind;Ljava/lang/String;Ljava/lang/String;Ljava/lang/String;)V"), (0, .methodref 35 41), (0, .nameAndType 42 43), (0, u "isSigning"), (0, u "()Z"), (2, u "law"), (0, u "(IIIIII)Z")] 5

def k1m0 : Method := { name := "<init>", desc := "()V", sig := { parameters := [], returnType := none }, accessFlags := 1, code := none }
def k1c1 : Code := { maxStack := 7, maxLocals := 18, code := code, exceptionTable := #[], attributes := #[] }
def k1m1 : Method := { name := "law", desc := "(IIIIII)Z", sig := { parameters := [.int, .int, .int, .int, .int, .int], returnType := some .boolean }, accessFlags := 9, code := some k1c1 }
def k1c2 : Code := { maxStack := 2, maxLocals := 1, code := method_3_code, exceptionTable := #[], attributes := #[] }
def k1m2 : Method := { name := "pick", desc := "(I)C", sig := { parameters := [.int], returnType := some .char }, accessFlags := 10, code := some k1c2 }
/-- com/example/suretygate/suretygate/rolemodel/CabinetFunctionIsSigningPinLaw -/
def k1 : Class := { plain "com/example/suretygate/suretygate/rolemodel/CabinetFunctionIsSigningPinLaw" (some 0) with
  accessFlags := 49
  interfaces := #[]
  cf := some (fileOf pool1 8 #[] #[{ accessFlags := 1, nameIndex := 5, descriptorIndex := 6, attributes := #[] }, { accessFlags := 9, nameIndex := 46, descriptorIndex := 47, attributes := #[] }, { accessFlags := 10, nameIndex := 11, descriptorIndex := 12, attributes := #[] }] 49 2 #[] #[])
  fields := #[]
  methods := #[k1m0, k1m1, k1m2]
  instanceTypes := #[]
  staticTypes := #[]
  resolved := Array.replicate 53 none
  statics := none }

def pool2 : Array CpInfo := pool [(1, .class_ 2), (0, u "java/io/Serializable"), (0, .class_ 4), (0, u "java/lang/Object")] 2

/-- java/io/Serializable -/
def k2 : Class := { plain "java/io/Serializable" (some 0) with
  accessFlags := 1537
  interfaces := #[]
  cf := some (fileOf pool2 1 #[] #[] 1537 3 #[] #[])
  fields := #[]
  methods := #[]
  instanceTypes := #[]
  staticTypes := #[]
  resolved := Array.replicate 7 none
  statics := none }

def pool3 : Array CpInfo := pool [(1, .class_ 2), (0, u "java/lang/Comparable"), (0, .class_ 4), (0, u "java/lang/Object")] 7

/-- java/lang/Comparable -/
def k3 : Class := { plain "java/lang/Comparable" (some 0) with
  accessFlags := 1537
  interfaces := #[]
  cf := some (fileOf pool3 1 #[] #[] 1537 3 #[] #[])
  fields := #[]
  methods := #[]
  instanceTypes := #[]
  staticTypes := #[]
  resolved := Array.replicate 12 none
  statics := none }

def pool4 : Array CpInfo := pool [(2, .class_ 4), (1, u "java/lang/CharSequence"), (42, .class_ 48), (0, u "java/lang/CharSequence$1CodePointIterator"), (10, .class_ 60), (0, u "java/lang/CharSequence$1CharIterator"), (5, .class_ 67), (0, u "java/lang/Object")] 63

/-- java/lang/CharSequence -/
def k4 : Class := { plain "java/lang/CharSequence" (some 0) with
  accessFlags := 1537
  interfaces := #[]
  cf := some (fileOf pool4 2 #[.nestMembers #[47, 59]] #[] 1537 66 #[] #[])
  fields := #[]
  methods := #[]
  instanceTypes := #[]
  staticTypes := #[]
  resolved := Array.replicate 131 none
  statics := none }

def pool5 : Array CpInfo := pool [(1, .class_ 2), (0, u "java/lang/constant/Constable"), (0, .class_ 4), (0, u "java/lang/Object")] 6

/-- java/lang/constant/Constable -/
def k5 : Class := { plain "java/lang/constant/Constable" (some 0) with
  accessFlags := 1537
  interfaces := #[]
  cf := some (fileOf pool5 1 #[] #[] 1537 3 #[] #[])
  fields := #[]
  methods := #[]
  instanceTypes := #[]
  staticTypes := #[]
  resolved := Array.replicate 11 none
  statics := none }

def pool6 : Array CpInfo := pool [(1, .class_ 2), (0, u "java/lang/constant/ConstantDesc"), (0, .class_ 4), (0, u "java/lang/Object")] 32

/-- java/lang/constant/ConstantDesc -/
def k6 : Class := { plain "java/lang/constant/ConstantDesc" (some 0) with
  accessFlags := 1537
  interfaces := #[]
  cf := some (fileOf pool6 1 #[] #[] 1537 3 #[] #[])
  fields := #[]
  methods := #[]
  instanceTypes := #[]
  staticTypes := #[]
  resolved := Array.replicate 37 none
  statics := none }

def pool7 : Array CpInfo := pool [(1, .methodref 2 3), (0, .class_ 4), (0, .nameAndType 5 6), (0, u "java/lang/Object"), (0, u "<init>"), (0, u "()V"), (0, .string 8), (0, u ""), (0, .fieldref 10 11), (0, .class_ 12), (0, .nameAndType 13 14), (0, u "java/lang/String"), (0, u "value"), (0, u "[B"), (0, .fieldref 10 16), (0, .nameAndType 17 18), (0, u "coder"), (0, u "B"), (2, u "hash"), (0, u "I"), (2, u "hashIsZero"), (0, u "Z"), (0, .methodref 10 28), (0, .nameAndType 5 29), (0, u "([CIILjava/lang/Void;)V"), (8, .fieldref 10 39), (0, .nameAndType 40 26), (0, u "COMPACT_STRINGS"), (1, .class_ 44), (1, u "java/lang/StringUTF16"), (0, u "compress"), (1, .methodref 42 48), (0, .nameAndType 49 50), (0, u "coderFromArrayLen"), (0, u "([BI)B"), (2, u "toBytes"), (53, .class_ 109), (1, u "java/lang/StringLatin1"), (67, .methodref 42 178), (0, .nameAndType 45 179), (0, u "([CII)[B"), (29, .methodref 10 210), (0, .nameAndType 5 211), (0, u "([BB)V"), (157, u "(C)Z"), (171, .methodref 107 542), (0, .nameAndType 543 544), (0, u "equals"), (0, u "([B[B)Z"), (28, u "(Ljava/lang/Object;)Z"), (1, .class_ 576), (0, u "java/lang/CharSequence"), (22, u "CASE_INSENSITIVE_ORDER"), (0, u "Ljava/util/Comparator;"), (181, u "valueOf"), (0, u "(C)Ljava/lang/String;"), (226, u "([C)V"), (4, .methodref 107 1016), (0, .nameAndType 1017 369), (0, u "canEncode"), (0, .methodref 107 1019), (0, .nameAndType 53 1020), (0, u "(C)[B"), (80, u "serialPersistentFields"), (0, u "[Ljava/io/ObjectStreamField;"), (0, .class_ 1104), (0, u "java/lang/String$CaseInsensitiveComparator"), (1, .class_ 1107), (0, u "java/io/Serializable"), (0, .class_ 1109), (0, u "java/lang/Comparable"), (0, .class_ 1111), (0, u "java/lang/constant/Constable"), (0, .class_ 1113), (0, u "java/lang/constant/ConstantDesc"), (2, u "serialVersionUID"), (0, u "J"), (3, u "REPL"), (0, u "C"), (2, u "LATIN1"), (1, u "UTF16")] 323

def k7m0 : Method := { name := "<init>", desc := "()V", sig := { parameters := [], returnType := none }, accessFlags := 1, code := none }
def k7c1 : Code := { maxStack := 5, maxLocals := 2, code := jdk_42_method_3_code, exceptionTable := #[], attributes := #[] }
def k7m1 : Method := { name := "<init>", desc := "([C)V", sig := { parameters := [(.array .char)], returnType := none }, accessFlags := 1, code := some k7c1 }
def k7c2 : Code := { maxStack := 2, maxLocals := 3, code := jdk_42_method_66_code, exceptionTable := #[], attributes := #[] }
def k7m2 : Method := { name := "equals", desc := "(Ljava/lang/Object;)Z", sig := { parameters := [(.object "java/lang/Object")], returnType := some .boolean }, accessFlags := 1, code := some k7c2 }
def k7c3 : Code := { maxStack := 4, maxLocals := 1, code := jdk_42_method_139_code, exceptionTable := #[], attributes := #[] }
def k7m3 : Method := { name := "valueOf", desc := "(C)Ljava/lang/String;", sig := { parameters := [.char], returnType := some (.object "java/lang/String") }, accessFlags := 9, code := some k7c3 }
def k7c4 : Code := { maxStack := 4, maxLocals := 6, code := jdk_42_method_149_code, exceptionTable := #[], attributes := #[] }
def k7m4 : Method := { name := "<init>", desc := "([CIILjava/lang/Void;)V", sig := { parameters := [(.array .char), .int, .int, (.object "java/lang/Void")], returnType := none }, accessFlags := 2, code := some k7c4 }
def k7c5 : Code := { maxStack := 2, maxLocals := 3, code := jdk_42_method_151_code, exceptionTable := #[], attributes := #[] }
def k7m5 : Method := { name := "<init>", desc := "([BB)V", sig := { parameters := [(.array .byte), .byte], returnType := none }, accessFlags := 0, code := some k7c5 }
/-- java/lang/String -/
def k7 : Class := { plain "java/lang/String" (some 0) with
  accessFlags := 49
  interfaces := #[2, 3, 4, 5, 6]
  cf := some (fileOf pool7 10 #[.nestMembers #[1103]] #[{ accessFlags := 1, nameIndex := 5, descriptorIndex := 6, attributes := #[] }, { accessFlags := 1, nameIndex := 5, descriptorIndex := 1010, attributes := #[] }, { accessFlags := 1, nameIndex := 543, descriptorIndex := 573, attributes := #[] }, { accessFlags := 9, nameIndex := 782, descriptorIndex := 783, attributes := #[] }, { accessFlags := 2, nameIndex := 5, descriptorIndex := 29, attributes := #[] }, { accessFlags := 0, nameIndex := 5, descriptorIndex := 211, attributes := #[] }] 49 2 #[1106, 1108, 575, 1110, 1112] #[{ accessFlags := 18, nameIndex := 13, descriptorIndex := 14, attributes := #[] }, { accessFlags := 18, nameIndex := 17, descriptorIndex := 18, attributes := #[] }, { accessFlags := 2, nameIndex := 21, descriptorIndex := 22, attributes := #[] }, { accessFlags := 2, nameIndex := 25, descriptorIndex := 26, attributes := #[] }, { accessFlags := 26, nameIndex := 1116, descriptorIndex := 1117, attributes := #[] }, { accessFlags := 24, nameIndex := 40, descriptorIndex := 26, attributes := #[] }, { accessFlags := 26, nameIndex := 1101, descriptorIndex := 1102, attributes := #[] }, { accessFlags := 26, nameIndex := 1121, descriptorIndex := 1122, attributes := #[] }, { accessFlags := 25, nameIndex := 599, descriptorIndex := 600, attributes := #[] }, { accessFlags := 24, nameIndex := 1125, descriptorIndex := 18, attributes := #[] }, { accessFlags := 24, nameIndex := 1127, descriptorIndex := 18, attributes := #[] }])
  fields := #[{ name := "value", type := (.array .byte), accessFlags := 18, slot := 0, constantValue := 0 }, { name := "coder", type := .byte, accessFlags := 18, slot := 1, constantValue := 0 }, { name := "hash", type := .int, accessFlags := 2, slot := 2, constantValue := 0 }, { name := "hashIsZero", type := .boolean, accessFlags := 2, slot := 3, constantValue := 0 }, { name := "serialVersionUID", type := .long, accessFlags := 26, slot := 0, constantValue := 0 }, { name := "COMPACT_STRINGS", type := .boolean, accessFlags := 24, slot := 1, constantValue := 0 }, { name := "serialPersistentFields", type := (.array (.object "java/io/ObjectStreamField")), accessFlags := 26, slot := 2, constantValue := 0 }, { name := "REPL", type := .char, accessFlags := 26, slot := 3, constantValue := 0 }, { name := "CASE_INSENSITIVE_ORDER", type := (.object "java/util/Comparator"), accessFlags := 25, slot := 4, constantValue := 0 }, { name := "LATIN1", type := .byte, accessFlags := 24, slot := 5, constantValue := 0 }, { name := "UTF16", type := .byte, accessFlags := 24, slot := 6, constantValue := 0 }]
  methods := #[k7m0, k7m1, k7m2, k7m3, k7m4, k7m5]
  instanceTypes := #[(.array .byte), .byte, .int, .boolean]
  staticTypes := #[.long, .boolean, (.array (.object "java/io/ObjectStreamField")), .char, (.object "java/util/Comparator"), .byte, .byte]
  resolved := Array.replicate 1451 none
  statics := some 0 }

def pool8 : Array CpInfo := pool [(2, .class_ 4), (1, u "java/lang/Enum"), (0, u "name"), (0, u "Ljava/lang/String;"), (2, u "ordinal"), (0, u "I"), (1, .class_ 14), (1, u "java/lang/Object"), (4, u "hash"), (86, .class_ 108), (1, u "java/lang/Enum$EnumDesc"), (2, .class_ 112), (0, u "java/lang/constant/Constable"), (0, .class_ 114), (0, u "java/lang/Comparable"), (0, .class_ 116), (0, u "java/io/Serializable")] 87

/-- java/lang/Enum -/
def k8 : Class := { plain "java/lang/Enum" (some 0) with
  accessFlags := 1057
  interfaces := #[5, 3, 2]
  cf := some (fileOf pool8 2 #[.nestMembers #[106]] #[] 1057 12 #[111, 113, 115] #[{ accessFlags := 18, nameIndex := 5, descriptorIndex := 6, attributes := #[] }, { accessFlags := 18, nameIndex := 9, descriptorIndex := 10, attributes := #[] }, { accessFlags := 2, nameIndex := 19, descriptorIndex := 10, attributes := #[] }])
  fields := #[{ name := "name", type := (.object "java/lang/String"), accessFlags := 18, slot := 0, constantValue := 0 }, { name := "ordinal", type := .int, accessFlags := 18, slot := 1, constantValue := 0 }, { name := "hash", type := .int, accessFlags := 2, slot := 2, constantValue := 0 }]
  methods := #[]
  instanceTypes := #[(.object "java/lang/String"), .int, .int]
  staticTypes := #[]
  resolved := Array.replicate 204 none
  statics := none }

def pool9 : Array CpInfo := pool [(1, .class_ 2), (0, u "com/example/suretygate/suretygate/rolemodel/CabinetFunction$Kind"), (2, u "MENU"), (0, u "Lcom/example/suretygate/suretygate/rolemodel/CabinetFunction$Kind;"), (2, u "PAGE"), (2, u "ACTION"), (2, u "$VALUES"), (0, u "[Lcom/example/suretygate/suretygate/rolemodel/CabinetFunction$Kind;"), (6, .class_ 25), (1, u "java/lang/Enum"), (8, u "word"), (0, u "Ljava/lang/String;"), (31, .class_ 68), (0, u "com/example/suretygate/suretygate/rolemodel/CabinetFunction")] 2

/-- com/example/suretygate/suretygate/rolemodel/CabinetFunction$Kind -/
def k9 : Class := { plain "com/example/suretygate/suretygate/rolemodel/CabinetFunction$Kind" (some 8) with
  accessFlags := 16433
  interfaces := #[]
  cf := some (fileOf pool9 1 #[.nestHost 67] #[] 16433 23 #[] #[{ accessFlags := 16409, nameIndex := 5, descriptorIndex := 6, attributes := #[] }, { accessFlags := 16409, nameIndex := 9, descriptorIndex := 6, attributes := #[] }, { accessFlags := 16409, nameIndex := 12, descriptorIndex := 6, attributes := #[] }, { accessFlags := 18, nameIndex := 34, descriptorIndex := 35, attributes := #[] }, { accessFlags := 4122, nameIndex := 15, descriptorIndex := 16, attributes := #[] }])
  fields := #[{ name := "MENU", type := (.object "com/example/suretygate/suretygate/rolemodel/CabinetFunction$Kind"), accessFlags := 16409, slot := 0, constantValue := 0 }, { name := "PAGE", type := (.object "com/example/suretygate/suretygate/rolemodel/CabinetFunction$Kind"), accessFlags := 16409, slot := 1, constantValue := 0 }, { name := "ACTION", type := (.object "com/example/suretygate/suretygate/rolemodel/CabinetFunction$Kind"), accessFlags := 16409, slot := 2, constantValue := 0 }, { name := "word", type := (.object "java/lang/String"), accessFlags := 18, slot := 3, constantValue := 0 }, { name := "$VALUES", type := (.array (.object "com/example/suretygate/suretygate/rolemodel/CabinetFunction$Kind")), accessFlags := 4122, slot := 3, constantValue := 0 }]
  methods := #[]
  instanceTypes := #[(.object "java/lang/String"), .int, .int, (.object "java/lang/String")]
  staticTypes := #[(.object "com/example/suretygate/suretygate/rolemodel/CabinetFunction$Kind"), (.object "com/example/suretygate/suretygate/rolemodel/CabinetFunction$Kind"), (.object "com/example/suretygate/suretygate/rolemodel/CabinetFunction$Kind"), (.array (.object "com/example/suretygate/suretygate/rolemodel/CabinetFunction$Kind"))]
  resolved := Array.replicate 71 none
  statics := some 1 }

def pool10 : Array CpInfo := pool [(4, .class_ 6), (1, u "java/lang/Object"), (0, u "<init>"), (0, u "()V"), (5, .class_ 16), (1, u "java/lang/StringLatin1"), (73, u "canEncode"), (14, u "(C)Z"), (15, u "$assertionsDisabled"), (0, u "Z"), (98, .class_ 223), (1, u "java/lang/StringLatin1$LinesSpliterator"), (57, u "equals"), (0, u "([B[B)Z"), (97, u "toBytes"), (1, u "(C)[B"), (7, .class_ 391), (0, u "java/lang/StringLatin1$CharsSpliterator")] 3

def k10m0 : Method := { name := "<init>", desc := "()V", sig := { parameters := [], returnType := none }, accessFlags := 0, code := none }
def k10c1 : Code := { maxStack := 2, maxLocals := 1, code := jdk_43_method_3_code, exceptionTable := #[], attributes := #[] }
def k10m1 : Method := { name := "canEncode", desc := "(C)Z", sig := { parameters := [.char], returnType := some .boolean }, accessFlags := 9, code := some k10c1 }
def k10c2 : Code := { maxStack := 3, maxLocals := 3, code := jdk_43_method_13_code, exceptionTable := #[], attributes := #[] }
def k10m2 : Method := { name := "equals", desc := "([B[B)Z", sig := { parameters := [(.array .byte), (.array .byte)], returnType := some .boolean }, accessFlags := 9, code := some k10c2 }
def k10c3 : Code := { maxStack := 4, maxLocals := 1, code := jdk_43_method_46_code, exceptionTable := #[], attributes := #[] }
def k10m3 : Method := { name := "toBytes", desc := "(C)[B", sig := { parameters := [.char], returnType := some (.array .byte) }, accessFlags := 9, code := some k10c3 }
/-- java/lang/StringLatin1 -/
def k10 : Class := { plain "java/lang/StringLatin1" (some 0) with
  accessFlags := 48
  interfaces := #[]
  cf := some (fileOf pool10 14 #[.nestMembers #[390, 221]] #[{ accessFlags := 0, nameIndex := 7, descriptorIndex := 8, attributes := #[] }, { accessFlags := 9, nameIndex := 90, descriptorIndex := 105, attributes := #[] }, { accessFlags := 9, nameIndex := 281, descriptorIndex := 282, attributes := #[] }, { accessFlags := 9, nameIndex := 380, descriptorIndex := 382, attributes := #[] }] 48 4 #[] #[{ accessFlags := 4120, nameIndex := 121, descriptorIndex := 122, attributes := #[] }])
  fields := #[{ name := "$assertionsDisabled", type := .boolean, accessFlags := 4120, slot := 0, constantValue := 0 }]
  methods := #[k10m0, k10m1, k10m2, k10m3]
  instanceTypes := #[]
  staticTypes := #[.boolean]
  resolved := Array.replicate 395 none
  statics := none }

def pool11 : Array CpInfo := pool [(1, .methodref 2 3), (0, .class_ 4), (0, .nameAndType 5 6), (0, u "java/lang/Object"), (0, u "<init>"), (0, u "()V"), (0, .class_ 8), (0, u "java/lang/Record")] 13

def k11c0 : Code := { maxStack := 1, maxLocals := 1, code := jdk_30_method_1_code, exceptionTable := #[], attributes := #[] }
def k11m0 : Method := { name := "<init>", desc := "()V", sig := { parameters := [], returnType := none }, accessFlags := 4, code := some k11c0 }
/-- java/lang/Record -/
def k11 : Class := { plain "java/lang/Record" (some 0) with
  accessFlags := 1057
  interfaces := #[]
  cf := some (fileOf pool11 7 #[] #[{ accessFlags := 4, nameIndex := 5, descriptorIndex := 6, attributes := #[] }] 1057 2 #[] #[])
  fields := #[]
  methods := #[k11m0]
  instanceTypes := #[]
  staticTypes := #[]
  resolved := Array.replicate 22 none
  statics := none }

def pool12 : Array CpInfo := pool [(1, .methodref 2 3), (0, .class_ 4), (0, .nameAndType 5 6), (0, u "java/lang/Record"), (0, u "<init>"), (0, u "()V"), (0, .fieldref 8 9), (0, .class_ 10), (0, .nameAndType 11 12), (0, u "com/example/suretygate/suretygate/rolemodel/CabinetFunction"), (0, u "name"), (0, u "Ljava/lang/String;"), (0, .fieldref 8 14), (0, .nameAndType 15 16), (0, u "kind"), (0, u "Lcom/example/suretygate/suretygate/rolemodel/CabinetFunction$Kind;"), (0, .fieldref 8 18), (0, .nameAndType 19 12), (0, u "label"), (0, .fieldref 8 21), (0, .nameAndType 22 12), (0, u "path"), (0, .fieldref 8 24), (0, .nameAndType 25 12), (0, u "signs"), (1, .class_ 29), (1, u "com/example/suretygate/suretygate/rolemodel/CabinetFunction$Kind"), (1, .string 32), (0, u "-"), (0, .methodref 34 35), (0, .class_ 36), (0, .nameAndType 37 38), (0, u "java/lang/String"), (0, u "equals"), (0, u "(Ljava/lang/Object;)Z"), (31, u "LEVELS"), (1, u "NONE"), (0, u "(Ljava/lang/String;Lcom/example/suretygate/suretygate/rolemodel/CabinetFunction$Kind;Ljava/lang/String;Ljava/lang/String;Ljava/lang/String;)V"), (4, u "()Z"), (1, u "isSigning")] 30

def k12c0 : Code := { maxStack := 2, maxLocals := 6, code := prog_13_method_1_code, exceptionTable := #[], attributes := #[] }
def k12m0 : Method := { name := "<init>", desc := "(Ljava/lang/String;Lcom/example/suretygate/suretygate/rolemodel/CabinetFunction$Kind;Ljava/lang/String;Ljava/lang/String;Ljava/lang/String;)V", sig := { parameters := [(.object "java/lang/String"), (.object "com/example/suretygate/suretygate/rolemodel/CabinetFunction$Kind"), (.object "java/lang/String"), (.object "java/lang/String"), (.object "java/lang/String")], returnType := none }, accessFlags := 1, code := some k12c0 }
def k12c1 : Code := { maxStack := 2, maxLocals := 1, code := prog_13_method_3_code, exceptionTable := #[], attributes := #[] }
def k12m1 : Method := { name := "isSigning", desc := "()Z", sig := { parameters := [], returnType := some .boolean }, accessFlags := 1, code := some k12c1 }
/-- com/example/suretygate/suretygate/rolemodel/CabinetFunction -/
def k12 : Class := { plain "com/example/suretygate/suretygate/rolemodel/CabinetFunction" (some 11) with
  accessFlags := 49
  interfaces := #[]
  cf := some (fileOf pool12 8 #[.nestMembers #[27]] #[{ accessFlags := 1, nameIndex := 5, descriptorIndex := 73, attributes := #[] }, { accessFlags := 1, nameIndex := 80, descriptorIndex := 78, attributes := #[] }] 49 2 #[] #[{ accessFlags := 18, nameIndex := 11, descriptorIndex := 12, attributes := #[] }, { accessFlags := 18, nameIndex := 15, descriptorIndex := 16, attributes := #[] }, { accessFlags := 18, nameIndex := 19, descriptorIndex := 12, attributes := #[] }, { accessFlags := 18, nameIndex := 22, descriptorIndex := 12, attributes := #[] }, { accessFlags := 18, nameIndex := 25, descriptorIndex := 12, attributes := #[] }, { accessFlags := 26, nameIndex := 70, descriptorIndex := 12, attributes := #[] }, { accessFlags := 26, nameIndex := 72, descriptorIndex := 12, attributes := #[] }])
  fields := #[{ name := "name", type := (.object "java/lang/String"), accessFlags := 18, slot := 0, constantValue := 0 }, { name := "kind", type := (.object "com/example/suretygate/suretygate/rolemodel/CabinetFunction$Kind"), accessFlags := 18, slot := 1, constantValue := 0 }, { name := "label", type := (.object "java/lang/String"), accessFlags := 18, slot := 2, constantValue := 0 }, { name := "path", type := (.object "java/lang/String"), accessFlags := 18, slot := 3, constantValue := 0 }, { name := "signs", type := (.object "java/lang/String"), accessFlags := 18, slot := 4, constantValue := 0 }, { name := "LEVELS", type := (.object "java/lang/String"), accessFlags := 26, slot := 0, constantValue := 0 }, { name := "NONE", type := (.object "java/lang/String"), accessFlags := 26, slot := 1, constantValue := 0 }]
  methods := #[k12m0, k12m1]
  instanceTypes := #[(.object "java/lang/String"), (.object "com/example/suretygate/suretygate/rolemodel/CabinetFunction$Kind"), (.object "java/lang/String"), (.object "java/lang/String"), (.object "java/lang/String")]
  staticTypes := #[(.object "java/lang/String"), (.object "java/lang/String")]
  resolved := Array.replicate 111 none
  statics := none }

def pool13 : Array CpInfo := pool [(6, .class_ 8), (1, u "java/lang/Object"), (0, u "<init>"), (0, u "()V"), (1, .class_ 14), (1, u "java/lang/StringUTF16"), (31, u "$assertionsDisabled"), (0, u "Z"), (13, u "HI_BYTE_SHIFT"), (0, u "I"), (2, u "LO_BYTE_SHIFT"), (49, .methodref 12 116), (0, .nameAndType 117 118), (0, u "compress"), (0, u "([CI[BII)I"), (3, u "([CII)[B"), (138, u "coderFromArrayLen"), (0, u "([BI)B"), (106, .class_ 371), (1, u "java/lang/StringUTF16$LinesSpliterator"), (58, u "MAX_LENGTH"), (196, .class_ 628), (0, u "java/lang/StringUTF16$CodePointsSpliterator"), (0, .class_ 630), (0, u "java/lang/StringUTF16$CharsSpliterator")] 4

def k13m0 : Method := { name := "<init>", desc := "()V", sig := { parameters := [], returnType := none }, accessFlags := 0, code := none }
def k13c1 : Code := { maxStack := 2, maxLocals := 2, code := jdk_52_method_15_code, exceptionTable := #[], attributes := #[] }
def k13m1 : Method := { name := "coderFromArrayLen", desc := "([BI)B", sig := { parameters := [(.array .byte), .int], returnType := some .byte }, accessFlags := 8, code := some k13c1 }
def k13c2 : Code := { maxStack := 5, maxLocals := 6, code := jdk_52_method_16_code, exceptionTable := #[], attributes := #[] }
def k13m2 : Method := { name := "compress", desc := "([CII)[B", sig := { parameters := [(.array .char), .int, .int], returnType := some (.array .byte) }, accessFlags := 9, code := some k13c2 }
def k13c3 : Code := { maxStack := 3, maxLocals := 7, code := jdk_52_method_21_code, exceptionTable := #[], attributes := #[] }
def k13m3 : Method := { name := "compress", desc := "([CI[BII)I", sig := { parameters := [(.array .char), .int, (.array .byte), .int, .int], returnType := some .int }, accessFlags := 9, code := some k13c3 }
/-- java/lang/StringUTF16 -/
def k13 : Class := { plain "java/lang/StringUTF16" (some 0) with
  accessFlags := 48
  interfaces := #[]
  cf := some (fileOf pool13 12 #[.nestMembers #[627, 629, 369]] #[{ accessFlags := 0, nameIndex := 9, descriptorIndex := 10, attributes := #[] }, { accessFlags := 8, nameIndex := 261, descriptorIndex := 262, attributes := #[] }, { accessFlags := 9, nameIndex := 117, descriptorIndex := 122, attributes := #[] }, { accessFlags := 9, nameIndex := 117, descriptorIndex := 118, attributes := #[] }] 48 6 #[] #[{ accessFlags := 26, nameIndex := 61, descriptorIndex := 62, attributes := #[] }, { accessFlags := 26, nameIndex := 65, descriptorIndex := 62, attributes := #[] }, { accessFlags := 24, nameIndex := 430, descriptorIndex := 62, attributes := #[] }, { accessFlags := 4120, nameIndex := 46, descriptorIndex := 47, attributes := #[] }])
  fields := #[{ name := "HI_BYTE_SHIFT", type := .int, accessFlags := 26, slot := 0, constantValue := 0 }, { name := "LO_BYTE_SHIFT", type := .int, accessFlags := 26, slot := 1, constantValue := 0 }, { name := "MAX_LENGTH", type := .int, accessFlags := 24, slot := 2, constantValue := 0 }, { name := "$assertionsDisabled", type := .boolean, accessFlags := 4120, slot := 3, constantValue := 0 }]
  methods := #[k13m0, k13m1, k13m2, k13m3]
  instanceTypes := #[]
  staticTypes := #[.int, .int, .int, .boolean]
  resolved := Array.replicate 635 none
  statics := none }

def pool14 : Array CpInfo := pool [(2, .class_ 4), (1, u "java/lang/Object"), (0, u "<init>"), (0, u "()V"), (17, .class_ 26), (1, u "jdk/internal/util/Preconditions"), (28, .class_ 56), (0, u "jdk/internal/util/Preconditions$4"), (57, .class_ 115), (0, u "jdk/internal/util/Preconditions$1"), (7, u "SIOOBE_FORMATTER"), (0, u "Ljava/util/function/BiFunction;"), (0, .class_ 126), (0, u "jdk/internal/util/Preconditions$2"), (3, u "AIOOBE_FORMATTER"), (0, .class_ 132), (0, u "jdk/internal/util/Preconditions$3"), (3, u "IOOBE_FORMATTER")] 57

def k14m0 : Method := { name := "<init>", desc := "()V", sig := { parameters := [], returnType := none }, accessFlags := 1, code := none }
/-- jdk/internal/util/Preconditions -/
def k14 : Class := { plain "jdk/internal/util/Preconditions" (some 0) with
  accessFlags := 33
  interfaces := #[]
  cf := some (fileOf pool14 24 #[.nestMembers #[55, 131, 125, 114]] #[{ accessFlags := 1, nameIndex := 5, descriptorIndex := 6, attributes := #[] }] 33 2 #[] #[{ accessFlags := 25, nameIndex := 123, descriptorIndex := 124, attributes := #[] }, { accessFlags := 25, nameIndex := 130, descriptorIndex := 124, attributes := #[] }, { accessFlags := 25, nameIndex := 136, descriptorIndex := 124, attributes := #[] }])
  fields := #[{ name := "SIOOBE_FORMATTER", type := (.object "java/util/function/BiFunction"), accessFlags := 25, slot := 0, constantValue := 0 }, { name := "AIOOBE_FORMATTER", type := (.object "java/util/function/BiFunction"), accessFlags := 25, slot := 1, constantValue := 0 }, { name := "IOOBE_FORMATTER", type := (.object "java/util/function/BiFunction"), accessFlags := 25, slot := 2, constantValue := 0 }]
  methods := #[k14m0]
  instanceTypes := #[]
  staticTypes := #[(.object "java/util/function/BiFunction"), (.object "java/util/function/BiFunction"), (.object "java/util/function/BiFunction")]
  resolved := Array.replicate 194 none
  statics := some 2 }

def pool15 : Array CpInfo := pool [(9, u "<init>"), (6, .class_ 18), (1, u "java/lang/Object"), (0, u "()V"), (1, .class_ 23), (1, u "jdk/internal/util/ArraysSupport"), (0, u "LOG2_ARRAY_LONG_INDEX_SCALE"), (0, u "I"), (2, u "U"), (0, u "Ljdk/internal/misc/Unsafe;"), (8, u "BIG_ENDIAN"), (0, u "Z"), (8, u "LOG2_BYTE_BIT_SIZE"), (4, u "LOG2_ARRAY_INT_INDEX_SCALE"), (54, u "JLA"), (0, u "Ljdk/internal/access/JavaLangAccess;"), (11, u "LOG2_ARRAY_BOOLEAN_INDEX_SCALE"), (9, u "LOG2_ARRAY_BYTE_INDEX_SCALE"), (5, u "LOG2_ARRAY_CHAR_INDEX_SCALE"), (5, u "LOG2_ARRAY_SHORT_INDEX_SCALE"), (18, u "LOG2_ARRAY_FLOAT_INDEX_SCALE"), (24, u "LOG2_ARRAY_DOUBLE_INDEX_SCALE"), (89, u "T_BOOLEAN"), (2, u "T_CHAR"), (1, u "T_FLOAT"), (1, u "T_DOUBLE"), (1, u "T_BYTE"), (1, u "T_SHORT"), (1, u "T_INT"), (1, u "T_LONG"), (1, u "SOFT_MAX_ARRAY_LENGTH")] 83

def k15m0 : Method := { name := "<init>", desc := "()V", sig := { parameters := [], returnType := none }, accessFlags := 2, code := none }
/-- jdk/internal/util/ArraysSupport -/
def k15 : Class := { plain "jdk/internal/util/ArraysSupport" (some 0) with
  accessFlags := 33
  interfaces := #[]
  cf := some (fileOf pool15 21 #[] #[{ accessFlags := 2, nameIndex := 9, descriptorIndex := 19, attributes := #[] }] 33 16 #[] #[{ accessFlags := 24, nameIndex := 28, descriptorIndex := 29, attributes := #[] }, { accessFlags := 26, nameIndex := 38, descriptorIndex := 39, attributes := #[] }, { accessFlags := 25, nameIndex := 121, descriptorIndex := 25, attributes := #[] }, { accessFlags := 25, nameIndex := 131, descriptorIndex := 25, attributes := #[] }, { accessFlags := 25, nameIndex := 137, descriptorIndex := 25, attributes := #[] }, { accessFlags := 25, nameIndex := 143, descriptorIndex := 25, attributes := #[] }, { accessFlags := 25, nameIndex := 53, descriptorIndex := 25, attributes := #[] }, { accessFlags := 25, nameIndex := 24, descriptorIndex := 25, attributes := #[] }, { accessFlags := 25, nameIndex := 162, descriptorIndex := 25, attributes := #[] }, { accessFlags := 25, nameIndex := 187, descriptorIndex := 25, attributes := #[] }, { accessFlags := 26, nameIndex := 48, descriptorIndex := 25, attributes := #[] }, { accessFlags := 25, nameIndex := 277, descriptorIndex := 25, attributes := #[] }, { accessFlags := 25, nameIndex := 280, descriptorIndex := 25, attributes := #[] }, { accessFlags := 25, nameIndex := 282, descriptorIndex := 25, attributes := #[] }, { accessFlags := 25, nameIndex := 284, descriptorIndex := 25, attributes := #[] }, { accessFlags := 25, nameIndex := 286, descriptorIndex := 25, attributes := #[] }, { accessFlags := 25, nameIndex := 288, descriptorIndex := 25, attributes := #[] }, { accessFlags := 25, nameIndex := 290, descriptorIndex := 25, attributes := #[] }, { accessFlags := 25, nameIndex := 292, descriptorIndex := 25, attributes := #[] }, { accessFlags := 26, nameIndex := 108, descriptorIndex := 109, attributes := #[] }, { accessFlags := 25, nameIndex := 294, descriptorIndex := 25, attributes := #[] }])
  fields := #[{ name := "U", type := (.object "jdk/internal/misc/Unsafe"), accessFlags := 24, slot := 0, constantValue := 0 }, { name := "BIG_ENDIAN", type := .boolean, accessFlags := 26, slot := 1, constantValue := 0 }, { name := "LOG2_ARRAY_BOOLEAN_INDEX_SCALE", type := .int, accessFlags := 25, slot := 2, constantValue := 0 }, { name := "LOG2_ARRAY_BYTE_INDEX_SCALE", type := .int, accessFlags := 25, slot := 3, constantValue := 0 }, { name := "LOG2_ARRAY_CHAR_INDEX_SCALE", type := .int, accessFlags := 25, slot := 4, constantValue := 0 }, { name := "LOG2_ARRAY_SHORT_INDEX_SCALE", type := .int, accessFlags := 25, slot := 5, constantValue := 0 }, { name := "LOG2_ARRAY_INT_INDEX_SCALE", type := .int, accessFlags := 25, slot := 6, constantValue := 0 }, { name := "LOG2_ARRAY_LONG_INDEX_SCALE", type := .int, accessFlags := 25, slot := 7, constantValue := 0 }, { name := "LOG2_ARRAY_FLOAT_INDEX_SCALE", type := .int, accessFlags := 25, slot := 8, constantValue := 0 }, { name := "LOG2_ARRAY_DOUBLE_INDEX_SCALE", type := .int, accessFlags := 25, slot := 9, constantValue := 0 }, { name := "LOG2_BYTE_BIT_SIZE", type := .int, accessFlags := 26, slot := 10, constantValue := 0 }, { name := "T_BOOLEAN", type := .int, accessFlags := 25, slot := 11, constantValue := 0 }, { name := "T_CHAR", type := .int, accessFlags := 25, slot := 12, constantValue := 0 }, { name := "T_FLOAT", type := .int, accessFlags := 25, slot := 13, constantValue := 0 }, { name := "T_DOUBLE", type := .int, accessFlags := 25, slot := 14, constantValue := 0 }, { name := "T_BYTE", type := .int, accessFlags := 25, slot := 15, constantValue := 0 }, { name := "T_SHORT", type := .int, accessFlags := 25, slot := 16, constantValue := 0 }, { name := "T_INT", type := .int, accessFlags := 25, slot := 17, constantValue := 0 }, { name := "T_LONG", type := .int, accessFlags := 25, slot := 18, constantValue := 0 }, { name := "JLA", type := (.object "jdk/internal/access/JavaLangAccess"), accessFlags := 26, slot := 19, constantValue := 0 }, { name := "SOFT_MAX_ARRAY_LENGTH", type := .int, accessFlags := 25, slot := 20, constantValue := 0 }]
  methods := #[k15m0]
  instanceTypes := #[]
  staticTypes := #[(.object "jdk/internal/misc/Unsafe"), .boolean, .int, .int, .int, .int, .int, .int, .int, .int, .int, .int, .int, .int, .int, .int, .int, .int, .int, (.object "jdk/internal/access/JavaLangAccess"), .int]
  resolved := Array.replicate 378 none
  statics := none }

def pool16 : Array CpInfo := pool [(1, u "java/lang/Cloneable"), (0, .class_ 1), (0, u "java/lang/Object"), (0, .class_ 3)] 3

/-- java/lang/Cloneable -/
def k16 : Class := { plain "java/lang/Cloneable" (some 0) with
  accessFlags := 1537
  interfaces := #[]
  cf := some (fileOf pool16 2 #[] #[] 1537 4 #[] #[])
  fields := #[]
  methods := #[]
  instanceTypes := #[]
  staticTypes := #[]
  resolved := Array.replicate 8 none
  statics := none }

/-- the primitive byte -/
def k17 : Class := { plain "byte" none with kind := .primitive 'B', accessFlags := 0x411 }
/-- [B -/
def k18 : Class := { plain "[B" (some 0) with kind := .array 17 .byte, interfaces := #[16, 2], accessFlags := 1041 }

/-- the primitive char -/
def k19 : Class := { plain "char" none with kind := .primitive 'C', accessFlags := 0x411 }
/-- [C -/
def k20 : Class := { plain "[C" (some 0) with kind := .array 19 .char, interfaces := #[16, 2], accessFlags := 1041 }

/-- the primitive int -/
def k21 : Class := { plain "int" none with kind := .primitive 'I', accessFlags := 0x411 }
/-- [I -/
def k22 : Class := { plain "[I" (some 0) with kind := .array 21 .int, interfaces := #[16, 2], accessFlags := 1041 }

def heap : Heap := #[{ cls := 7, slots := #[.long 0, .int 1, .null, .int 0, .null, .int 0, .int 0], vm := .statics 7 },
  { cls := 9, slots := #[.ref 3, .ref 4, .ref 5, .null], vm := .statics 9 },
  { cls := 14, slots := #[.null, .null, .null], vm := .statics 14 },
  { cls := 9, slots := #[.null, .int 0, .int 0, .null], vm := .none },
  { cls := 9, slots := #[.null, .int 1, .int 0, .null], vm := .none },
  { cls := 9, slots := #[.null, .int 2, .int 0, .null], vm := .none }]
def classes : Array Class := #[k0, k1, k2, k3, k4, k5, k6, k7, k8, k9, k10, k11, k12, k13, k14, k15, k16, k17, k18, k19, k20, k21, k22]
def interned : List (Array UInt16 × Addr) := []
def slotsUsed : Nat := 26
def theMethod : MethodId := ⟨1, 1⟩
def args0 : Array Value := #[.int 1, .int 3, .int 5, .int 7, .int 2, .int 9]
def aboutOver (below : List Frame) : State where
  vm := { classes := classes, interned := interned.toArray }
  heap := heap
  slotsUsed := slotsUsed
  threads := #[{ frames := .invoking theMethod args0 :: below }]
def below0 : List Frame := [.native { method := ⟨0, 0⟩, args := #[] }]
def about1 : State := aboutOver below0
def p0 : Program := .bare "" "" ""
def e0 : Env := launch0.env 0 0 0
theorem w_frames : about1.frames = Frame.invoking theMethod args0 :: below0 := rfl
set_option maxRecDepth 65536 in
theorem w_args : argsFit about1.vm theMethod args0 = true := by decide +kernel
set_option maxRecDepth 65536 in
theorem w_heap : heapFits about1 = true := by decide +kernel
set_option maxRecDepth 65536 in
theorem w_runnable : about1.curStatus? = some .runnable := by decide +kernel
set_option maxRecDepth 65536 in
theorem w_alone : about1.alone = true := by decide +kernel
set_option maxRecDepth 65536 in
theorem w_named : about1.methodNamed? x = some theMethod := by decide +kernel
set_option maxRecDepth 65536 in
theorem w_hears : about1.hears theMethod below0 = true := by decide +kernel
set_option maxRecDepth 65536 in
theorem w_ripe : about1.ripe theMethod args0 below0 = true := by decide +kernel
theorem w_running : about1.status = .running := rfl
set_option maxRecDepth 65536 in
theorem w_room : about1.hasRoom e0.platform room_1 = true :=
  launch0.hasRoom_least _ room_1 (by decide +kernel) (by decide +kernel) (by decide +kernel) (by decide +kernel) (by decide +kernel) (by decide +kernel)
theorem allAtoms_all (ts : List Jvm.Cond) (a : Array Jvm.Value) (st : Jvm.State) : (allAtoms ts).before a st = ts.all (fun c => c.before a st) := by
  induction ts with
  | nil => rfl
  | cons c t ih =>
    show (Jvm.Cond.and c (allAtoms t)).before a st = _
    rw [Jvm.Cond.before_and, ih, List.all_cons]
def words1 : List Jvm.Cond := Jvm.Cond.code x code maxLocals ret :: tables_1
/-- a 'code' word, met by the world's own term for the bytes: nothing is compared byte by byte -/
theorem code_word {y : MethodName} {bytes : ByteArray} {mx : Nat} {rt : Option FieldType} {a : Array Value} {s : State} {m : MethodId} {meth : Method} {c : Code} (h1 : s.methodNamed? y = some m) (h2 : s.vm.method? m = some meth) (h3 : meth.code = some c) (h4 : c.code = bytes)
    (h5 : (c.maxLocals == mx && c.exceptionTable.isEmpty && decide (c.maxStack ≤ mostOperands) && decide (meth.sig.returnType = rt) && !meth.locks && decide (parseMethodDescriptor y.desc = some meth.sig)) = true) : (Jvm.Cond.code y bytes mx rt).before a s = true := by
  simp only [Bool.and_eq_true, beq_iff_eq, Bool.not_eq_true', decide_eq_true_eq] at h5
  obtain ⟨⟨⟨⟨⟨g1, g2⟩, g3⟩, g4⟩, g5⟩, g6⟩ := h5
  simp [Cond.before, Cond.holds, Cond.value, h1, h2, h3, h4, g1, g2, g3, g4, g5, g6]
def isCode : Jvm.Cond → Bool
  | .code _ _ _ _ => true
  | _ => false
theorem all_split {L : List Jvm.Cond} {P : Jvm.Cond → Bool} (h1 : L.all (fun c => isCode c || P c) = true) (h2 : ∀ c ∈ L.filter isCode, P c = true) : L.all P = true := by
  refine List.all_eq_true.mpr fun c hc => ?_
  have h := List.all_eq_true.mp h1 c hc
  rcases Bool.eq_false_or_eq_true (isCode c) with hi | hi
  · exact h2 c (List.mem_filter.mpr ⟨hc, hi⟩)
  · simpa [hi] using h
set_option maxRecDepth 65536 in
theorem w_c0 : (Jvm.Cond.code x code maxLocals ret).before args0 about1 = true := code_word (m := ⟨1, 1⟩) (meth := k1m1) (c := k1c1) (by decide +kernel) rfl rfl rfl (by decide +kernel)
set_option maxRecDepth 65536 in
theorem w_c1 : (Jvm.Cond.code ({ cls := "com/example/suretygate/suretygate/rolemodel/CabinetFunctionIsSigningPinLaw", name := "pick", desc := "(I)C" } : Jvm.MethodName) method_3_code (1 : Nat) (Option.some Jvm.ClassFile.FieldType.char)).before args0 about1 = true := code_word (m := ⟨1, 2⟩) (meth := k1m2) (c := k1c2) (by decide +kernel) rfl rfl rfl (by decide +kernel)
set_option maxRecDepth 65536 in
theorem w_c2 : (Jvm.Cond.code ({ cls := "java/lang/String", name := "<init>", desc := "([C)V" } : Jvm.MethodName) jdk_42_method_3_code (2 : Nat) (Option.none : Option Jvm.ClassFile.FieldType)).before args0 about1 = true := code_word (m := ⟨7, 1⟩) (meth := k7m1) (c := k7c1) (by decide +kernel) rfl rfl rfl (by decide +kernel)
set_option maxRecDepth 65536 in
theorem w_c3 : (Jvm.Cond.code ({ cls := "java/lang/String", name := "<init>", desc := "([CIILjava/lang/Void;)V" } : Jvm.MethodName) jdk_42_method_149_code (6 : Nat) (Option.none : Option Jvm.ClassFile.FieldType)).before args0 about1 = true := code_word (m := ⟨7, 4⟩) (meth := k7m4) (c := k7c4) (by decide +kernel) rfl rfl rfl (by decide +kernel)
set_option maxRecDepth 65536 in
theorem w_c4 : (Jvm.Cond.code ({ cls := "java/lang/Object", name := "<init>", desc := "()V" } : Jvm.MethodName) object_method_1_code (1 : Nat) (Option.none : Option Jvm.ClassFile.FieldType)).before args0 about1 = true := code_word (m := ⟨0, 0⟩) (meth := k0m0) (c := k0c0) (by decide +kernel) rfl rfl rfl (by decide +kernel)
set_option maxRecDepth 65536 in
theorem w_c5 : (Jvm.Cond.code ({ cls := "java/lang/String", name := "valueOf", desc := "(C)Ljava/lang/String;" } : Jvm.MethodName) jdk_42_method_139_code (1 : Nat) (Option.some (Jvm.ClassFile.FieldType.object "java/lang/String"))).before args0 about1 = true := code_word (m := ⟨7, 3⟩) (meth := k7m3) (c := k7c3) (by decide +kernel) rfl rfl rfl (by decide +kernel)
set_option maxRecDepth 65536 in
theorem w_c6 : (Jvm.Cond.code ({ cls := "java/lang/StringLatin1", name := "canEncode", desc := "(C)Z" } : Jvm.MethodName) jdk_43_method_3_code (1 : Nat) (Option.some Jvm.ClassFile.FieldType.boolean)).before args0 about1 = true := code_word (m := ⟨10, 1⟩) (meth := k10m1) (c := k10c1) (by decide +kernel) rfl rfl rfl (by decide +kernel)
set_option maxRecDepth 65536 in
theorem w_c7 : (Jvm.Cond.code ({ cls := "java/lang/StringLatin1", name := "toBytes", desc := "(C)[B" } : Jvm.MethodName) jdk_43_method_46_code (1 : Nat) (Option.some (Jvm.ClassFile.FieldType.array Jvm.ClassFile.FieldType.byte))).before args0 about1 = true := code_word (m := ⟨10, 3⟩) (meth := k10m3) (c := k10c3) (by decide +kernel) rfl rfl rfl (by decide +kernel)
set_option maxRecDepth 65536 in
theorem w_c8 : (Jvm.Cond.code ({ cls := "java/lang/String", name := "<init>", desc := "([BB)V" } : Jvm.MethodName) jdk_42_method_151_code (3 : Nat) (Option.none : Option Jvm.ClassFile.FieldType)).before args0 about1 = true := code_word (m := ⟨7, 5⟩) (meth := k7m5) (c := k7c5) (by decide +kernel) rfl rfl rfl (by decide +kernel)
set_option maxRecDepth 65536 in
theorem w_c9 : (Jvm.Cond.code ({ cls := "com/example/suretygate/suretygate/rolemodel/CabinetFunction", name := "<init>", desc := "(Ljava/lang/String;Lcom/example/suretygate/suretygate/rolemodel/CabinetFunction$Kind;Ljava/lang/String;Ljava/lang/String;Ljava/lang/String;)V" } : Jvm.MethodName) prog_13_method_1_code (6 : Nat) (Option.none : Option Jvm.ClassFile.FieldType)).before args0 about1 = true := code_word (m := ⟨12, 0⟩) (meth := k12m0) (c := k12c0) (by decide +kernel) rfl rfl rfl (by decide +kernel)
set_option maxRecDepth 65536 in
theorem w_c10 : (Jvm.Cond.code ({ cls := "java/lang/Record", name := "<init>", desc := "()V" } : Jvm.MethodName) jdk_30_method_1_code (1 : Nat) (Option.none : Option Jvm.ClassFile.FieldType)).before args0 about1 = true := code_word (m := ⟨11, 0⟩) (meth := k11m0) (c := k11c0) (by decide +kernel) rfl rfl rfl (by decide +kernel)
set_option maxRecDepth 65536 in
theorem w_c11 : (Jvm.Cond.code ({ cls := "com/example/suretygate/suretygate/rolemodel/CabinetFunction", name := "isSigning", desc := "()Z" } : Jvm.MethodName) prog_13_method_3_code (1 : Nat) (Option.some Jvm.ClassFile.FieldType.boolean)).before args0 about1 = true := code_word (m := ⟨12, 1⟩) (meth := k12m1) (c := k12c1) (by decide +kernel) rfl rfl rfl (by decide +kernel)
set_option maxRecDepth 65536 in
theorem w_c12 : (Jvm.Cond.code ({ cls := "java/lang/String", name := "equals", desc := "(Ljava/lang/Object;)Z" } : Jvm.MethodName) jdk_42_method_66_code (3 : Nat) (Option.some Jvm.ClassFile.FieldType.boolean)).before args0 about1 = true := code_word (m := ⟨7, 2⟩) (meth := k7m2) (c := k7c2) (by decide +kernel) rfl rfl rfl (by decide +kernel)
set_option maxRecDepth 65536 in
theorem w_c13 : (Jvm.Cond.code ({ cls := "java/lang/StringLatin1", name := "equals", desc := "([B[B)Z" } : Jvm.MethodName) jdk_43_method_13_code (3 : Nat) (Option.some Jvm.ClassFile.FieldType.boolean)).before args0 about1 = true := code_word (m := ⟨10, 2⟩) (meth := k10m2) (c := k10c2) (by decide +kernel) rfl rfl rfl (by decide +kernel)
set_option maxRecDepth 65536 in
theorem w_c14 : (Jvm.Cond.code ({ cls := "java/lang/StringUTF16", name := "compress", desc := "([CII)[B" } : Jvm.MethodName) jdk_52_method_16_code (6 : Nat) (Option.some (Jvm.ClassFile.FieldType.array Jvm.ClassFile.FieldType.byte))).before args0 about1 = true := code_word (m := ⟨13, 2⟩) (meth := k13m2) (c := k13c2) (by decide +kernel) rfl rfl rfl (by decide +kernel)
set_option maxRecDepth 65536 in
theorem w_c15 : (Jvm.Cond.code ({ cls := "java/lang/StringUTF16", name := "compress", desc := "([CI[BII)I" } : Jvm.MethodName) jdk_52_method_21_code (7 : Nat) (Option.some Jvm.ClassFile.FieldType.int)).before args0 about1 = true := code_word (m := ⟨13, 3⟩) (meth := k13m3) (c := k13c3) (by decide +kernel) rfl rfl rfl (by decide +kernel)
set_option maxRecDepth 65536 in
theorem w_c16 : (Jvm.Cond.code ({ cls := "java/lang/StringUTF16", name := "coderFromArrayLen", desc := "([BI)B" } : Jvm.MethodName) jdk_52_method_15_code (2 : Nat) (Option.some Jvm.ClassFile.FieldType.byte)).before args0 about1 = true := code_word (m := ⟨13, 1⟩) (meth := k13m1) (c := k13c1) (by decide +kernel) rfl rfl rfl (by decide +kernel)
def codes1 : List Jvm.Cond := [Jvm.Cond.code x code maxLocals ret, Jvm.Cond.code ({ cls := "com/example/suretygate/suretygate/rolemodel/CabinetFunctionIsSigningPinLaw", name := "pick", desc := "(I)C" } : Jvm.MethodName) method_3_code (1 : Nat) (Option.some Jvm.ClassFile.FieldType.char), Jvm.Cond.code ({ cls := "java/lang/String", name := "<init>", desc := "([C)V" } : Jvm.MethodName) jdk_42_method_3_code (2 : Nat) (Option.none : Option Jvm.ClassFile.FieldType), Jvm.Cond.code ({ cls := "java/lang/String", name := "<init>", desc := "([CIILjava/lang/Void;)V" } : Jvm.MethodName) jdk_42_method_149_code (6 : Nat) (Option.none : Option Jvm.ClassFile.FieldType), Jvm.Cond.code ({ cls := "java/lang/Object", name := "<init>", desc := "()V" } : Jvm.MethodName) object_method_1_code (1 : Nat) (Option.none : Option Jvm.ClassFile.FieldType), Jvm.Cond.code ({ cls := "java/lang/String", name := "valueOf", desc := "(C)Ljava/lang/String;" } : Jvm.MethodName) jdk_42_method_139_code (1 : Nat) (Option.some (Jvm.ClassFile.FieldType.object "java/lang/String")), Jvm.Cond.code ({ cls := "java/lang/StringLatin1", name := "canEncode", desc := "(C)Z" } : Jvm.MethodName) jdk_43_method_3_code (1 : Nat) (Option.some Jvm.ClassFile.FieldType.boolean), Jvm.Cond.code ({ cls := "java/lang/StringLatin1", name := "toBytes", desc := "(C)[B" } : Jvm.MethodName) jdk_43_method_46_code (1 : Nat) (Option.some (Jvm.ClassFile.FieldType.array Jvm.ClassFile.FieldType.byte)), Jvm.Cond.code ({ cls := "java/lang/String", name := "<init>", desc := "([BB)V" } : Jvm.MethodName) jdk_42_method_151_code (3 : Nat) (Option.none : Option Jvm.ClassFile.FieldType), Jvm.Cond.code ({ cls := "com/example/suretygate/suretygate/rolemodel/CabinetFunction", name := "<init>", desc := "(Ljava/lang/String;Lcom/example/suretygate/suretygate/rolemodel/CabinetFunction$Kind;Ljava/lang/String;Ljava/lang/String;Ljava/lang/String;)V" } : Jvm.MethodName) prog_13_method_1_code (6 : Nat) (Option.none : Option Jvm.ClassFile.FieldType), Jvm.Cond.code ({ cls := "java/lang/Record", name := "<init>", desc := "()V" } : Jvm.MethodName) jdk_30_method_1_code (1 : Nat) (Option.none : Option Jvm.ClassFile.FieldType), Jvm.Cond.code ({ cls := "com/example/suretygate/suretygate/rolemodel/CabinetFunction", name := "isSigning", desc := "()Z" } : Jvm.MethodName) prog_13_method_3_code (1 : Nat) (Option.some Jvm.ClassFile.FieldType.boolean), Jvm.Cond.code ({ cls := "java/lang/String", name := "equals", desc := "(Ljava/lang/Object;)Z" } : Jvm.MethodName) jdk_42_method_66_code (3 : Nat) (Option.some Jvm.ClassFile.FieldType.boolean), Jvm.Cond.code ({ cls := "java/lang/StringLatin1", name := "equals", desc := "([B[B)Z" } : Jvm.MethodName) jdk_43_method_13_code (3 : Nat) (Option.some Jvm.ClassFile.FieldType.boolean), Jvm.Cond.code ({ cls := "java/lang/StringUTF16", name := "compress", desc := "([CII)[B" } : Jvm.MethodName) jdk_52_method_16_code (6 : Nat) (Option.some (Jvm.ClassFile.FieldType.array Jvm.ClassFile.FieldType.byte)), Jvm.Cond.code ({ cls := "java/lang/StringUTF16", name := "compress", desc := "([CI[BII)I" } : Jvm.MethodName) jdk_52_method_21_code (7 : Nat) (Option.some Jvm.ClassFile.FieldType.int), Jvm.Cond.code ({ cls := "java/lang/StringUTF16", name := "coderFromArrayLen", desc := "([BI)B" } : Jvm.MethodName) jdk_52_method_15_code (2 : Nat) (Option.some Jvm.ClassFile.FieldType.byte)]
set_option maxRecDepth 65536 in
theorem codes_eq : words1.filter isCode = codes1 := rfl
theorem w_codes : ∀ c ∈ words1.filter isCode, c.before args0 about1 = true := by
  rw [codes_eq]
  intro c hc
  simp only [codes1, List.mem_cons, List.not_mem_nil, or_false] at hc
  rcases hc with rfl | rfl | rfl | rfl | rfl | rfl | rfl | rfl | rfl | rfl | rfl | rfl | rfl | rfl | rfl | rfl | rfl
  · exact w_c0
  · exact w_c1
  · exact w_c2
  · exact w_c3
  · exact w_c4
  · exact w_c5
  · exact w_c6
  · exact w_c7
  · exact w_c8
  · exact w_c9
  · exact w_c10
  · exact w_c11
  · exact w_c12
  · exact w_c13
  · exact w_c14
  · exact w_c15
  · exact w_c16
set_option maxRecDepth 65536 in
theorem w_t1 : (words1.take 24).all (fun c => isCode c || c.before args0 about1) = true := by decide +kernel
set_option maxRecDepth 65536 in
theorem w_t2 : ((words1.drop 24).take 24).all (fun c => isCode c || c.before args0 about1) = true := by decide +kernel
set_option maxRecDepth 65536 in
theorem w_t3 : (((words1.drop 24).drop 24).take 24).all (fun c => isCode c || c.before args0 about1) = true := by decide +kernel
set_option maxRecDepth 65536 in
theorem w_t4 : (((words1.drop 24).drop 24).drop 24).all (fun c => isCode c || c.before args0 about1) = true := by decide +kernel
theorem w_tables : (allAtoms (Jvm.Cond.code x code maxLocals ret :: tables_1)).before args0 about1 = true := by
  rw [allAtoms_all]
  show words1.all (fun c => c.before args0 about1) = true
  refine all_split ?_ w_codes
  rw [← List.take_append_drop 24 words1, List.all_append, w_t1, ← List.take_append_drop 24 (words1.drop 24), List.all_append, w_t2, ← List.take_append_drop 24 ((words1.drop 24).drop 24), List.all_append, w_t3, w_t4]
  rfl
set_option maxRecDepth 65536 in
theorem w_rest : rest_1_c.before args0 about1 = true := by decide +kernel
set_option maxRecDepth 65536 in
theorem w_case : (Jvm.Cond.and given_1 narrow_1).before args0 about1 = true := by decide +kernel
set_option maxRecDepth 65536 in
theorem w_consts : constsHeld consts_1 about1 := Jvm.Lit.constsHeldB_iff.mp (by decide +kernel)
theorem w_applies : (headSpec (Jvm.Cond.code x code maxLocals ret :: tables_1) room_1).applies x e0.platform about1 = true :=
  (Spec.applies_iff w_frames).mpr ⟨w_running, w_runnable, w_alone, w_named, w_hears, w_ripe, w_room, w_tables⟩
theorem atStart : AtStart classFile x code maxLocals ret World_1 tables_1 room_1 Calls_1 rest_1 Pre_1 launch0 p0 e0 about1 theMethod args0 below0 :=
  ⟨lists_1, trivial, launch0.admits_env _ _ _, launch0.least_env, fairChoices_fair.cas, fairChoices_fair.clock, w_frames, w_args, w_heap, w_applies, ⟨w_consts, trivial⟩, w_rest, w_case⟩
end start1
theorem witness_1 : WitnessClaimed_1 := ⟨start1.p0, start1.e0, start1.about1, start1.theMethod, start1.args0, start1.below0, start1.atStart⟩
end Jvm.Pilot.@@N@@
