import JvmDerived
import JvmDerived.Pilot.@@N@@Statement
import JvmDerived.Pilot.@@N@@Code
set_option linter.unusedVariables false
set_option linter.unusedSimpArgs false
namespace Jvm.RoadKit
open Sem ClassFile Op Lib Jvm.Stand Jvm.Free Jvm.LawKit
section New
variable {p : Program} {l : Launch} {e : Env} {R : Room} {s : State} {m : MethodId} {args : Array Value} {below : List Frame} {meth : Method} {c : Code} {T : State} {locs : List Loc} {cells slots : Nat}
theorem retI (X : Stand p l e R s m args below meth c T locs cells slots) (hx : p.tables.exec = Jvm.exec) {pc : Nat} {Ls : Array Slot} {z : Int32} {rest : List Value} (hret : meth.sig.returnType = some .int) (hd : decode c.code pc = .ok (.ireturn, 1)) {fs : List Frame}
    (hl : ∀ (f : JFrame) (acts : List Action), f.method = m → f.locked = none → f.entered = [] → (doReturn e (T.setTop f) acts (some (.int z))).1 = T.setFrames fs) : Steps p.tables e below (T.setTop (mkF m pc Ls (.int z :: rest))) (T.setFrames fs) := by
  have hm' : T.vm.method? m = some meth := X.method'
  have hn : narrow .int (.int z) = .int z := rfl
  show Steps p.tables e below (T.setTop { method := m, pc := pc, locals := Ls, stack := _ :: rest, locked := none }) _
  jvm_step X.here [X.here.top, hx, hd, hm', hret, hn]
  first | (intro acts; rw [hl _ acts rfl rfl rfl]) | rw [hl _ _ rfl rfl rfl]
  exact Steps.refl _
end New
end Jvm.RoadKit
namespace Jvm.Pilot.@@N@@
open Jvm Jvm.ClassFile Sem Op Lib Jvm.Free Jvm.Stand Jvm.LawKit Jvm.RoadKit Bundle Jvm.Pilot.@@N@@.Jvm.D
def Rch (p : Program) (e : Env) (below : List Frame) (S0 T : State) (g : JFrame) : Prop := ∀ t, Steps p.tables e below (T.setTop g) t → Steps p.tables e below S0 t
theorem own_le {Z : State} {n0 : Nat} {h : Heap} (O : Old Z n0 h) : n0 ≤ h.size := O.1 ▸ O.2.1
theorem own_ge {Z : State} {n0 : Nat} {h : Heap} {x : Nat} (O : Old Z n0 h) (g : h.size ≤ x) : n0 ≤ x := Nat.le_trans (own_le O) g
theorem own_ne {y x k : Nat} (h : y < k) (g : k ≤ x) : y ≠ x := Nat.ne_of_lt (Nat.lt_of_lt_of_le h g)
section Own
variable {p : Program} {l : Launch} {e : Env} {R : Room} {s : State} {m : MethodId} {args : Array Value} {below : List Frame} {meth : Method} {c : Code} {T : State} {locs : List Loc} {cells slots : Nat}
def Like (X : Stand p l e R s m args below meth c T locs cells slots) (T' : State) : Prop := Stand p l e R s m args below meth c T' locs cells slots
theorem Like.out {X : Stand p l e R s m args below meth c T locs cells slots} {T' : State} (h : Like X T') : Stand p l e R s m args below meth c T' locs cells slots := h
end Own
theorem own_eqi {args : Array Value} {first s : State} {o : Option Outcome} {idx : List Nat} {a : Term} {n : Int32} (h : (Jvm.Cond.eq a (Jvm.Term.int n)).value args first o s idx = some true) : a.eval args first o idx s = some (.int n) := by
  simp only [Cond.value, Term.int_eval] at h
  cases ha : a.eval args first o idx s with
  | none => simp [ha] at h
  | some x => cases x <;> simp [ha] at h ⊢; exact h
theorem own_eqr {args : Array Value} {first s : State} {o : Option Outcome} {idx : List Nat} {a b : Term} {w : Addr} (eb : b.eval args first o idx s = some (.ref w)) (h : (Jvm.Cond.eq a b).value args first o s idx = some true) : a.eval args first o idx s = some (.ref w) := by
  simp only [Cond.value, eb] at h
  cases ha : a.eval args first o idx s with
  | none => simp [ha] at h
  | some x => cases x <;> simp [ha] at h ⊢; exact h
theorem own_ext {h h' : Heap} (K : Keep h h' []) : Ext h h' := ⟨K.1, fun a c q => K.2.1 a c q nin0⟩
theorem own_safe_null {Z : State} {EL : List (String × Nat)} {vm : Vm} {h : Heap} {x : Addr} {a0 : Array Value} {kI : Nat} (hal : Z.vm.Alike vm) (E : Exa Z h x "java/lang/String") (F : Fld Z h x "java/lang/String" "value" "[B" .null) (wi : (Jvm.Cond.instantiable "java/lang/String" kI).before a0 Z = true) : Safe Z EL vm h x := fun B => by
  obtain ⟨cell, k, e1, e2, e3, -, -⟩ := E
  obtain ⟨p, -, u, a, -, q, -, S, rfl | rfl⟩ := B
  · cases (show h[q.sa]? = some q.sC from S.ha).symm.trans e1
    obtain ⟨cS, ⟨⟨-, -, -, ⟨c, kf, i, ff, -⟩, -, -, -, hv, -⟩, -, -⟩, -⟩ := S
    obtain ⟨cell', cf, k', i', f', g1, g2, g3, g4, g5, g6, g7⟩ := F
    cases e1.symm.trans g1
    obtain ⟨k'', hi, -⟩ := State.fieldFound?_setVm (s := Z) hal g2
    have ff' : (Z.setVm vm).fieldFound? "java/lang/String" "value" "[B" = some (c, kf, i, q.fSV) := ff
    cases ff'.symm.trans hi
    rw [g7] at hv; cases hv
  · cases (show h[q.sd]? = some q.SA from S.hd).symm.trans e1
    obtain ⟨cS, ⟨⟨-, -, -, -, -, -, -, -, -, -, ⟨-, kB, hkB, compB, hkindB⟩, -⟩, -, -⟩, -⟩ := S
    obtain ⟨c2, k2, i1, i2, i3, -⟩ := Cond.instantiable_spec wi
    cases e2.symm.trans i1
    cases e3.symm.trans i2
    obtain ⟨k', hk', ek⟩ := hal.2.2 _ _ e3
    cases (show vm.classes[q.SA.cls]? = some kB from hkB).symm.trans hk'
    rw [ek] at hkindB
    cases (hkindB.symm.trans i3)
theorem own_chr {Z : State} {EL : List (String × Nat)} {vm vm1 vm2 : Vm} {h h1 h2 : Heap} (A : CHr Z EL vm h vm1 h1) (B : CHr Z EL vm1 h1 vm2 h1) (e : h2 = h1) : CHr Z EL vm h vm2 h2 := by
  rw [e]; exact A.trans B
theorem own_tn {i : Nat} (h : i < 2147483648) : (Int32.ofNat i).toNatClampNeg = i ∧ (Int32.ofNat i).toInt = i := by
  have e : (Int32.ofNat i).toInt = i := Int32.toInt_ofNat_of_lt h
  exact ⟨by simp only [Int32.toNatClampNeg, e]; rfl, e⟩
theorem own_lt30 {n : Nat} (h : n ≤ 100000) : Int32.ofNat n < (1073741823 : Int32) := by
  have e : (1073741823 : Int32).toInt = 1073741823 := rfl
  rw [Int32.lt_iff_toInt_lt, (own_tn (by omega)).2, e]; omega
theorem own_olt {i n : Nat} (hi : i < 2147483648) (hn : n < 2147483648) : (Int32.ofNat i < Int32.ofNat n) ↔ i < n := by
  rw [Int32.lt_iff_toInt_lt, (own_tn hi).2, (own_tn hn).2]; omega
theorem own_on0 {i : Nat} (hi : i < 2147483648) : ¬ Int32.ofNat i < 0 := by
  rw [Int32.lt_iff_toInt_lt, (own_tn hi).2]; have e : (0 : Int32).toInt = 0 := by decide
  omega
theorem own_inc {i : Nat} (hi : i + 1 < 2147483648) : Int32.ofNat i + 1 = Int32.ofNat (i + 1) := by
  apply Int32.toInt_inj.mp
  have a := c_iadd (Int32.ofNat i) 1
  have e : (1 : Int32).toInt = 1 := by decide
  rw [(own_tn (by omega)).2, e] at a
  rw [(own_tn hi).2]
  have r := rng32 (Int32.ofNat i + 1)
  omega
theorem own_dbl {i : Nat} (hi : 2 * i < 2147483648) : Int32.ofNat i <<< ((1 : Int32) &&& 31) = Int32.ofNat (2 * i) := by
  apply Int32.toInt_inj.mp
  have a := c_ishl (Int32.ofNat i) 1 1 (by decide)
  rw [(own_tn (by omega)).2] at a
  rw [(own_tn hi).2]
  have r := rng32 (Int32.ofNat i <<< ((1 : Int32) &&& 31))
  omega
theorem own_at (cs : List Int32) (i : Nat) (d : Int32) : (cs.map Value.int).getD i (.int d) = .int (cs.getD i d) := by
  simp only [List.getD_eq_getElem?_getD, List.getElem?_map]
  cases cs[i]? <;> rfl
theorem own_inb {i n : Nat} (h : i < n) (hn : n < 2147483648) : ¬ Int32.ofNat i < 0 ∧ Int32.ofNat i < Int32.ofNat n := ⟨own_on0 (by omega), (own_olt (by omega) hn).mpr h⟩
def own_lo (c : Int32) : Int32 := nar .byte ((c >>> ((0 : Int32) &&& 31)).toInt8.toInt32)
def own_hi (c : Int32) : Int32 := nar .byte ((c >>> ((8 : Int32) &&& 31)).toInt8.toInt32)
theorem own_narc (c : Int32) (h : ¬ c < 0 ∧ ¬ (65535 : Int32) < c) : nar .char c = c ∧ c.toUInt32.toUInt16.toUInt32.toInt32 = c := by
  have e : c.toUInt32.toUInt16.toUInt32.toInt32 = c := by
    apply Int32.toInt_inj.mp
    have q := c_i2c c
    have h0 : (0 : Int32).toInt = 0 := by decide
    have h1 : (65535 : Int32).toInt = 65535 := by decide
    rw [Int32.lt_iff_toInt_lt, Int32.lt_iff_toInt_lt] at h
    omega
  exact ⟨e, e⟩
theorem own_pair (c : Int32) (h : ¬ c < 0 ∧ ¬ (65535 : Int32) < c) : (((own_lo c &&& (255 : Int32)) <<< ((0 : Int32) &&& 31)) ||| ((own_hi c &&& (255 : Int32)) <<< ((8 : Int32) &&& 31))).toUInt32.toUInt16.toUInt32.toInt32 = c := by
  have h0 : (0 : Int32).toInt = 0 := by decide
  have h1 : (65535 : Int32).toInt = 65535 := by decide
  rw [Int32.lt_iff_toInt_lt, Int32.lt_iff_toInt_lt] at h
  have s0 := c_ishr c 0 0 (by decide)
  have s8 := c_ishr c 8 8 (by decide)
  have b0 := c_i2b (c >>> ((0 : Int32) &&& 31))
  have b8 := c_i2b (c >>> ((8 : Int32) &&& 31))
  have b0' := c_i2b ((c >>> ((0 : Int32) &&& 31)).toInt8.toInt32)
  have b8' := c_i2b ((c >>> ((8 : Int32) &&& 31)).toInt8.toInt32)
  have m0 := c_mask (own_lo c) 255 8 (by decide) (by decide)
  have m8 := c_mask (own_hi c) 255 8 (by decide) (by decide)
  have l0 : (own_lo c).toInt = ((c >>> ((0 : Int32) &&& 31)).toInt8.toInt32).toInt8.toInt32.toInt := rfl
  have l8 : (own_hi c).toInt = ((c >>> ((8 : Int32) &&& 31)).toInt8.toInt32).toInt8.toInt32.toInt := rfl
  have u0 := c_ishl (own_lo c &&& 255) 0 0 (by decide)
  have u8 := c_ishl (own_hi c &&& 255) 8 8 (by decide)
  have r0 := rng32 ((own_lo c &&& 255) <<< ((0 : Int32) &&& 31))
  have r8 := rng32 ((own_hi c &&& 255) <<< ((8 : Int32) &&& 31))
  have e0 : ((own_lo c &&& 255) <<< ((0 : Int32) &&& 31)).toInt = c.toInt % 256 := by omega
  have e8 : ((own_hi c &&& 255) <<< ((8 : Int32) &&& 31)).toInt = c.toInt / 256 * 256 := by omega
  have o := c_or' ((own_lo c &&& 255) <<< ((0 : Int32) &&& 31)) ((own_hi c &&& 255) <<< ((8 : Int32) &&& 31)) 8 (by decide) 256 (by decide) (by omega) (by omega) (by omega)
  have ro := rng32 (((own_lo c &&& 255) <<< ((0 : Int32) &&& 31)) ||| ((own_hi c &&& 255) <<< ((8 : Int32) &&& 31)))
  have eo : (((own_lo c &&& 255) <<< ((0 : Int32) &&& 31)) ||| ((own_hi c &&& 255) <<< ((8 : Int32) &&& 31))) = c := Int32.toInt_inj.mp (by omega)
  rw [eo]
  exact (own_narc c ⟨by rw [Int32.lt_iff_toInt_lt]; omega, by rw [Int32.lt_iff_toInt_lt]; omega⟩).2
theorem own_first (cs : List Int32) (h : ∃ c ∈ cs, (255 : Int32) < c) : ∃ k, k < cs.length ∧ (∀ i, i < k → ¬ (255 : Int32) < cs.getD i 0) ∧ (255 : Int32) < cs.getD k 0 := by
  induction cs with
  | nil => obtain ⟨c, hc, -⟩ := h; cases hc
  | cons a r ih =>
    by_cases q : (255 : Int32) < a
    · exact ⟨0, by simp, fun i hi => absurd hi (Nat.not_lt_zero _), q⟩
    · obtain ⟨c, hc, hq⟩ := h
      rcases List.mem_cons.mp hc with rfl | hc
      · exact absurd hq q
      · obtain ⟨k, h1, h2, h3⟩ := ih ⟨c, hc, hq⟩
        refine ⟨k + 1, by simpa using h1, fun i hi => ?_, by simpa using h3⟩
        cases i with
        | zero => simpa using q
        | succ i => simpa using h2 i (by omega)
theorem own_memD (cs : List Int32) (P : Int32 → Prop) (h : ∀ c ∈ cs, P c) (i : Nat) (hi : i < cs.length) : P (cs.getD i 0) := by
  rw [List.getD_eq_getElem?_getD, List.getElem?_eq_getElem hi]
  exact h _ (List.getElem_mem hi)
theorem own_coder {n : Nat} (h0 : 0 < n) (hn : n ≤ 4000) : ((Int32.ofNat n - Int32.ofNat (2 * n)).toUInt32 >>> ((31 : Int32) &&& 31).toUInt32).toInt32 = 1 := by
  apply Int32.toInt_inj.mp
  have a := c_iushr (Int32.ofNat n - Int32.ofNat (2 * n)) 31 31 (by decide) (by decide)
  have b := c_isub (Int32.ofNat n) (Int32.ofNat (2 * n))
  have r := rng32 (Int32.ofNat n - Int32.ofNat (2 * n))
  rw [(own_tn (by omega)).2, (own_tn (by omega)).2] at b
  have e : (1 : Int32).toInt = 1 := by decide
  rw [a, e]
  omega
def Q_rmNL (Z : State) (n : Nat) (h0 : Heap) (n0 : Nat) (v : Option Value) (h : Heap) (L : List Loc) : Prop := v = some (.int (Int32.ofNat (2 * n))) ∧ Fr n0 L ∧ h = h0
theorem ef_13 (m : MethodId) (x0 : Int32) : entryFrame m #[(.int x0)] 1 = mkF m 0 #[.val (.int x0)] [] := by first | (simp [entryFrame, mkF, argsToLocals, Value.category]; done) | rfl
theorem pn_StringUTF16 : plainName "java/lang/StringUTF16" = true := by first | (simp [plainName, overriddenIn]; done) | decide +kernel
theorem d13_0 : decode jdk_52_method_3_code 0 = .ok (.iload_n 0, 1) := by decide +kernel
theorem d13_1 : decode jdk_52_method_3_code 1 = .ok (.ifCond .ge 11, 3) := by decide +kernel
theorem d13_12 : decode jdk_52_method_3_code 12 = .ok (.iload_n 0, 1) := by decide +kernel
theorem d13_13 : decode jdk_52_method_3_code 13 = .ok (.ldc 20, 2) := by decide +kernel
theorem d13_15 : decode jdk_52_method_3_code 15 = .ok (.if_icmp .lt 40, 3) := by decide +kernel
theorem d13_55 : decode jdk_52_method_3_code 55 = .ok (.iload_n 0, 1) := by decide +kernel
theorem d13_56 : decode jdk_52_method_3_code 56 = .ok (.iconst 1, 1) := by decide +kernel
theorem d13_57 : decode jdk_52_method_3_code 57 = .ok (.ishl, 1) := by decide +kernel
theorem d13_58 : decode jdk_52_method_3_code 58 = .ok (.ireturn, 1) := by decide +kernel
set_option maxRecDepth 65536 in
set_option maxHeartbeats 40000000 in
theorem rmNL (l : Launch) (Z : State) (a0 : Array Value) (hw : ∀ d ∈ tables_1, d.before a0 Z = true) (ws : List Jvm.Cond) (n : Nat) (h0 : Heap) (n0 : Nat) (O0 : Old Z n0 h0) (hn : n ≤ 4000) :
    MetFree l (⟨"java/lang/StringUTF16", "newBytesLength", "(I)I"⟩ : MethodName) (head1 (Jvm.Cond.code (⟨"java/lang/StringUTF16", "newBytesLength", "(I)I"⟩ : MethodName) jdk_52_method_3_code 1 (some .int) :: ws) ({ frames := 0, cells := 0, slots := 0, locals := 0 } : Room)) (fun a U => a = #[(.int (Int32.ofNat n))] ∧ Z.Warmed39 U.vm ∧ U.heap = h0) (fun _ _ _ _ _ => True) (fun _ U o U' => ∃ v L, o = .returned v ∧ Q_rmNL Z n h0 n0 v U'.heap L ∧ FrameEnd U o U' L ({ frames := 0, cells := 0, slots := 0, locals := 0 } : Room).cells ({ frames := 0, cells := 0, slots := 0, locals := 0 } : Room).slots) := by
  refine MetFree.of_bodySF (plainFor_of_name pn_StringUTF16) hisR ?_
  intro p e s m args below meth c s₁ Bd hml0 hP hK
  obtain ⟨rfl, hZ, hh⟩ := hP
  have hx := Bd.exec
  have hby := Bd.bytes
  have hml : c.maxLocals = 1 := hml0
  have hown : s.vm.findClass "java/lang/StringUTF16" = some m.cls := findClass_of_methodNamed Bd.named
  have hnm := (name_of_methodNamed Bd.named Bd.method).1
  have X0 : Stand p l e ({ frames := 0, cells := 0, slots := 0, locals := 0 } : Room) s m #[(.int (Int32.ofNat n))] below meth c s₁ [] 0 0 := Stand.of_body Bd
  have e0 : s₁.heap = h0 := by rw [← hh, Bd.state]; rfl
  have N0 := Fr.nil n0
  obtain ⟨S0, hS0⟩ : ∃ z, z = s₁.setTop (entryFrame m #[(.int (Int32.ofNat n))] 1) := ⟨_, rfl⟩
  have k0 : Rch p e below S0 s₁ (mkF m 0 #[.val (.int (Int32.ofNat n))] []) := fun t kq => hS0 ▸ castTop (ef_13 m (Int32.ofNat n)) kq
  have k1 : Rch p e below S0 s₁ (mkF m 58 #[.val (.int (Int32.ofNat n))] [(.int (Int32.ofNat (2 * n)))]) := fun t h => k0 t (by
      show Steps p.tables e below (s₁.setTop (mkF m 0 #[.val (.int (Int32.ofNat n))] [])) _
      refine XS.iloadN X0.here hx rfl (hb hby d13_0) rfl ?_
      show Steps p.tables e below (s₁.setTop (mkF m 1 #[.val (.int (Int32.ofNat n))] [(.int (Int32.ofNat n))])) _
      refine XS.ifYes X0.here hx rfl (pc0 := 1) (pc' := 12) rfl (hb hby d13_1) rfl ((if0 _ _).trans (flt ((own_on0 (by omega)) : ¬ ((Int32.ofNat n) < (0 : Int32)))).2.1) (by decide) (by decide) ?_
      show Steps p.tables e below (s₁.setTop (mkF m 12 #[.val (.int (Int32.ofNat n))] [])) _
      refine XS.iloadN X0.here hx rfl (hb hby d13_12) rfl ?_
      show Steps p.tables e below (s₁.setTop (mkF m 13 #[.val (.int (Int32.ofNat n))] [(.int (Int32.ofNat n))])) _
      refine X0.ldcInt hx hown (mvT hZ (hw _ (List.mem_of_getElem? (i := 64) rfl))) (g := (mkF m 13 #[.val (.int (Int32.ofNat n))] [(.int (Int32.ofNat n))])) rfl (hb hby d13_13) _ ?_
      show Steps p.tables e below (s₁.setTop (mkF m 15 #[.val (.int (Int32.ofNat n))] [(.int (1073741823 : Int32)), (.int (Int32.ofNat n))])) _
      refine XS.icmpYes X0.here hx rfl (pc0 := 15) (pc' := 55) rfl (hb hby d13_15) rfl (tlt ((own_lt30 (by omega)) : (Int32.ofNat n) < (1073741823 : Int32))).1 (by decide) (by decide) ?_
      show Steps p.tables e below (s₁.setTop (mkF m 55 #[.val (.int (Int32.ofNat n))] [])) _
      refine XS.iloadN X0.here hx rfl (hb hby d13_55) rfl ?_
      show Steps p.tables e below (s₁.setTop (mkF m 56 #[.val (.int (Int32.ofNat n))] [(.int (Int32.ofNat n))])) _
      refine XS.iconst X0.here hx rfl (hb hby d13_56) ?_
      show Steps p.tables e below (s₁.setTop (mkF m 57 #[.val (.int (Int32.ofNat n))] [(.int (1 : Int32)), (.int (Int32.ofNat n))])) _
      refine XS.ishl X0.here hx rfl (hb hby d13_57) rfl ?_
      rw [own_dbl (i := n) (by omega)]
      show Steps p.tables e below (s₁.setTop (mkF m 58 #[.val (.int (Int32.ofNat n))] [(.int (Int32.ofNat (2 * n)))])) _
      exact h)
  obtain ⟨fs, hr, hrun, hended, hW, hsame⟩ := X0.leave (v := (some (.int (Int32.ofNat (2 * n))))) (fun h => by rw [Bd.returns] at h; cases h)
  refine ⟨_, _, ?_, hrun, hended, _, _, rfl, ?_, ⟨_, rfl⟩, hW, hsame.mono (by decide) (by decide)⟩
  · rw [← hS0]
    refine k1 _ ?_
    show Steps p.tables e below (s₁.setTop (mkF m 58 #[.val (.int (Int32.ofNat n))] [(.int (Int32.ofNat (2 * n)))])) _
    exact retI X0 hx Bd.returns (hb hby d13_58) hr
  · show Q_rmNL Z n h0 n0 _ s₁.heap _
    rw [e0]
    exact ⟨rfl, N0, rfl⟩
def Q_rmNF (Z : State) (n : Nat) (h0 : Heap) (n0 : Nat) (v : Option Value) (h : Heap) (L : List Loc) : Prop := ∃ x kx, v = some (.ref x) ∧ Fr n0 L ∧ Ext h0 h ∧ h0.size ≤ x ∧ Arv Z h x kx .byte (Int32.ofNat (2 * n)) [] (.int (0 : Int32))
theorem ef_12 (m : MethodId) (x0 : Int32) : entryFrame m #[(.int x0)] 1 = mkF m 0 #[.val (.int x0)] [] := by first | (simp [entryFrame, mkF, argsToLocals, Value.category]; done) | rfl
theorem d12_0 : decode jdk_52_method_2_code 0 = .ok (.iload_n 0, 1) := by decide +kernel
theorem pd_11 : parseMethodDescriptor "(I)I" = some ⟨[.int], some .int⟩ := by decide +kernel
theorem d12_1 : decode jdk_52_method_2_code 1 = .ok (.invokestatic 11, 3) := by decide +kernel
theorem d12_4 : decode jdk_52_method_2_code 4 = .ok (.newarray .byte, 2) := by decide +kernel
theorem d12_6 : decode jdk_52_method_2_code 6 = .ok (.areturn, 1) := by decide +kernel
set_option maxRecDepth 65536 in
set_option maxHeartbeats 40000000 in
theorem rmNF (l : Launch) (Z : State) (a0 : Array Value) (hw : ∀ d ∈ tables_1, d.before a0 Z = true) (ws : List Jvm.Cond) (n : Nat) (h0 : Heap) (n0 : Nat) (O0 : Old Z n0 h0) (hn : n ≤ 4000) :
    MetFree l (⟨"java/lang/StringUTF16", "newBytesFor", "(I)[B"⟩ : MethodName) (head1 (Jvm.Cond.code (⟨"java/lang/StringUTF16", "newBytesFor", "(I)[B"⟩ : MethodName) jdk_52_method_2_code 1 (some (.array .byte)) :: ws) ({ frames := 1, cells := 1, slots := 8000, locals := 20 } : Room)) (fun a U => a = #[(.int (Int32.ofNat n))] ∧ Z.Warmed39 U.vm ∧ U.heap = h0) (fun _ _ _ _ _ => True) (fun _ U o U' => ∃ v L, o = .returned v ∧ Q_rmNF Z n h0 n0 v U'.heap L ∧ FrameEnd U o U' L ({ frames := 1, cells := 1, slots := 8000, locals := 20 } : Room).cells ({ frames := 1, cells := 1, slots := 8000, locals := 20 } : Room).slots) := by
  refine MetFree.of_bodySF (plainFor_of_name pn_StringUTF16) hisR ?_
  intro p e s m args below meth c s₁ Bd hml0 hP hK
  obtain ⟨rfl, hZ, hh⟩ := hP
  have hx := Bd.exec
  have hby := Bd.bytes
  have hml : c.maxLocals = 1 := hml0
  have hown : s.vm.findClass "java/lang/StringUTF16" = some m.cls := findClass_of_methodNamed Bd.named
  have hnm := (name_of_methodNamed Bd.named Bd.method).1
  have X0 : Stand p l e ({ frames := 1, cells := 1, slots := 8000, locals := 20 } : Room) s m #[(.int (Int32.ofNat n))] below meth c s₁ [] 0 0 := Stand.of_body Bd
  have e0 : s₁.heap = h0 := by rw [← hh, Bd.state]; rfl
  have N0 := Fr.nil n0
  obtain ⟨S0, hS0⟩ : ∃ z, z = s₁.setTop (entryFrame m #[(.int (Int32.ofNat n))] 1) := ⟨_, rfl⟩
  have k0 : Rch p e below S0 s₁ (mkF m 0 #[.val (.int (Int32.ofNat n))] []) := fun t kq => hS0 ▸ castTop (ef_12 m (Int32.ofNat n)) kq
  have K0 : Keep h0 h0 [] := Keep.refl h0 _
  have k2 : Rch p e below S0 s₁ (mkF m 1 #[.val (.int (Int32.ofNat n))] [(.int (Int32.ofNat n))]) := fun t h => k0 t (by
      show Steps p.tables e below (s₁.setTop (mkF m 0 #[.val (.int (Int32.ofNat n))] [])) _
      refine XS.iloadN X0.here hx rfl (hb hby d12_0) rfl ?_
      show Steps p.tables e below (s₁.setTop (mkF m 1 #[.val (.int (Int32.ofNat n))] [(.int (Int32.ofNat n))])) _
      exact h)
  obtain ⟨_, _, ⟨T3, L3, kk3, n3⟩, -, X3, ⟨Lc3, hQ3, l3, y3, z3⟩, st3⟩ := Jvm.LawKit.callS X0 hx (y := (⟨"java/lang/StringUTF16", "newBytesLength", "(I)I"⟩ : MethodName)) hown (mvT hZ (hw _ (List.mem_of_getElem? (i := 61) rfl))) (mvT hZ (hw _ (List.mem_of_getElem? (i := 62) rfl))) (mvT hZ (hw _ (List.mem_of_getElem? (i := 47) rfl))) (mvT hZ (hw _ (List.mem_of_getElem? (i := 63) rfl))) (by decide) (backOf (W := 0) (rmNL l Z a0 hw [] n  h0 n0 O0 hn) hZ (hw _ (List.mem_of_getElem? (i := 63) rfl)) (hw _ (List.mem_of_getElem? (i := 47) rfl)) (by decide) (by decide)) (g := (mkF m 1 #[.val (.int (Int32.ofNat n))] [(.int (Int32.ofNat n))])) rfl (by rw [hml]; rfl) (argsL := [(.int (Int32.ofNat n))]) (rest := []) (lenOf pd_11 rfl) rfl (by show 2 * 0 + _ ≤ _; exact Nat.le_of_eq rfl) (hb hby d12_1) (fun _ _ => ⟨rfl, e0, (by decide : 0 + 0 ≤ _), (by decide : 0 + 0 ≤ _)⟩)
  dsimp only [Pt.U, Pt.locs, Pt.cells, Pt.slots] at X3 l3 y3 z3 st3 hQ3
  subst l3 y3 z3
  obtain ⟨rfl, Nq3, hh3⟩ := hQ3
  have N3 := Fr.app N0 Nq3
  have k4 : Rch p e below S0 T3 (mkF m 4 #[.val (.int (Int32.ofNat n))] [(.int (Int32.ofNat (2 * n)))]) := fun t h => k2 t (st3 t h)
  obtain ⟨T5, h5, k5, X5, e5, E5, A5, st5⟩ := newP X3 hx hZ (hw _ (List.mem_of_getElem? (i := 16) rfl)) hh3 (g := (mkF m 4 #[.val (.int (Int32.ofNat n))] [(.int (Int32.ofNat (2 * n)))])) rfl (hb hby d12_4) rfl (own_on0 (by omega)) (cap := 8000) (by rw [(own_tn (by omega)).1]; omega) (by decide) (by decide) (by decide)
  obtain ⟨b5, g5⟩ : ∃ z, z = h0.size := ⟨_, rfl⟩
  rw [← g5] at A5 st5
  have k6 : Rch p e below S0 T5 (mkF m 6 #[.val (.int (Int32.ofNat n))] [(.ref b5)]) := fun t h => k4 t (st5 t h)
  have ge_b5 : n0 ≤ b5 := own_ge O0 (Nat.le_of_eq g5.symm)
  have sz_b5 : h0.size ≤ b5 := Nat.le_trans K0.1 (Nat.le_of_eq g5.symm)
  have O7 := O0.ext E5
  have K8 := K0.ext E5
  have V_b5 : Arv Z h5 b5 k5 .byte (Int32.ofNat (2 * n)) [] (.int (0 : Int32)) := Arv.new A5 (own_on0 (by omega))
  obtain ⟨fs, hr, hrun, hended, hW, hsame⟩ := X5.leave (v := (some (.ref b5))) (fun h => by rw [Bd.returns] at h; cases h)
  refine ⟨_, _, ?_, hrun, hended, _, _, rfl, ?_, ⟨_, rfl⟩, hW, hsame.mono (by decide) (by decide)⟩
  · rw [← hS0]
    refine k6 _ ?_
    show Steps p.tables e below (T5.setTop (mkF m 6 #[.val (.int (Int32.ofNat n))] [(.ref b5)])) _
    jvm_step X5.here [X5.here.top, hx, (hb hby d12_6), X5.method', Bd.returns, Value.isRef, FieldType.isReference]
    first | (intro acts; rw [hr _ acts rfl rfl rfl]) | rw [hr _ _ rfl rfl rfl]
    exact Steps.refl _
  · show Q_rmNF Z n h0 n0 _ T5.heap _
    rw [e5]
    exact ⟨b5, k5, rfl, N3, own_ext K8, sz_b5, V_b5⟩
def Q_rmPC (Z : State) (rb : Addr) (i : Nat) (ch : Int32) (kb : ClassId) (n : Nat) (vs : List Value) (h0 : Heap) (n0 : Nat) (v : Option Value) (h : Heap) (L : List Loc) : Prop := v = none ∧ Fr n0 L ∧ Keep h0 h [rb] ∧ Arv Z h rb kb .byte (Int32.ofNat (2 * n)) ((vs.set (2 * i) (.int (own_lo ch))).set (2 * i + 1) (.int (own_hi ch))) (.int (0 : Int32))
theorem ef_14 (m : MethodId) (x0 : Addr) (x1 : Int32) (x2 : Int32) : entryFrame m #[(.ref x0), (.int x1), (.int x2)] 3 = mkF m 0 #[.val (.ref x0), .val (.int x1), .val (.int x2)] [] := by first | (simp [entryFrame, mkF, argsToLocals, Value.category]; done) | rfl
theorem d14_0 : decode jdk_52_method_4_code 0 = .ok (.getstatic 44, 3) := by decide +kernel
theorem d14_3 : decode jdk_52_method_4_code 3 = .ok (.ifCond .ne 25, 3) := by decide +kernel
theorem d14_28 : decode jdk_52_method_4_code 28 = .ok (.iload_n 1, 1) := by decide +kernel
theorem d14_29 : decode jdk_52_method_4_code 29 = .ok (.iconst 1, 1) := by decide +kernel
theorem d14_30 : decode jdk_52_method_4_code 30 = .ok (.ishl, 1) := by decide +kernel
theorem d14_31 : decode jdk_52_method_4_code 31 = .ok (.istore_n 1, 1) := by decide +kernel
theorem d14_32 : decode jdk_52_method_4_code 32 = .ok (.aload_n 0, 1) := by decide +kernel
theorem d14_33 : decode jdk_52_method_4_code 33 = .ok (.iload_n 1, 1) := by decide +kernel
theorem d14_34 : decode jdk_52_method_4_code 34 = .ok (.iinc 1 1, 3) := by decide +kernel
theorem d14_37 : decode jdk_52_method_4_code 37 = .ok (.iload_n 2, 1) := by decide +kernel
theorem d14_38 : decode jdk_52_method_4_code 38 = .ok (.getstatic 59, 3) := by decide +kernel
theorem d14_41 : decode jdk_52_method_4_code 41 = .ok (.ishr, 1) := by decide +kernel
theorem d14_42 : decode jdk_52_method_4_code 42 = .ok (.i2b, 1) := by decide +kernel
theorem d14_43 : decode jdk_52_method_4_code 43 = .ok (.bastore, 1) := by decide +kernel
theorem d14_44 : decode jdk_52_method_4_code 44 = .ok (.aload_n 0, 1) := by decide +kernel
theorem d14_45 : decode jdk_52_method_4_code 45 = .ok (.iload_n 1, 1) := by decide +kernel
theorem d14_46 : decode jdk_52_method_4_code 46 = .ok (.iload_n 2, 1) := by decide +kernel
theorem d14_47 : decode jdk_52_method_4_code 47 = .ok (.getstatic 63, 3) := by decide +kernel
theorem d14_50 : decode jdk_52_method_4_code 50 = .ok (.ishr, 1) := by decide +kernel
theorem d14_51 : decode jdk_52_method_4_code 51 = .ok (.i2b, 1) := by decide +kernel
theorem d14_52 : decode jdk_52_method_4_code 52 = .ok (.bastore, 1) := by decide +kernel
theorem d14_53 : decode jdk_52_method_4_code 53 = .ok (.return_, 1) := by decide +kernel
set_option maxRecDepth 65536 in
set_option maxHeartbeats 40000000 in
theorem rmPC (l : Launch) (Z : State) (a0 : Array Value) (hw : ∀ d ∈ tables_1, d.before a0 Z = true) (ws : List Jvm.Cond) (rb : Addr) (i : Nat) (ch : Int32) (kb : ClassId) (n : Nat) (vs : List Value) (h0 : Heap) (n0 : Nat) (O0 : Old Z n0 h0) (SAs : Sta Z Z.heap "java/lang/StringUTF16" "$assertionsDisabled" "Z" (.int (1 : Int32))) (SHi : Sta Z Z.heap "java/lang/StringUTF16" "HI_BYTE_SHIFT" "I" (.int (0 : Int32))) (SLo : Sta Z Z.heap "java/lang/StringUTF16" "LO_BYTE_SHIFT" "I" (.int (8 : Int32))) (ge_rb : n0 ≤ rb) (hn : n ≤ 4000) (hi : i < n) (hl : vs.length = 2 * n) (Vb : Arv Z h0 rb kb .byte (Int32.ofNat (2 * n)) vs (.int (0 : Int32))) :
    MetFree l (⟨"java/lang/StringUTF16", "putChar", "([BII)V"⟩ : MethodName) (head1 (Jvm.Cond.code (⟨"java/lang/StringUTF16", "putChar", "([BII)V"⟩ : MethodName) jdk_52_method_4_code 3 none :: ws) ({ frames := 0, cells := 0, slots := 0, locals := 0 } : Room)) (fun a U => a = #[(.ref rb), (.int (Int32.ofNat i)), (.int ch)] ∧ Z.Warmed39 U.vm ∧ U.heap = h0) (fun _ _ _ _ _ => True) (fun _ U o U' => ∃ v L, o = .returned v ∧ Q_rmPC Z rb i ch kb n vs h0 n0 v U'.heap L ∧ FrameEnd U o U' L ({ frames := 0, cells := 0, slots := 0, locals := 0 } : Room).cells ({ frames := 0, cells := 0, slots := 0, locals := 0 } : Room).slots) := by
  refine MetFree.of_bodySF (plainFor_of_name pn_StringUTF16) hisR ?_
  intro p e s m args below meth c s₁ Bd hml0 hP hK
  obtain ⟨rfl, hZ, hh⟩ := hP
  have hx := Bd.exec
  have hby := Bd.bytes
  have hml : c.maxLocals = 3 := hml0
  have hown : s.vm.findClass "java/lang/StringUTF16" = some m.cls := findClass_of_methodNamed Bd.named
  have hnm := (name_of_methodNamed Bd.named Bd.method).1
  have X0 : Stand p l e ({ frames := 0, cells := 0, slots := 0, locals := 0 } : Room) s m #[(.ref rb), (.int (Int32.ofNat i)), (.int ch)] below meth c s₁ [] 0 0 := Stand.of_body Bd
  have e0 : s₁.heap = h0 := by rw [← hh, Bd.state]; rfl
  have N0 := Fr.nil n0
  obtain ⟨S0, hS0⟩ : ∃ z, z = s₁.setTop (entryFrame m #[(.ref rb), (.int (Int32.ofNat i)), (.int ch)] 3) := ⟨_, rfl⟩
  have k0 : Rch p e below S0 s₁ (mkF m 0 #[.val (.ref rb), .val (.int (Int32.ofNat i)), .val (.int ch)] []) := fun t kq => hS0 ▸ castTop (ef_14 m rb (Int32.ofNat i) ch) kq
  have K0 : Keep h0 h0 [rb] := Keep.refl h0 _
  obtain ⟨T9, X9, e9, st9⟩ := getS2 X0 hx hZ hown (host := "") (Or.inl (hw _ (List.mem_of_getElem? (i := 68) rfl))) Via.refl e0 (SAs.ext O0.2) (g := (mkF m 0 #[.val (.ref rb), .val (.int (Int32.ofNat i)), .val (.int ch)] [])) rfl (hb hby d14_0)
  have k10 : Rch p e below S0 T9 (mkF m 3 #[.val (.ref rb), .val (.int (Int32.ofNat i)), .val (.int ch)] [(.int (1 : Int32))]) := fun t h => k0 t (st9 t h)
  have k12 : Rch p e below S0 T9 (mkF m 38 #[.val (.ref rb), .val (.int (Int32.ofNat (2 * i + 1))), .val (.int ch)] [(.int ch), (.int (Int32.ofNat (2 * i))), (.ref rb)]) := fun t h => k10 t (by
      show Steps p.tables e below (T9.setTop (mkF m 3 #[.val (.ref rb), .val (.int (Int32.ofNat i)), .val (.int ch)] [(.int (1 : Int32))])) _
      refine XS.ifYes X9.here hx rfl (pc0 := 3) (pc' := 28) rfl (hb hby d14_3) rfl ((if0 _ _).trans (feq (by decide : ¬ ((1 : Int32) = (0 : Int32)))).2) (by decide) (by decide) ?_
      show Steps p.tables e below (T9.setTop (mkF m 28 #[.val (.ref rb), .val (.int (Int32.ofNat i)), .val (.int ch)] [])) _
      refine XS.iloadN X9.here hx rfl (hb hby d14_28) rfl ?_
      show Steps p.tables e below (T9.setTop (mkF m 29 #[.val (.ref rb), .val (.int (Int32.ofNat i)), .val (.int ch)] [(.int (Int32.ofNat i))])) _
      refine XS.iconst X9.here hx rfl (hb hby d14_29) ?_
      show Steps p.tables e below (T9.setTop (mkF m 30 #[.val (.ref rb), .val (.int (Int32.ofNat i)), .val (.int ch)] [(.int (1 : Int32)), (.int (Int32.ofNat i))])) _
      refine XS.ishl X9.here hx rfl (hb hby d14_30) rfl ?_
      rw [own_dbl (i := i) (by omega)]
      show Steps p.tables e below (T9.setTop (mkF m 31 #[.val (.ref rb), .val (.int (Int32.ofNat i)), .val (.int ch)] [(.int (Int32.ofNat (2 * i)))])) _
      refine XS.istoreN X9.here hx rfl (hb hby d14_31) rfl (l' := #[.val (.ref rb), .val (.int (Int32.ofNat (2 * i))), .val (.int ch)]) rfl ?_
      show Steps p.tables e below (T9.setTop (mkF m 32 #[.val (.ref rb), .val (.int (Int32.ofNat (2 * i))), .val (.int ch)] [])) _
      refine XS.aloadN X9.here hx rfl (hb hby d14_32) rfl rfl ?_
      show Steps p.tables e below (T9.setTop (mkF m 33 #[.val (.ref rb), .val (.int (Int32.ofNat (2 * i))), .val (.int ch)] [(.ref rb)])) _
      refine XS.iloadN X9.here hx rfl (hb hby d14_33) rfl ?_
      show Steps p.tables e below (T9.setTop (mkF m 34 #[.val (.ref rb), .val (.int (Int32.ofNat (2 * i))), .val (.int ch)] [(.int (Int32.ofNat (2 * i))), (.ref rb)])) _
      refine XS.iinc X9.here hx rfl (hb hby d14_34) rfl (l' := #[.val (.ref rb), .val (.int ((Int32.ofNat (2 * i)) + (1 : Int32))), .val (.int ch)]) rfl ?_
      rw [own_inc (i := 2 * i) (by omega)]
      show Steps p.tables e below (T9.setTop (mkF m 37 #[.val (.ref rb), .val (.int (Int32.ofNat (2 * i + 1))), .val (.int ch)] [(.int (Int32.ofNat (2 * i))), (.ref rb)])) _
      refine XS.iloadN X9.here hx rfl (hb hby d14_37) rfl ?_
      show Steps p.tables e below (T9.setTop (mkF m 38 #[.val (.ref rb), .val (.int (Int32.ofNat (2 * i + 1))), .val (.int ch)] [(.int ch), (.int (Int32.ofNat (2 * i))), (.ref rb)])) _
      exact h)
  obtain ⟨T11, X11, e11, st11⟩ := getS2 X9 hx hZ hown (host := "") (Or.inl (hw _ (List.mem_of_getElem? (i := 69) rfl))) Via.refl e9 (SHi.ext O0.2) (g := (mkF m 38 #[.val (.ref rb), .val (.int (Int32.ofNat (2 * i + 1))), .val (.int ch)] [(.int ch), (.int (Int32.ofNat (2 * i))), (.ref rb)])) rfl (hb hby d14_38)
  have k13 : Rch p e below S0 T11 (mkF m 41 #[.val (.ref rb), .val (.int (Int32.ofNat (2 * i + 1))), .val (.int ch)] [(.int (0 : Int32)), (.int ch), (.int (Int32.ofNat (2 * i))), (.ref rb)]) := fun t h => k12 t (st11 t h)
  have k15 : Rch p e below S0 T11 (mkF m 43 #[.val (.ref rb), .val (.int (Int32.ofNat (2 * i + 1))), .val (.int ch)] [(.int ((ch >>> ((0 : Int32) &&& 31)).toInt8.toInt32)), (.int (Int32.ofNat (2 * i))), (.ref rb)]) := fun t h => k13 t (by
      show Steps p.tables e below (T11.setTop (mkF m 41 #[.val (.ref rb), .val (.int (Int32.ofNat (2 * i + 1))), .val (.int ch)] [(.int (0 : Int32)), (.int ch), (.int (Int32.ofNat (2 * i))), (.ref rb)])) _
      refine XS.ishr X11.here hx rfl (hb hby d14_41) rfl ?_
      show Steps p.tables e below (T11.setTop (mkF m 42 #[.val (.ref rb), .val (.int (Int32.ofNat (2 * i + 1))), .val (.int ch)] [(.int (ch >>> ((0 : Int32) &&& 31))), (.int (Int32.ofNat (2 * i))), (.ref rb)])) _
      refine XS.i2b X11.here hx rfl (hb hby d14_42) rfl ?_
      show Steps p.tables e below (T11.setTop (mkF m 43 #[.val (.ref rb), .val (.int (Int32.ofNat (2 * i + 1))), .val (.int ch)] [(.int ((ch >>> ((0 : Int32) &&& 31)).toInt8.toInt32)), (.int (Int32.ofNat (2 * i))), (.ref rb)])) _
      exact h)
  obtain ⟨cl14, Ar14, q14, Sz14, Ng14, Hs14, G14⟩ := id Vb
  have hin14 : ¬ ((Int32.ofNat (2 * i)) < 0 ∨ cl14.slots.size ≤ ((Int32.ofNat (2 * i))).toNatClampNeg) := inb_of Sz14 (own_inb (by omega) (by omega))
  obtain ⟨T14, h14, X14, e14, W14, st14⟩ := stB X11 hx hZ e11 Ar14 (j := (Int32.ofNat (2 * i))) hin14 (g := (mkF m 43 #[.val (.ref rb), .val (.int (Int32.ofNat (2 * i + 1))), .val (.int ch)] [(.int ((ch >>> ((0 : Int32) &&& 31)).toInt8.toInt32)), (.int (Int32.ofNat (2 * i))), (.ref rb)])) rfl rfl (hb hby d14_43)
  have k16 : Rch p e below S0 T14 (mkF m 44 #[.val (.ref rb), .val (.int (Int32.ofNat (2 * i + 1))), .val (.int ch)] []) := fun t h => k15 t (st14 t h)
  have N14 := Fr.snoc X14 N0 ge_rb
  have Vb' := Arv.set Ar14 q14 Sz14 Ng14 Hs14 G14 (fits_nar_byte _) W14 (2 * i) (own_tn (by omega)).1 (by omega)
  replace Vb := Vb'
  have O17 := O0.wr W14 ge_rb
  have K18 := K0.wr W14 (Or.inl (List.mem_of_getElem? (i := 0) rfl))
  have k20 : Rch p e below S0 T14 (mkF m 47 #[.val (.ref rb), .val (.int (Int32.ofNat (2 * i + 1))), .val (.int ch)] [(.int ch), (.int (Int32.ofNat (2 * i + 1))), (.ref rb)]) := fun t h => k16 t (by
      show Steps p.tables e below (T14.setTop (mkF m 44 #[.val (.ref rb), .val (.int (Int32.ofNat (2 * i + 1))), .val (.int ch)] [])) _
      refine XS.aloadN X14.here hx rfl (hb hby d14_44) rfl rfl ?_
      show Steps p.tables e below (T14.setTop (mkF m 45 #[.val (.ref rb), .val (.int (Int32.ofNat (2 * i + 1))), .val (.int ch)] [(.ref rb)])) _
      refine XS.iloadN X14.here hx rfl (hb hby d14_45) rfl ?_
      show Steps p.tables e below (T14.setTop (mkF m 46 #[.val (.ref rb), .val (.int (Int32.ofNat (2 * i + 1))), .val (.int ch)] [(.int (Int32.ofNat (2 * i + 1))), (.ref rb)])) _
      refine XS.iloadN X14.here hx rfl (hb hby d14_46) rfl ?_
      show Steps p.tables e below (T14.setTop (mkF m 47 #[.val (.ref rb), .val (.int (Int32.ofNat (2 * i + 1))), .val (.int ch)] [(.int ch), (.int (Int32.ofNat (2 * i + 1))), (.ref rb)])) _
      exact h)
  obtain ⟨T19, X19, e19, st19⟩ := getS2 X14 hx hZ hown (host := "") (Or.inl (hw _ (List.mem_of_getElem? (i := 70) rfl))) Via.refl e14 (SLo.ext O17.2) (g := (mkF m 47 #[.val (.ref rb), .val (.int (Int32.ofNat (2 * i + 1))), .val (.int ch)] [(.int ch), (.int (Int32.ofNat (2 * i + 1))), (.ref rb)])) rfl (hb hby d14_47)
  have k21 : Rch p e below S0 T19 (mkF m 50 #[.val (.ref rb), .val (.int (Int32.ofNat (2 * i + 1))), .val (.int ch)] [(.int (8 : Int32)), (.int ch), (.int (Int32.ofNat (2 * i + 1))), (.ref rb)]) := fun t h => k20 t (st19 t h)
  have k23 : Rch p e below S0 T19 (mkF m 52 #[.val (.ref rb), .val (.int (Int32.ofNat (2 * i + 1))), .val (.int ch)] [(.int ((ch >>> ((8 : Int32) &&& 31)).toInt8.toInt32)), (.int (Int32.ofNat (2 * i + 1))), (.ref rb)]) := fun t h => k21 t (by
      show Steps p.tables e below (T19.setTop (mkF m 50 #[.val (.ref rb), .val (.int (Int32.ofNat (2 * i + 1))), .val (.int ch)] [(.int (8 : Int32)), (.int ch), (.int (Int32.ofNat (2 * i + 1))), (.ref rb)])) _
      refine XS.ishr X19.here hx rfl (hb hby d14_50) rfl ?_
      show Steps p.tables e below (T19.setTop (mkF m 51 #[.val (.ref rb), .val (.int (Int32.ofNat (2 * i + 1))), .val (.int ch)] [(.int (ch >>> ((8 : Int32) &&& 31))), (.int (Int32.ofNat (2 * i + 1))), (.ref rb)])) _
      refine XS.i2b X19.here hx rfl (hb hby d14_51) rfl ?_
      show Steps p.tables e below (T19.setTop (mkF m 52 #[.val (.ref rb), .val (.int (Int32.ofNat (2 * i + 1))), .val (.int ch)] [(.int ((ch >>> ((8 : Int32) &&& 31)).toInt8.toInt32)), (.int (Int32.ofNat (2 * i + 1))), (.ref rb)])) _
      exact h)
  obtain ⟨cl22, Ar22, q22, Sz22, Ng22, Hs22, G22⟩ := id Vb
  have hin22 : ¬ ((Int32.ofNat (2 * i + 1)) < 0 ∨ cl22.slots.size ≤ ((Int32.ofNat (2 * i + 1))).toNatClampNeg) := inb_of Sz22 (own_inb (by omega) (by omega))
  obtain ⟨T22, h22, X22, e22, W22, st22⟩ := stB X19 hx hZ e19 Ar22 (j := (Int32.ofNat (2 * i + 1))) hin22 (g := (mkF m 52 #[.val (.ref rb), .val (.int (Int32.ofNat (2 * i + 1))), .val (.int ch)] [(.int ((ch >>> ((8 : Int32) &&& 31)).toInt8.toInt32)), (.int (Int32.ofNat (2 * i + 1))), (.ref rb)])) rfl rfl (hb hby d14_52)
  have k24 : Rch p e below S0 T22 (mkF m 53 #[.val (.ref rb), .val (.int (Int32.ofNat (2 * i + 1))), .val (.int ch)] []) := fun t h => k23 t (st22 t h)
  have N22 := Fr.snoc X22 N14 ge_rb
  have Vb' := Arv.set Ar22 q22 Sz22 Ng22 Hs22 G22 (fits_nar_byte _) W22 (2 * i + 1) (own_tn (by omega)).1 (by rw [List.length_set]; omega)
  replace Vb := Vb'
  have O25 := O17.wr W22 ge_rb
  have K26 := K18.wr W22 (Or.inl (List.mem_of_getElem? (i := 0) rfl))
  obtain ⟨fs, hr, hrun, hended, hW, hsame⟩ := X22.leave (v := none) (fun _ => rfl)
  refine ⟨_, _, ?_, hrun, hended, _, _, rfl, ?_, ⟨_, rfl⟩, hW, hsame.mono (by decide) (by decide)⟩
  · rw [← hS0]
    refine k24 _ ?_
    show Steps p.tables e below (T22.setTop (mkF m 53 #[.val (.ref rb), .val (.int (Int32.ofNat (2 * i + 1))), .val (.int ch)] [])) _
    exact X22.returnOut hx Bd.returns (hb hby d14_53) hr
  · show Q_rmPC Z rb i ch kb n vs h0 n0 _ T22.heap _
    rw [e22]
    exact ⟨rfl, N22, K26, Vb⟩
def Q_rmGC (Z : State) (ch : Int32) (h0 : Heap) (n0 : Nat) (v : Option Value) (h : Heap) (L : List Loc) : Prop := v = some (.int ch) ∧ Fr n0 L ∧ h = h0
theorem ef_15 (m : MethodId) (x0 : Addr) (x1 : Int32) : entryFrame m #[(.ref x0), (.int x1)] 2 = mkF m 0 #[.val (.ref x0), .val (.int x1)] [] := by first | (simp [entryFrame, mkF, argsToLocals, Value.category]; done) | rfl
theorem d15_0 : decode jdk_52_method_5_code 0 = .ok (.getstatic 44, 3) := by decide +kernel
theorem d15_3 : decode jdk_52_method_5_code 3 = .ok (.ifCond .ne 25, 3) := by decide +kernel
theorem d15_28 : decode jdk_52_method_5_code 28 = .ok (.iload_n 1, 1) := by decide +kernel
theorem d15_29 : decode jdk_52_method_5_code 29 = .ok (.iconst 1, 1) := by decide +kernel
theorem d15_30 : decode jdk_52_method_5_code 30 = .ok (.ishl, 1) := by decide +kernel
theorem d15_31 : decode jdk_52_method_5_code 31 = .ok (.istore_n 1, 1) := by decide +kernel
theorem d15_32 : decode jdk_52_method_5_code 32 = .ok (.aload_n 0, 1) := by decide +kernel
theorem d15_33 : decode jdk_52_method_5_code 33 = .ok (.iload_n 1, 1) := by decide +kernel
theorem d15_34 : decode jdk_52_method_5_code 34 = .ok (.iinc 1 1, 3) := by decide +kernel
theorem d15_37 : decode jdk_52_method_5_code 37 = .ok (.baload, 1) := by decide +kernel
theorem d15_38 : decode jdk_52_method_5_code 38 = .ok (.sipush 255, 3) := by decide +kernel
theorem d15_41 : decode jdk_52_method_5_code 41 = .ok (.iand, 1) := by decide +kernel
theorem d15_42 : decode jdk_52_method_5_code 42 = .ok (.getstatic 59, 3) := by decide +kernel
theorem d15_45 : decode jdk_52_method_5_code 45 = .ok (.ishl, 1) := by decide +kernel
theorem d15_46 : decode jdk_52_method_5_code 46 = .ok (.aload_n 0, 1) := by decide +kernel
theorem d15_47 : decode jdk_52_method_5_code 47 = .ok (.iload_n 1, 1) := by decide +kernel
theorem d15_48 : decode jdk_52_method_5_code 48 = .ok (.baload, 1) := by decide +kernel
theorem d15_49 : decode jdk_52_method_5_code 49 = .ok (.sipush 255, 3) := by decide +kernel
theorem d15_52 : decode jdk_52_method_5_code 52 = .ok (.iand, 1) := by decide +kernel
theorem d15_53 : decode jdk_52_method_5_code 53 = .ok (.getstatic 63, 3) := by decide +kernel
theorem d15_56 : decode jdk_52_method_5_code 56 = .ok (.ishl, 1) := by decide +kernel
theorem d15_57 : decode jdk_52_method_5_code 57 = .ok (.ior, 1) := by decide +kernel
theorem d15_58 : decode jdk_52_method_5_code 58 = .ok (.i2c, 1) := by decide +kernel
theorem d15_59 : decode jdk_52_method_5_code 59 = .ok (.ireturn, 1) := by decide +kernel
set_option maxRecDepth 65536 in
set_option maxHeartbeats 40000000 in
theorem rmGC (l : Launch) (Z : State) (a0 : Array Value) (hw : ∀ d ∈ tables_1, d.before a0 Z = true) (ws : List Jvm.Cond) (rb : Addr) (k : Nat) (kb : ClassId) (n : Nat) (vs : List Value) (ch : Int32) (h0 : Heap) (n0 : Nat) (O0 : Old Z n0 h0) (SAs : Sta Z Z.heap "java/lang/StringUTF16" "$assertionsDisabled" "Z" (.int (1 : Int32))) (SHi : Sta Z Z.heap "java/lang/StringUTF16" "HI_BYTE_SHIFT" "I" (.int (0 : Int32))) (SLo : Sta Z Z.heap "java/lang/StringUTF16" "LO_BYTE_SHIFT" "I" (.int (8 : Int32))) (hn : n ≤ 4000) (hi : k < n) (hc : ¬ ch < 0 ∧ ¬ (65535 : Int32) < ch) (u0 : vs.getD (2 * k) (.int (0 : Int32)) = .int (own_lo ch)) (u1 : vs.getD (2 * k + 1) (.int (0 : Int32)) = .int (own_hi ch)) (Vb : Arv Z h0 rb kb .byte (Int32.ofNat (2 * n)) vs (.int (0 : Int32))) :
    MetFree l (⟨"java/lang/StringUTF16", "getChar", "([BI)C"⟩ : MethodName) (head1 (Jvm.Cond.code (⟨"java/lang/StringUTF16", "getChar", "([BI)C"⟩ : MethodName) jdk_52_method_5_code 2 (some .char) :: ws) ({ frames := 0, cells := 0, slots := 0, locals := 0 } : Room)) (fun a U => a = #[(.ref rb), (.int (Int32.ofNat k))] ∧ Z.Warmed39 U.vm ∧ U.heap = h0) (fun _ _ _ _ _ => True) (fun _ U o U' => ∃ v L, o = .returned v ∧ Q_rmGC Z ch h0 n0 v U'.heap L ∧ FrameEnd U o U' L ({ frames := 0, cells := 0, slots := 0, locals := 0 } : Room).cells ({ frames := 0, cells := 0, slots := 0, locals := 0 } : Room).slots) := by
  refine MetFree.of_bodySF (plainFor_of_name pn_StringUTF16) hisR ?_
  intro p e s m args below meth c s₁ Bd hml0 hP hK
  obtain ⟨rfl, hZ, hh⟩ := hP
  have hx := Bd.exec
  have hby := Bd.bytes
  have hml : c.maxLocals = 2 := hml0
  have hown : s.vm.findClass "java/lang/StringUTF16" = some m.cls := findClass_of_methodNamed Bd.named
  have hnm := (name_of_methodNamed Bd.named Bd.method).1
  have X0 : Stand p l e ({ frames := 0, cells := 0, slots := 0, locals := 0 } : Room) s m #[(.ref rb), (.int (Int32.ofNat k))] below meth c s₁ [] 0 0 := Stand.of_body Bd
  have e0 : s₁.heap = h0 := by rw [← hh, Bd.state]; rfl
  have N0 := Fr.nil n0
  obtain ⟨S0, hS0⟩ : ∃ z, z = s₁.setTop (entryFrame m #[(.ref rb), (.int (Int32.ofNat k))] 2) := ⟨_, rfl⟩
  have k0 : Rch p e below S0 s₁ (mkF m 0 #[.val (.ref rb), .val (.int (Int32.ofNat k))] []) := fun t kq => hS0 ▸ castTop (ef_15 m rb (Int32.ofNat k)) kq
  obtain ⟨T27, X27, e27, st27⟩ := getS2 X0 hx hZ hown (host := "") (Or.inl (hw _ (List.mem_of_getElem? (i := 68) rfl))) Via.refl e0 (SAs.ext O0.2) (g := (mkF m 0 #[.val (.ref rb), .val (.int (Int32.ofNat k))] [])) rfl (hb hby d15_0)
  have k28 : Rch p e below S0 T27 (mkF m 3 #[.val (.ref rb), .val (.int (Int32.ofNat k))] [(.int (1 : Int32))]) := fun t h => k0 t (st27 t h)
  have k30 : Rch p e below S0 T27 (mkF m 37 #[.val (.ref rb), .val (.int (Int32.ofNat (2 * k + 1)))] [(.int (Int32.ofNat (2 * k))), (.ref rb)]) := fun t h => k28 t (by
      show Steps p.tables e below (T27.setTop (mkF m 3 #[.val (.ref rb), .val (.int (Int32.ofNat k))] [(.int (1 : Int32))])) _
      refine XS.ifYes X27.here hx rfl (pc0 := 3) (pc' := 28) rfl (hb hby d15_3) rfl ((if0 _ _).trans (feq (by decide : ¬ ((1 : Int32) = (0 : Int32)))).2) (by decide) (by decide) ?_
      show Steps p.tables e below (T27.setTop (mkF m 28 #[.val (.ref rb), .val (.int (Int32.ofNat k))] [])) _
      refine XS.iloadN X27.here hx rfl (hb hby d15_28) rfl ?_
      show Steps p.tables e below (T27.setTop (mkF m 29 #[.val (.ref rb), .val (.int (Int32.ofNat k))] [(.int (Int32.ofNat k))])) _
      refine XS.iconst X27.here hx rfl (hb hby d15_29) ?_
      show Steps p.tables e below (T27.setTop (mkF m 30 #[.val (.ref rb), .val (.int (Int32.ofNat k))] [(.int (1 : Int32)), (.int (Int32.ofNat k))])) _
      refine XS.ishl X27.here hx rfl (hb hby d15_30) rfl ?_
      rw [own_dbl (i := k) (by omega)]
      show Steps p.tables e below (T27.setTop (mkF m 31 #[.val (.ref rb), .val (.int (Int32.ofNat k))] [(.int (Int32.ofNat (2 * k)))])) _
      refine XS.istoreN X27.here hx rfl (hb hby d15_31) rfl (l' := #[.val (.ref rb), .val (.int (Int32.ofNat (2 * k)))]) rfl ?_
      show Steps p.tables e below (T27.setTop (mkF m 32 #[.val (.ref rb), .val (.int (Int32.ofNat (2 * k)))] [])) _
      refine XS.aloadN X27.here hx rfl (hb hby d15_32) rfl rfl ?_
      show Steps p.tables e below (T27.setTop (mkF m 33 #[.val (.ref rb), .val (.int (Int32.ofNat (2 * k)))] [(.ref rb)])) _
      refine XS.iloadN X27.here hx rfl (hb hby d15_33) rfl ?_
      show Steps p.tables e below (T27.setTop (mkF m 34 #[.val (.ref rb), .val (.int (Int32.ofNat (2 * k)))] [(.int (Int32.ofNat (2 * k))), (.ref rb)])) _
      refine XS.iinc X27.here hx rfl (hb hby d15_34) rfl (l' := #[.val (.ref rb), .val (.int ((Int32.ofNat (2 * k)) + (1 : Int32)))]) rfl ?_
      rw [own_inc (i := 2 * k) (by omega)]
      show Steps p.tables e below (T27.setTop (mkF m 37 #[.val (.ref rb), .val (.int (Int32.ofNat (2 * k + 1)))] [(.int (Int32.ofNat (2 * k))), (.ref rb)])) _
      exact h)
  obtain ⟨cl29, Ar29, q29, Sz29, Ng29, Hs29, G29⟩ := id Vb
  have hin29 : ¬ ((Int32.ofNat (2 * k)) < 0 ∨ cl29.slots.size ≤ ((Int32.ofNat (2 * k))).toNatClampNeg) := inb_of Sz29 (own_inb (by omega) (by omega))
  have hat29 : cl29.slots[((Int32.ofNat (2 * k))).toNatClampNeg]? = some (.int (own_lo ch)) := Hs29.at hin29 (by rw [(own_tn (by omega)).1]; exact u0)
  have k32 : Rch p e below S0 T27 (mkF m 42 #[.val (.ref rb), .val (.int (Int32.ofNat (2 * k + 1)))] [(.int ((own_lo ch) &&& (255 : Int32)))]) := fun t h => k30 t (by
      show Steps p.tables e below (T27.setTop (mkF m 37 #[.val (.ref rb), .val (.int (Int32.ofNat (2 * k + 1)))] [(.int (Int32.ofNat (2 * k))), (.ref rb)])) _
      refine X27.baloadBytes hx (j := (Int32.ofNat (2 * k))) (v := (.int (own_lo ch))) (by rw [e27]; exact Ar29.1) (State.isArrayOf_alike hZ.alike Ar29.2.1) Ar29.2.2 hin29 hat29 (g := (mkF m 37 #[.val (.ref rb), .val (.int (Int32.ofNat (2 * k + 1)))] [(.int (Int32.ofNat (2 * k))), (.ref rb)])) rfl rfl (hb hby d15_37) _ ?_
      show Steps p.tables e below (T27.setTop (mkF m 38 #[.val (.ref rb), .val (.int (Int32.ofNat (2 * k + 1)))] [(.int (own_lo ch))])) _
      refine XS.sipush X27.here hx rfl (hb hby d15_38) ?_
      show Steps p.tables e below (T27.setTop (mkF m 41 #[.val (.ref rb), .val (.int (Int32.ofNat (2 * k + 1)))] [(.int (255 : Int32)), (.int (own_lo ch))])) _
      refine XS.iand X27.here hx rfl (hb hby d15_41) rfl ?_
      show Steps p.tables e below (T27.setTop (mkF m 42 #[.val (.ref rb), .val (.int (Int32.ofNat (2 * k + 1)))] [(.int ((own_lo ch) &&& (255 : Int32)))])) _
      exact h)
  obtain ⟨T31, X31, e31, st31⟩ := getS2 X27 hx hZ hown (host := "") (Or.inl (hw _ (List.mem_of_getElem? (i := 69) rfl))) Via.refl e27 (SHi.ext O0.2) (g := (mkF m 42 #[.val (.ref rb), .val (.int (Int32.ofNat (2 * k + 1)))] [(.int ((own_lo ch) &&& (255 : Int32)))])) rfl (hb hby d15_42)
  have k33 : Rch p e below S0 T31 (mkF m 45 #[.val (.ref rb), .val (.int (Int32.ofNat (2 * k + 1)))] [(.int (0 : Int32)), (.int ((own_lo ch) &&& (255 : Int32)))]) := fun t h => k32 t (st31 t h)
  have k35 : Rch p e below S0 T31 (mkF m 48 #[.val (.ref rb), .val (.int (Int32.ofNat (2 * k + 1)))] [(.int (Int32.ofNat (2 * k + 1))), (.ref rb), (.int (((own_lo ch) &&& (255 : Int32)) <<< ((0 : Int32) &&& 31)))]) := fun t h => k33 t (by
      show Steps p.tables e below (T31.setTop (mkF m 45 #[.val (.ref rb), .val (.int (Int32.ofNat (2 * k + 1)))] [(.int (0 : Int32)), (.int ((own_lo ch) &&& (255 : Int32)))])) _
      refine XS.ishl X31.here hx rfl (hb hby d15_45) rfl ?_
      show Steps p.tables e below (T31.setTop (mkF m 46 #[.val (.ref rb), .val (.int (Int32.ofNat (2 * k + 1)))] [(.int (((own_lo ch) &&& (255 : Int32)) <<< ((0 : Int32) &&& 31)))])) _
      refine XS.aloadN X31.here hx rfl (hb hby d15_46) rfl rfl ?_
      show Steps p.tables e below (T31.setTop (mkF m 47 #[.val (.ref rb), .val (.int (Int32.ofNat (2 * k + 1)))] [(.ref rb), (.int (((own_lo ch) &&& (255 : Int32)) <<< ((0 : Int32) &&& 31)))])) _
      refine XS.iloadN X31.here hx rfl (hb hby d15_47) rfl ?_
      show Steps p.tables e below (T31.setTop (mkF m 48 #[.val (.ref rb), .val (.int (Int32.ofNat (2 * k + 1)))] [(.int (Int32.ofNat (2 * k + 1))), (.ref rb), (.int (((own_lo ch) &&& (255 : Int32)) <<< ((0 : Int32) &&& 31)))])) _
      exact h)
  obtain ⟨cl34, Ar34, q34, Sz34, Ng34, Hs34, G34⟩ := id Vb
  have hin34 : ¬ ((Int32.ofNat (2 * k + 1)) < 0 ∨ cl34.slots.size ≤ ((Int32.ofNat (2 * k + 1))).toNatClampNeg) := inb_of Sz34 (own_inb (by omega) (by omega))
  have hat34 : cl34.slots[((Int32.ofNat (2 * k + 1))).toNatClampNeg]? = some (.int (own_hi ch)) := Hs34.at hin34 (by rw [(own_tn (by omega)).1]; exact u1)
  have k37 : Rch p e below S0 T31 (mkF m 53 #[.val (.ref rb), .val (.int (Int32.ofNat (2 * k + 1)))] [(.int ((own_hi ch) &&& (255 : Int32))), (.int (((own_lo ch) &&& (255 : Int32)) <<< ((0 : Int32) &&& 31)))]) := fun t h => k35 t (by
      show Steps p.tables e below (T31.setTop (mkF m 48 #[.val (.ref rb), .val (.int (Int32.ofNat (2 * k + 1)))] [(.int (Int32.ofNat (2 * k + 1))), (.ref rb), (.int (((own_lo ch) &&& (255 : Int32)) <<< ((0 : Int32) &&& 31)))])) _
      refine X31.baloadBytes hx (j := (Int32.ofNat (2 * k + 1))) (v := (.int (own_hi ch))) (by rw [e31]; exact Ar34.1) (State.isArrayOf_alike hZ.alike Ar34.2.1) Ar34.2.2 hin34 hat34 (g := (mkF m 48 #[.val (.ref rb), .val (.int (Int32.ofNat (2 * k + 1)))] [(.int (Int32.ofNat (2 * k + 1))), (.ref rb), (.int (((own_lo ch) &&& (255 : Int32)) <<< ((0 : Int32) &&& 31)))])) rfl rfl (hb hby d15_48) _ ?_
      show Steps p.tables e below (T31.setTop (mkF m 49 #[.val (.ref rb), .val (.int (Int32.ofNat (2 * k + 1)))] [(.int (own_hi ch)), (.int (((own_lo ch) &&& (255 : Int32)) <<< ((0 : Int32) &&& 31)))])) _
      refine XS.sipush X31.here hx rfl (hb hby d15_49) ?_
      show Steps p.tables e below (T31.setTop (mkF m 52 #[.val (.ref rb), .val (.int (Int32.ofNat (2 * k + 1)))] [(.int (255 : Int32)), (.int (own_hi ch)), (.int (((own_lo ch) &&& (255 : Int32)) <<< ((0 : Int32) &&& 31)))])) _
      refine XS.iand X31.here hx rfl (hb hby d15_52) rfl ?_
      show Steps p.tables e below (T31.setTop (mkF m 53 #[.val (.ref rb), .val (.int (Int32.ofNat (2 * k + 1)))] [(.int ((own_hi ch) &&& (255 : Int32))), (.int (((own_lo ch) &&& (255 : Int32)) <<< ((0 : Int32) &&& 31)))])) _
      exact h)
  obtain ⟨T36, X36, e36, st36⟩ := getS2 X31 hx hZ hown (host := "") (Or.inl (hw _ (List.mem_of_getElem? (i := 70) rfl))) Via.refl e31 (SLo.ext O0.2) (g := (mkF m 53 #[.val (.ref rb), .val (.int (Int32.ofNat (2 * k + 1)))] [(.int ((own_hi ch) &&& (255 : Int32))), (.int (((own_lo ch) &&& (255 : Int32)) <<< ((0 : Int32) &&& 31)))])) rfl (hb hby d15_53)
  have k38 : Rch p e below S0 T36 (mkF m 56 #[.val (.ref rb), .val (.int (Int32.ofNat (2 * k + 1)))] [(.int (8 : Int32)), (.int ((own_hi ch) &&& (255 : Int32))), (.int (((own_lo ch) &&& (255 : Int32)) <<< ((0 : Int32) &&& 31)))]) := fun t h => k37 t (st36 t h)
  have k39 : Rch p e below S0 T36 (mkF m 59 #[.val (.ref rb), .val (.int (Int32.ofNat (2 * k + 1)))] [(.int ch)]) := fun t h => k38 t (by
      show Steps p.tables e below (T36.setTop (mkF m 56 #[.val (.ref rb), .val (.int (Int32.ofNat (2 * k + 1)))] [(.int (8 : Int32)), (.int ((own_hi ch) &&& (255 : Int32))), (.int (((own_lo ch) &&& (255 : Int32)) <<< ((0 : Int32) &&& 31)))])) _
      refine XS.ishl X36.here hx rfl (hb hby d15_56) rfl ?_
      show Steps p.tables e below (T36.setTop (mkF m 57 #[.val (.ref rb), .val (.int (Int32.ofNat (2 * k + 1)))] [(.int (((own_hi ch) &&& (255 : Int32)) <<< ((8 : Int32) &&& 31))), (.int (((own_lo ch) &&& (255 : Int32)) <<< ((0 : Int32) &&& 31)))])) _
      refine XS.ior X36.here hx rfl (hb hby d15_57) rfl ?_
      show Steps p.tables e below (T36.setTop (mkF m 58 #[.val (.ref rb), .val (.int (Int32.ofNat (2 * k + 1)))] [(.int ((((own_lo ch) &&& (255 : Int32)) <<< ((0 : Int32) &&& 31)) ||| (((own_hi ch) &&& (255 : Int32)) <<< ((8 : Int32) &&& 31))))])) _
      refine XS.i2c X36.here hx rfl (hb hby d15_58) rfl ?_
      rw [own_pair ch hc]
      show Steps p.tables e below (T36.setTop (mkF m 59 #[.val (.ref rb), .val (.int (Int32.ofNat (2 * k + 1)))] [(.int ch)])) _
      exact h)
  obtain ⟨fs, hr, hrun, hended, hW, hsame⟩ := X36.leave (v := (some (.int (nar .char ch)))) (fun h => by rw [Bd.returns] at h; cases h)
  refine ⟨_, _, ?_, hrun, hended, _, _, rfl, ?_, ⟨_, rfl⟩, hW, hsame.mono (by decide) (by decide)⟩
  · rw [← hS0]
    refine k39 _ ?_
    show Steps p.tables e below (T36.setTop (mkF m 59 #[.val (.ref rb), .val (.int (Int32.ofNat (2 * k + 1)))] [(.int ch)])) _
    exact retN X36 hx (t := .char) Bd.returns (by simp) (hb hby d15_59) hr
  · show Q_rmGC Z ch h0 n0 _ T36.heap _
    rw [e36]
    exact ⟨by rw [(own_narc ch hc).1], N0, rfl⟩
def Q_rmTO (Z : State) (n : Nat) (cs : List Int32) (h0 : Heap) (n0 : Nat) (v : Option Value) (h : Heap) (L : List Loc) : Prop := ∃ x kx vs, v = some (.ref x) ∧ Fr n0 L ∧ Ext h0 h ∧ h0.size ≤ x ∧ vs.length = 2 * n ∧ (∀ q, q < n → vs.getD (2 * q) (.int (0 : Int32)) = .int (own_lo (cs.getD q 0)) ∧ vs.getD (2 * q + 1) (.int (0 : Int32)) = .int (own_hi (cs.getD q 0))) ∧ Arv Z h x kx .byte (Int32.ofNat (2 * n)) vs (.int (0 : Int32))
theorem ef_11 (m : MethodId) (x0 : Addr) (x1 : Int32) (x2 : Int32) : entryFrame m #[(.ref x0), (.int x1), (.int x2)] 5 = mkF m 0 #[.val (.ref x0), .val (.int x1), .val (.int x2), .unset, .unset] [] := by first | (simp [entryFrame, mkF, argsToLocals, Value.category]; done) | rfl
theorem d11_0 : decode jdk_52_method_14_code 0 = .ok (.iload_n 2, 1) := by decide +kernel
theorem pd_10 : parseMethodDescriptor "(I)[B" = some ⟨[.int], some (.array .byte)⟩ := by decide +kernel
theorem d11_1 : decode jdk_52_method_14_code 1 = .ok (.invokestatic 107, 3) := by decide +kernel
theorem d11_4 : decode jdk_52_method_14_code 4 = .ok (.astore_n 3, 1) := by decide +kernel
theorem d11_5 : decode jdk_52_method_14_code 5 = .ok (.iconst 0, 1) := by decide +kernel
theorem d11_6 : decode jdk_52_method_14_code 6 = .ok (.istore 4, 2) := by decide +kernel
theorem d11_8 : decode jdk_52_method_14_code 8 = .ok (.iload 4, 2) := by decide +kernel
theorem d11_10 : decode jdk_52_method_14_code 10 = .ok (.iload_n 2, 1) := by decide +kernel
theorem d11_11 : decode jdk_52_method_14_code 11 = .ok (.if_icmp .ge 21, 3) := by decide +kernel
theorem d11_14 : decode jdk_52_method_14_code 14 = .ok (.aload_n 3, 1) := by decide +kernel
theorem d11_15 : decode jdk_52_method_14_code 15 = .ok (.iload 4, 2) := by decide +kernel
theorem d11_17 : decode jdk_52_method_14_code 17 = .ok (.aload_n 0, 1) := by decide +kernel
theorem d11_18 : decode jdk_52_method_14_code 18 = .ok (.iload_n 1, 1) := by decide +kernel
theorem d11_19 : decode jdk_52_method_14_code 19 = .ok (.caload, 1) := by decide +kernel
theorem pd_12 : parseMethodDescriptor "([BII)V" = some ⟨[(.array .byte), .int, .int], none⟩ := by decide +kernel
theorem d11_20 : decode jdk_52_method_14_code 20 = .ok (.invokestatic 111, 3) := by decide +kernel
theorem d11_23 : decode jdk_52_method_14_code 23 = .ok (.iinc 1 1, 3) := by decide +kernel
theorem d11_26 : decode jdk_52_method_14_code 26 = .ok (.iinc 4 1, 3) := by decide +kernel
theorem d11_29 : decode jdk_52_method_14_code 29 = .ok (.goto (-21), 3) := by decide +kernel
theorem own_step {n i : Nat} {cs : List Int32} {vs : List Value} (hv : vs.length = 2 * n ∧ (∀ q, q < i → vs.getD (2 * q) (.int (0 : Int32)) = .int (own_lo (cs.getD q 0)) ∧ vs.getD (2 * q + 1) (.int (0 : Int32)) = .int (own_hi (cs.getD q 0)))) (hi : i < n) :
    ((vs.set (2 * i) (.int (own_lo (cs.getD i 0)))).set (2 * i + 1) (.int (own_hi (cs.getD i 0)))).length = 2 * n ∧ (∀ q, q < i + 1 → ((vs.set (2 * i) (.int (own_lo (cs.getD i 0)))).set (2 * i + 1) (.int (own_hi (cs.getD i 0)))).getD (2 * q) (.int (0 : Int32)) = .int (own_lo (cs.getD q 0)) ∧ ((vs.set (2 * i) (.int (own_lo (cs.getD i 0)))).set (2 * i + 1) (.int (own_hi (cs.getD i 0)))).getD (2 * q + 1) (.int (0 : Int32)) = .int (own_hi (cs.getD q 0))) := by
  obtain ⟨hl, h⟩ := hv
  refine ⟨by simp [hl], fun q hq => ?_⟩
  have g : ∀ (l : List Value) (a b : Nat) (x d : Value), (l.set a x).getD b d = if a = b ∧ b < l.length then x else l.getD b d := fun l a b x d => by
    simp only [List.getD_eq_getElem?_getD, List.getElem?_set]
    by_cases e : a = b
    · subst e
      by_cases f : a < l.length
      · simp [f]
      · simp [f]
    · simp [e]
  rw [g, g, g, g]
  simp only [List.length_set, hl]
  by_cases e : q = i
  · subst e
    rw [if_neg (by omega), if_pos (by omega), if_pos (by omega)]
    exact ⟨rfl, rfl⟩
  · rw [if_neg (by omega), if_neg (by omega), if_neg (by omega), if_neg (by omega)]
    exact h q (by omega)
theorem d11_32 : decode jdk_52_method_14_code 32 = .ok (.aload_n 3, 1) := by decide +kernel
theorem d11_33 : decode jdk_52_method_14_code 33 = .ok (.areturn, 1) := by decide +kernel
set_option maxRecDepth 65536 in
set_option maxHeartbeats 40000000 in
theorem rmTO (l : Launch) (Z : State) (a0 : Array Value) (hw : ∀ d ∈ tables_1, d.before a0 Z = true) (ws : List Jvm.Cond) (ra : Addr) (ka : ClassId) (n : Nat) (cs : List Int32) (h0 : Heap) (n0 : Nat) (O0 : Old Z n0 h0) (SAs : Sta Z Z.heap "java/lang/StringUTF16" "$assertionsDisabled" "Z" (.int (1 : Int32))) (SHi : Sta Z Z.heap "java/lang/StringUTF16" "HI_BYTE_SHIFT" "I" (.int (0 : Int32))) (SLo : Sta Z Z.heap "java/lang/StringUTF16" "LO_BYTE_SHIFT" "I" (.int (8 : Int32))) (hn : n ≤ 4000) (hl : cs.length = n) (Va : Arv Z h0 ra ka .char (Int32.ofNat n) (cs.map Value.int) (.int (0 : Int32))) :
    MetFree l (⟨"java/lang/StringUTF16", "toBytes", "([CII)[B"⟩ : MethodName) (head1 (Jvm.Cond.code (⟨"java/lang/StringUTF16", "toBytes", "([CII)[B"⟩ : MethodName) jdk_52_method_14_code 5 (some (.array .byte)) :: ws) ({ frames := 2, cells := 1, slots := 8000, locals := 60 } : Room)) (fun a U => a = #[(.ref ra), (.int (0 : Int32)), (.int (Int32.ofNat n))] ∧ Z.Warmed39 U.vm ∧ U.heap = h0) (fun _ _ _ _ _ => True) (fun _ U o U' => ∃ v L, o = .returned v ∧ Q_rmTO Z n cs h0 n0 v U'.heap L ∧ FrameEnd U o U' L ({ frames := 2, cells := 1, slots := 8000, locals := 60 } : Room).cells ({ frames := 2, cells := 1, slots := 8000, locals := 60 } : Room).slots) := by
  refine MetFree.of_bodySF (plainFor_of_name pn_StringUTF16) hisR ?_
  intro p e s m args below meth c s₁ Bd hml0 hP hK
  obtain ⟨rfl, hZ, hh⟩ := hP
  have hx := Bd.exec
  have hby := Bd.bytes
  have hml : c.maxLocals = 5 := hml0
  have hown : s.vm.findClass "java/lang/StringUTF16" = some m.cls := findClass_of_methodNamed Bd.named
  have hnm := (name_of_methodNamed Bd.named Bd.method).1
  have X0 : Stand p l e ({ frames := 2, cells := 1, slots := 8000, locals := 60 } : Room) s m #[(.ref ra), (.int (0 : Int32)), (.int (Int32.ofNat n))] below meth c s₁ [] 0 0 := Stand.of_body Bd
  have e0 : s₁.heap = h0 := by rw [← hh, Bd.state]; rfl
  have N0 := Fr.nil n0
  obtain ⟨S0, hS0⟩ : ∃ z, z = s₁.setTop (entryFrame m #[(.ref ra), (.int (0 : Int32)), (.int (Int32.ofNat n))] 5) := ⟨_, rfl⟩
  have k0 : Rch p e below S0 s₁ (mkF m 0 #[.val (.ref ra), .val (.int (0 : Int32)), .val (.int (Int32.ofNat n)), .unset, .unset] []) := fun t kq => hS0 ▸ castTop (ef_11 m ra (0 : Int32) (Int32.ofNat n)) kq
  have K0 : Keep h0 h0 [] := Keep.refl h0 _
  have k40 : Rch p e below S0 s₁ (mkF m 1 #[.val (.ref ra), .val (.int (0 : Int32)), .val (.int (Int32.ofNat n)), .unset, .unset] [(.int (Int32.ofNat n))]) := fun t h => k0 t (by
      show Steps p.tables e below (s₁.setTop (mkF m 0 #[.val (.ref ra), .val (.int (0 : Int32)), .val (.int (Int32.ofNat n)), .unset, .unset] [])) _
      refine XS.iloadN X0.here hx rfl (hb hby d11_0) rfl ?_
      show Steps p.tables e below (s₁.setTop (mkF m 1 #[.val (.ref ra), .val (.int (0 : Int32)), .val (.int (Int32.ofNat n)), .unset, .unset] [(.int (Int32.ofNat n))])) _
      exact h)
  obtain ⟨_, _, ⟨T41, L41, kk41, n41⟩, -, X41, ⟨Lc41, hQ41, l41, y41, z41⟩, st41⟩ := Jvm.LawKit.callS X0 hx (y := (⟨"java/lang/StringUTF16", "newBytesFor", "(I)[B"⟩ : MethodName)) hown (mvT hZ (hw _ (List.mem_of_getElem? (i := 58) rfl))) (mvT hZ (hw _ (List.mem_of_getElem? (i := 59) rfl))) (mvT hZ (hw _ (List.mem_of_getElem? (i := 47) rfl))) (mvT hZ (hw _ (List.mem_of_getElem? (i := 60) rfl))) (by decide) (backOf (W := 0) (rmNF l Z a0 hw [] n  h0 n0 O0 hn) hZ (hw _ (List.mem_of_getElem? (i := 60) rfl)) (hw _ (List.mem_of_getElem? (i := 47) rfl)) (by decide) (by decide)) (g := (mkF m 1 #[.val (.ref ra), .val (.int (0 : Int32)), .val (.int (Int32.ofNat n)), .unset, .unset] [(.int (Int32.ofNat n))])) rfl (by rw [hml]; rfl) (argsL := [(.int (Int32.ofNat n))]) (rest := []) (lenOf pd_10 rfl) rfl (by show 2 * 0 + _ ≤ _; exact Nat.le_of_eq rfl) (hb hby d11_1) (fun _ _ => ⟨rfl, e0, (by decide : 0 + 1 ≤ _), (by decide : 0 + 8000 ≤ _)⟩)
  dsimp only [Pt.U, Pt.locs, Pt.cells, Pt.slots] at X41 l41 y41 z41 st41 hQ41
  subst l41 y41 z41
  obtain ⟨b41, kb41, rfl, Nq41, E41, z41, V41⟩ := hQ41
  have N41 := Fr.app N0 Nq41
  have k42 : Rch p e below S0 T41 (mkF m 4 #[.val (.ref ra), .val (.int (0 : Int32)), .val (.int (Int32.ofNat n)), .unset, .unset] [(.ref b41)]) := fun t h => k40 t (st41 t h)
  have ne_ra_b41 : ra ≠ b41 := own_ne Va.lt z41
  have ge_b41 : n0 ≤ b41 := own_ge O0 z41
  have sz_b41 : h0.size ≤ b41 := Nat.le_trans K0.1 z41
  have O43 := O0.ext E41
  have K44 := K0.ext E41
  replace Va := Va.ext E41
  have k45 : Rch p e below S0 T41 (mkF m 8 #[.val (.ref ra), .val (.int (0 : Int32)), .val (.int (Int32.ofNat n)), .val (.ref b41), .val (.int (0 : Int32))] []) := fun t h => k42 t (by
      show Steps p.tables e below (T41.setTop (mkF m 4 #[.val (.ref ra), .val (.int (0 : Int32)), .val (.int (Int32.ofNat n)), .unset, .unset] [(.ref b41)])) _
      refine XS.astoreN X41.here hx rfl (hb hby d11_4) rfl rfl (l' := #[.val (.ref ra), .val (.int (0 : Int32)), .val (.int (Int32.ofNat n)), .val (.ref b41), .unset]) rfl ?_
      show Steps p.tables e below (T41.setTop (mkF m 5 #[.val (.ref ra), .val (.int (0 : Int32)), .val (.int (Int32.ofNat n)), .val (.ref b41), .unset] [])) _
      refine XS.iconst X41.here hx rfl (hb hby d11_5) ?_
      show Steps p.tables e below (T41.setTop (mkF m 6 #[.val (.ref ra), .val (.int (0 : Int32)), .val (.int (Int32.ofNat n)), .val (.ref b41), .unset] [(.int (0 : Int32))])) _
      refine XS.istore X41.here hx rfl (hb hby d11_6) rfl (l' := #[.val (.ref ra), .val (.int (0 : Int32)), .val (.int (Int32.ofNat n)), .val (.ref b41), .val (.int (0 : Int32))]) rfl ?_
      show Steps p.tables e below (T41.setTop (mkF m 8 #[.val (.ref ra), .val (.int (0 : Int32)), .val (.int (Int32.ofNat n)), .val (.ref b41), .val (.int (0 : Int32))] [])) _
      exact h)
  have hz : (0 : Int32) = Int32.ofNat 0 := rfl
  replace V41 : Arv Z T41.heap b41 kb41 .byte (Int32.ofNat (2 * n)) (List.replicate (2 * n) (.int (0 : Int32))) (.int (0 : Int32)) := by
    have q := V41.pad (pad_rep [] (.int (0 : Int32)) (2 * n))
    rwa [List.nil_append] at q
  have loop : ∀ (j i : Nat), i + j = n → ∀ (T : State) (h1 : Heap) (lo : List Loc) (vs : List Value), Stand p l e ({ frames := 2, cells := 1, slots := 8000, locals := 60 } : Room) s m #[(.ref ra), (.int (0 : Int32)), (.int (Int32.ofNat n))] below meth c T lo 1 8000 → T.heap = h1 → Fr n0 lo → Old Z n0 h1 → Keep h0 h1 [] → (vs.length = 2 * n ∧ (∀ q, q < i → vs.getD (2 * q) (.int (0 : Int32)) = .int (own_lo (cs.getD q 0)) ∧ vs.getD (2 * q + 1) (.int (0 : Int32)) = .int (own_hi (cs.getD q 0)))) → Arv Z h1 b41 kb41 .byte (Int32.ofNat (2 * n)) vs (.int (0 : Int32)) → Arv Z h1 ra ka .char (Int32.ofNat n) (cs.map Value.int) (.int (0 : Int32)) → Rch p e below S0 T (mkF m 8 #[.val (.ref ra), .val (.int (Int32.ofNat i)), .val (.int (Int32.ofNat n)), .val (.ref b41), .val (.int (Int32.ofNat i))] []) →
      ∃ (T2 : State) (h2 : Heap) (lo2 : List Loc) (vs2 : List Value), Stand p l e ({ frames := 2, cells := 1, slots := 8000, locals := 60 } : Room) s m #[(.ref ra), (.int (0 : Int32)), (.int (Int32.ofNat n))] below meth c T2 lo2 1 8000 ∧ T2.heap = h2 ∧ Fr n0 lo2 ∧ Keep h0 h2 [] ∧ (vs2.length = 2 * n ∧ (∀ q, q < n → vs2.getD (2 * q) (.int (0 : Int32)) = .int (own_lo (cs.getD q 0)) ∧ vs2.getD (2 * q + 1) (.int (0 : Int32)) = .int (own_hi (cs.getD q 0)))) ∧ Arv Z h2 b41 kb41 .byte (Int32.ofNat (2 * n)) vs2 (.int (0 : Int32)) ∧ Rch p e below S0 T2 (mkF m 32 #[.val (.ref ra), .val (.int (Int32.ofNat n)), .val (.int (Int32.ofNat n)), .val (.ref b41), .val (.int (Int32.ofNat n))] []) := by
    intro j
    induction j with
    | zero =>
      intro i hi T h1 lo vs X eT NN OO KK hv Vd1 Va1 kk
      obtain rfl : i = n := by omega
      have k46 : Rch p e below S0 T (mkF m 32 #[.val (.ref ra), .val (.int (Int32.ofNat i)), .val (.int (Int32.ofNat i)), .val (.ref b41), .val (.int (Int32.ofNat i))] []) := fun t h => kk t (by
          show Steps p.tables e below (T.setTop (mkF m 8 #[.val (.ref ra), .val (.int (Int32.ofNat i)), .val (.int (Int32.ofNat i)), .val (.ref b41), .val (.int (Int32.ofNat i))] [])) _
          refine XS.iload X.here hx rfl (hb hby d11_8) rfl ?_
          show Steps p.tables e below (T.setTop (mkF m 10 #[.val (.ref ra), .val (.int (Int32.ofNat i)), .val (.int (Int32.ofNat i)), .val (.ref b41), .val (.int (Int32.ofNat i))] [(.int (Int32.ofNat i))])) _
          refine XS.iloadN X.here hx rfl (hb hby d11_10) rfl ?_
          show Steps p.tables e below (T.setTop (mkF m 11 #[.val (.ref ra), .val (.int (Int32.ofNat i)), .val (.int (Int32.ofNat i)), .val (.ref b41), .val (.int (Int32.ofNat i))] [(.int (Int32.ofNat i)), (.int (Int32.ofNat i))])) _
          refine XS.icmpYes X.here hx rfl (pc0 := 11) (pc' := 32) rfl (hb hby d11_11) rfl (flt ((fun q => Nat.lt_irrefl _ ((own_olt (by omega) (by omega)).mp q)) : ¬ ((Int32.ofNat i) < (Int32.ofNat i)))).2.1 (by decide) (by decide) ?_
          show Steps p.tables e below (T.setTop (mkF m 32 #[.val (.ref ra), .val (.int (Int32.ofNat i)), .val (.int (Int32.ofNat i)), .val (.ref b41), .val (.int (Int32.ofNat i))] [])) _
          exact h)
      exact ⟨_, _, _, _, X, eT, NN, KK, hv, Vd1, k46⟩
    | succ j ih =>
      intro i hi T h1 lo vs X eT NN OO KK hv Vd1 Va1 kk
      have k48 : Rch p e below S0 T (mkF m 19 #[.val (.ref ra), .val (.int (Int32.ofNat i)), .val (.int (Int32.ofNat n)), .val (.ref b41), .val (.int (Int32.ofNat i))] [(.int (Int32.ofNat i)), (.ref ra), (.int (Int32.ofNat i)), (.ref b41)]) := fun t h => kk t (by
          show Steps p.tables e below (T.setTop (mkF m 8 #[.val (.ref ra), .val (.int (Int32.ofNat i)), .val (.int (Int32.ofNat n)), .val (.ref b41), .val (.int (Int32.ofNat i))] [])) _
          refine XS.iload X.here hx rfl (hb hby d11_8) rfl ?_
          show Steps p.tables e below (T.setTop (mkF m 10 #[.val (.ref ra), .val (.int (Int32.ofNat i)), .val (.int (Int32.ofNat n)), .val (.ref b41), .val (.int (Int32.ofNat i))] [(.int (Int32.ofNat i))])) _
          refine XS.iloadN X.here hx rfl (hb hby d11_10) rfl ?_
          show Steps p.tables e below (T.setTop (mkF m 11 #[.val (.ref ra), .val (.int (Int32.ofNat i)), .val (.int (Int32.ofNat n)), .val (.ref b41), .val (.int (Int32.ofNat i))] [(.int (Int32.ofNat n)), (.int (Int32.ofNat i))])) _
          refine XS.icmpNo X.here hx rfl (hb hby d11_11) rfl (tlt (((own_olt (by omega) (by omega)).mpr (by omega)) : (Int32.ofNat i) < (Int32.ofNat n))).2.1 ?_
          show Steps p.tables e below (T.setTop (mkF m 14 #[.val (.ref ra), .val (.int (Int32.ofNat i)), .val (.int (Int32.ofNat n)), .val (.ref b41), .val (.int (Int32.ofNat i))] [])) _
          refine XS.aloadN X.here hx rfl (hb hby d11_14) rfl rfl ?_
          show Steps p.tables e below (T.setTop (mkF m 15 #[.val (.ref ra), .val (.int (Int32.ofNat i)), .val (.int (Int32.ofNat n)), .val (.ref b41), .val (.int (Int32.ofNat i))] [(.ref b41)])) _
          refine XS.iload X.here hx rfl (hb hby d11_15) rfl ?_
          show Steps p.tables e below (T.setTop (mkF m 17 #[.val (.ref ra), .val (.int (Int32.ofNat i)), .val (.int (Int32.ofNat n)), .val (.ref b41), .val (.int (Int32.ofNat i))] [(.int (Int32.ofNat i)), (.ref b41)])) _
          refine XS.aloadN X.here hx rfl (hb hby d11_17) rfl rfl ?_
          show Steps p.tables e below (T.setTop (mkF m 18 #[.val (.ref ra), .val (.int (Int32.ofNat i)), .val (.int (Int32.ofNat n)), .val (.ref b41), .val (.int (Int32.ofNat i))] [(.ref ra), (.int (Int32.ofNat i)), (.ref b41)])) _
          refine XS.iloadN X.here hx rfl (hb hby d11_18) rfl ?_
          show Steps p.tables e below (T.setTop (mkF m 19 #[.val (.ref ra), .val (.int (Int32.ofNat i)), .val (.int (Int32.ofNat n)), .val (.ref b41), .val (.int (Int32.ofNat i))] [(.int (Int32.ofNat i)), (.ref ra), (.int (Int32.ofNat i)), (.ref b41)])) _
          exact h)
      obtain ⟨cl47, Ar47, q47, Sz47, Ng47, Hs47, G47⟩ := id Va1
      have hin47 : ¬ ((Int32.ofNat i) < 0 ∨ cl47.slots.size ≤ ((Int32.ofNat i)).toNatClampNeg) := inb_of Sz47 (own_inb (by omega) (by omega))
      have hat47 : cl47.slots[((Int32.ofNat i)).toNatClampNeg]? = some (.int (cs.getD i 0)) := Hs47.at hin47 (by rw [(own_tn (by omega)).1]; exact own_at cs i 0)
      have k49 : Rch p e below S0 T (mkF m 20 #[.val (.ref ra), .val (.int (Int32.ofNat i)), .val (.int (Int32.ofNat n)), .val (.ref b41), .val (.int (Int32.ofNat i))] [(.int (cs.getD i 0)), (.int (Int32.ofNat i)), (.ref b41)]) := fun t h => k48 t (by
          show Steps p.tables e below (T.setTop (mkF m 19 #[.val (.ref ra), .val (.int (Int32.ofNat i)), .val (.int (Int32.ofNat n)), .val (.ref b41), .val (.int (Int32.ofNat i))] [(.int (Int32.ofNat i)), (.ref ra), (.int (Int32.ofNat i)), (.ref b41)])) _
          refine X.caload hx (j := (Int32.ofNat i)) (v := (.int (cs.getD i 0))) (by rw [eT]; exact Ar47.1) (State.isArrayOf_alike hZ.alike Ar47.2.1) Ar47.2.2 hin47 hat47 (g := (mkF m 19 #[.val (.ref ra), .val (.int (Int32.ofNat i)), .val (.int (Int32.ofNat n)), .val (.ref b41), .val (.int (Int32.ofNat i))] [(.int (Int32.ofNat i)), (.ref ra), (.int (Int32.ofNat i)), (.ref b41)])) rfl rfl (hb hby d11_19) _ ?_
          show Steps p.tables e below (T.setTop (mkF m 20 #[.val (.ref ra), .val (.int (Int32.ofNat i)), .val (.int (Int32.ofNat n)), .val (.ref b41), .val (.int (Int32.ofNat i))] [(.int (cs.getD i 0)), (.int (Int32.ofNat i)), (.ref b41)])) _
          exact h)
      obtain ⟨_, _, ⟨T50, L50, kk50, n50⟩, -, X50, ⟨Lc50, hQ50, l50, y50, z50⟩, st50⟩ := Jvm.LawKit.callS X hx (y := (⟨"java/lang/StringUTF16", "putChar", "([BII)V"⟩ : MethodName)) hown (mvT hZ (hw _ (List.mem_of_getElem? (i := 65) rfl))) (mvT hZ (hw _ (List.mem_of_getElem? (i := 66) rfl))) (mvT hZ (hw _ (List.mem_of_getElem? (i := 47) rfl))) (mvT hZ (hw _ (List.mem_of_getElem? (i := 67) rfl))) (by decide) (backOf (W := 0) (rmPC l Z a0 hw [] b41 i (cs.getD i 0) kb41 n vs h1 n0 OO SAs SHi SLo ge_b41 hn (by omega) hv.1 Vd1) hZ (hw _ (List.mem_of_getElem? (i := 67) rfl)) (hw _ (List.mem_of_getElem? (i := 47) rfl)) (by decide) (by decide)) (g := (mkF m 20 #[.val (.ref ra), .val (.int (Int32.ofNat i)), .val (.int (Int32.ofNat n)), .val (.ref b41), .val (.int (Int32.ofNat i))] [(.int (cs.getD i 0)), (.int (Int32.ofNat i)), (.ref b41)])) rfl (by rw [hml]; rfl) (argsL := [(.ref b41), (.int (Int32.ofNat i)), (.int (cs.getD i 0))]) (rest := []) (lenOf pd_12 rfl) rfl (by show 2 * 0 + _ ≤ _; exact Nat.le_of_eq rfl) (hb hby d11_20) (fun _ _ => ⟨rfl, eT, (by decide : 1 + 0 ≤ _), (by decide : 8000 + 0 ≤ _)⟩)
      dsimp only [Pt.U, Pt.locs, Pt.cells, Pt.slots] at X50 l50 y50 z50 st50 hQ50
      subst l50 y50 z50
      obtain ⟨rfl, Nq50, K50, Vn50⟩ := hQ50
      have N50 := Fr.app NN Nq50
      have k51 : Rch p e below S0 T50 (mkF m 23 #[.val (.ref ra), .val (.int (Int32.ofNat i)), .val (.int (Int32.ofNat n)), .val (.ref b41), .val (.int (Int32.ofNat i))] []) := fun t h => k49 t (st50 t h)
      have O52 := OO.keep K50 (allS ge_b41 all0)
      have K53 := KK.trans K50 (allS (Or.inr sz_b41) all0)
      replace Va1 := Va1.keep K50 (ninS ne_ra_b41 nin0)
      have k54 : Rch p e below S0 T50 (mkF m 8 #[.val (.ref ra), .val (.int (Int32.ofNat (i + 1))), .val (.int (Int32.ofNat n)), .val (.ref b41), .val (.int (Int32.ofNat (i + 1)))] []) := fun t h => k51 t (by
          show Steps p.tables e below (T50.setTop (mkF m 23 #[.val (.ref ra), .val (.int (Int32.ofNat i)), .val (.int (Int32.ofNat n)), .val (.ref b41), .val (.int (Int32.ofNat i))] [])) _
          refine XS.iinc X50.here hx rfl (hb hby d11_23) rfl (l' := #[.val (.ref ra), .val (.int ((Int32.ofNat i) + (1 : Int32))), .val (.int (Int32.ofNat n)), .val (.ref b41), .val (.int (Int32.ofNat i))]) rfl ?_
          rw [own_inc (i := i) (by omega)]
          show Steps p.tables e below (T50.setTop (mkF m 26 #[.val (.ref ra), .val (.int (Int32.ofNat (i + 1))), .val (.int (Int32.ofNat n)), .val (.ref b41), .val (.int (Int32.ofNat i))] [])) _
          refine XS.iinc X50.here hx rfl (hb hby d11_26) rfl (l' := #[.val (.ref ra), .val (.int (Int32.ofNat (i + 1))), .val (.int (Int32.ofNat n)), .val (.ref b41), .val (.int ((Int32.ofNat i) + (1 : Int32)))]) rfl ?_
          rw [own_inc (i := i) (by omega)]
          show Steps p.tables e below (T50.setTop (mkF m 29 #[.val (.ref ra), .val (.int (Int32.ofNat (i + 1))), .val (.int (Int32.ofNat n)), .val (.ref b41), .val (.int (Int32.ofNat (i + 1)))] [])) _
          refine XS.goto X50.here hx rfl (pc0 := 29) (pc' := 8) rfl (hb hby d11_29) (by decide) (by decide) ?_
          show Steps p.tables e below (T50.setTop (mkF m 8 #[.val (.ref ra), .val (.int (Int32.ofNat (i + 1))), .val (.int (Int32.ofNat n)), .val (.ref b41), .val (.int (Int32.ofNat (i + 1)))] [])) _
          exact h)
      exact ih (i + 1) (by omega) _ _ _ _ X50 rfl N50 O52 K53 (own_step hv (by omega)) Vn50 Va1 k54
  obtain ⟨TL, hL, loL, vsL, XL, eL, NL, KL, hvL, VL, kL⟩ := loop n 0 (by omega) _ _ _ _ X41 rfl N41 O43 K44 ⟨by simp, fun q hq => absurd hq (Nat.not_lt_zero _)⟩ V41 Va k45
  have k55 : Rch p e below S0 TL (mkF m 33 #[.val (.ref ra), .val (.int (Int32.ofNat n)), .val (.int (Int32.ofNat n)), .val (.ref b41), .val (.int (Int32.ofNat n))] [(.ref b41)]) := fun t h => kL t (by
      show Steps p.tables e below (TL.setTop (mkF m 32 #[.val (.ref ra), .val (.int (Int32.ofNat n)), .val (.int (Int32.ofNat n)), .val (.ref b41), .val (.int (Int32.ofNat n))] [])) _
      refine XS.aloadN XL.here hx rfl (hb hby d11_32) rfl rfl ?_
      show Steps p.tables e below (TL.setTop (mkF m 33 #[.val (.ref ra), .val (.int (Int32.ofNat n)), .val (.int (Int32.ofNat n)), .val (.ref b41), .val (.int (Int32.ofNat n))] [(.ref b41)])) _
      exact h)
  obtain ⟨fs, hr, hrun, hended, hW, hsame⟩ := XL.leave (v := (some (.ref b41))) (fun h => by rw [Bd.returns] at h; cases h)
  refine ⟨_, _, ?_, hrun, hended, _, _, rfl, ?_, ⟨_, rfl⟩, hW, hsame.mono (by decide) (by decide)⟩
  · rw [← hS0]
    refine k55 _ ?_
    show Steps p.tables e below (TL.setTop (mkF m 33 #[.val (.ref ra), .val (.int (Int32.ofNat n)), .val (.int (Int32.ofNat n)), .val (.ref b41), .val (.int (Int32.ofNat n))] [(.ref b41)])) _
    jvm_step XL.here [XL.here.top, hx, (hb hby d11_33), XL.method', Bd.returns, Value.isRef, FieldType.isReference]
    first | (intro acts; rw [hr _ acts rfl rfl rfl]) | rw [hr _ _ rfl rfl rfl]
    exact Steps.refl _
  · show Q_rmTO Z n cs h0 n0 _ TL.heap _
    rw [eL]
    exact ⟨b41, kb41, vsL, rfl, NL, own_ext KL, sz_b41, hvL.1, hvL.2, VL⟩
def Q_rmC5 (Z : State) (rd : Addr) (k : Nat) (h0 : Heap) (n0 : Nat) (v : Option Value) (h : Heap) (L : List Loc) : Prop := v = some (.int (Int32.ofNat k)) ∧ Fr n0 L ∧ Keep h0 h [rd]
theorem ef_9 (m : MethodId) (x0 : Addr) (x1 : Int32) (x2 : Addr) (x3 : Int32) (x4 : Int32) : entryFrame m #[(.ref x0), (.int x1), (.ref x2), (.int x3), (.int x4)] 7 = mkF m 0 #[.val (.ref x0), .val (.int x1), .val (.ref x2), .val (.int x3), .val (.int x4), .unset, .unset] [] := by first | (simp [entryFrame, mkF, argsToLocals, Value.category]; done) | rfl
theorem d9_0 : decode jdk_52_method_21_code 0 = .ok (.iconst 0, 1) := by decide +kernel
theorem d9_1 : decode jdk_52_method_21_code 1 = .ok (.istore 5, 2) := by decide +kernel
theorem d9_3 : decode jdk_52_method_21_code 3 = .ok (.iload 5, 2) := by decide +kernel
theorem d9_5 : decode jdk_52_method_21_code 5 = .ok (.iload 4, 2) := by decide +kernel
theorem d9_7 : decode jdk_52_method_21_code 7 = .ok (.if_icmp .ge 37, 3) := by decide +kernel
theorem d9_10 : decode jdk_52_method_21_code 10 = .ok (.aload_n 0, 1) := by decide +kernel
theorem d9_11 : decode jdk_52_method_21_code 11 = .ok (.iload_n 1, 1) := by decide +kernel
theorem d9_12 : decode jdk_52_method_21_code 12 = .ok (.caload, 1) := by decide +kernel
theorem d9_13 : decode jdk_52_method_21_code 13 = .ok (.istore 6, 2) := by decide +kernel
theorem d9_15 : decode jdk_52_method_21_code 15 = .ok (.iload 6, 2) := by decide +kernel
theorem d9_17 : decode jdk_52_method_21_code 17 = .ok (.sipush 255, 3) := by decide +kernel
theorem d9_20 : decode jdk_52_method_21_code 20 = .ok (.if_icmp .le 6, 3) := by decide +kernel
theorem d9_23 : decode jdk_52_method_21_code 23 = .ok (.iload 5, 2) := by decide +kernel
theorem d9_26 : decode jdk_52_method_21_code 26 = .ok (.aload_n 2, 1) := by decide +kernel
theorem d9_27 : decode jdk_52_method_21_code 27 = .ok (.iload_n 3, 1) := by decide +kernel
theorem d9_28 : decode jdk_52_method_21_code 28 = .ok (.iload 6, 2) := by decide +kernel
theorem d9_30 : decode jdk_52_method_21_code 30 = .ok (.i2b, 1) := by decide +kernel
theorem d9_31 : decode jdk_52_method_21_code 31 = .ok (.bastore, 1) := by decide +kernel
theorem d9_32 : decode jdk_52_method_21_code 32 = .ok (.iinc 1 1, 3) := by decide +kernel
theorem d9_35 : decode jdk_52_method_21_code 35 = .ok (.iinc 3 1, 3) := by decide +kernel
theorem d9_38 : decode jdk_52_method_21_code 38 = .ok (.iinc 5 1, 3) := by decide +kernel
theorem d9_41 : decode jdk_52_method_21_code 41 = .ok (.goto (-38), 3) := by decide +kernel
theorem d9_25 : decode jdk_52_method_21_code 25 = .ok (.ireturn, 1) := by decide +kernel
set_option maxRecDepth 65536 in
set_option maxHeartbeats 40000000 in
theorem rmC5 (l : Launch) (Z : State) (a0 : Array Value) (hw : ∀ d ∈ tables_1, d.before a0 Z = true) (ws : List Jvm.Cond) (ra : Addr) (rd : Addr) (ka : ClassId) (kd : ClassId) (n : Nat) (cs : List Int32) (k : Nat) (h0 : Heap) (n0 : Nat) (O0 : Old Z n0 h0) (ge_rd : n0 ≤ rd) (ne_ra_rd : ra ≠ rd) (hn : n ≤ 4000) (hl : cs.length = n) (hk : k < n) (hlow : ∀ i, i < k → ¬ (255 : Int32) < cs.getD i 0) (hhigh : (255 : Int32) < cs.getD k 0) (Va : Arv Z h0 ra ka .char (Int32.ofNat n) (cs.map Value.int) (.int (0 : Int32))) (Vd : Arv Z h0 rd kd .byte (Int32.ofNat n) (List.replicate n (.int (0 : Int32))) (.int (0 : Int32))) :
    MetFree l (⟨"java/lang/StringUTF16", "compress", "([CI[BII)I"⟩ : MethodName) (head1 (Jvm.Cond.code (⟨"java/lang/StringUTF16", "compress", "([CI[BII)I"⟩ : MethodName) jdk_52_method_21_code 7 (some .int) :: ws) ({ frames := 0, cells := 0, slots := 0, locals := 0 } : Room)) (fun a U => a = #[(.ref ra), (.int (0 : Int32)), (.ref rd), (.int (0 : Int32)), (.int (Int32.ofNat n))] ∧ Z.Warmed39 U.vm ∧ U.heap = h0) (fun _ _ _ _ _ => True) (fun _ U o U' => ∃ v L, o = .returned v ∧ Q_rmC5 Z rd k h0 n0 v U'.heap L ∧ FrameEnd U o U' L ({ frames := 0, cells := 0, slots := 0, locals := 0 } : Room).cells ({ frames := 0, cells := 0, slots := 0, locals := 0 } : Room).slots) := by
  refine MetFree.of_bodySF (plainFor_of_name pn_StringUTF16) hisR ?_
  intro p e s m args below meth c s₁ Bd hml0 hP hK
  obtain ⟨rfl, hZ, hh⟩ := hP
  have hx := Bd.exec
  have hby := Bd.bytes
  have hml : c.maxLocals = 7 := hml0
  have hown : s.vm.findClass "java/lang/StringUTF16" = some m.cls := findClass_of_methodNamed Bd.named
  have hnm := (name_of_methodNamed Bd.named Bd.method).1
  have X0 : Stand p l e ({ frames := 0, cells := 0, slots := 0, locals := 0 } : Room) s m #[(.ref ra), (.int (0 : Int32)), (.ref rd), (.int (0 : Int32)), (.int (Int32.ofNat n))] below meth c s₁ [] 0 0 := Stand.of_body Bd
  have e0 : s₁.heap = h0 := by rw [← hh, Bd.state]; rfl
  have N0 := Fr.nil n0
  obtain ⟨S0, hS0⟩ : ∃ z, z = s₁.setTop (entryFrame m #[(.ref ra), (.int (0 : Int32)), (.ref rd), (.int (0 : Int32)), (.int (Int32.ofNat n))] 7) := ⟨_, rfl⟩
  have k0 : Rch p e below S0 s₁ (mkF m 0 #[.val (.ref ra), .val (.int (0 : Int32)), .val (.ref rd), .val (.int (0 : Int32)), .val (.int (Int32.ofNat n)), .unset, .unset] []) := fun t kq => hS0 ▸ castTop (ef_9 m ra (0 : Int32) rd (0 : Int32) (Int32.ofNat n)) kq
  have K0 : Keep h0 h0 [rd] := Keep.refl h0 _
  have k56 : Rch p e below S0 s₁ (mkF m 3 #[.val (.ref ra), .val (.int (0 : Int32)), .val (.ref rd), .val (.int (0 : Int32)), .val (.int (Int32.ofNat n)), .val (.int (0 : Int32)), .unset] []) := fun t h => k0 t (by
      show Steps p.tables e below (s₁.setTop (mkF m 0 #[.val (.ref ra), .val (.int (0 : Int32)), .val (.ref rd), .val (.int (0 : Int32)), .val (.int (Int32.ofNat n)), .unset, .unset] [])) _
      refine XS.iconst X0.here hx rfl (hb hby d9_0) ?_
      show Steps p.tables e below (s₁.setTop (mkF m 1 #[.val (.ref ra), .val (.int (0 : Int32)), .val (.ref rd), .val (.int (0 : Int32)), .val (.int (Int32.ofNat n)), .unset, .unset] [(.int (0 : Int32))])) _
      refine XS.istore X0.here hx rfl (hb hby d9_1) rfl (l' := #[.val (.ref ra), .val (.int (0 : Int32)), .val (.ref rd), .val (.int (0 : Int32)), .val (.int (Int32.ofNat n)), .val (.int (0 : Int32)), .unset]) rfl ?_
      show Steps p.tables e below (s₁.setTop (mkF m 3 #[.val (.ref ra), .val (.int (0 : Int32)), .val (.ref rd), .val (.int (0 : Int32)), .val (.int (Int32.ofNat n)), .val (.int (0 : Int32)), .unset] [])) _
      exact h)
  have loop : ∀ (j i : Nat), i + j = k → ∀ (T : State) (h1 : Heap) (lo : List Loc) (s6 : Slot) (vs : List Value), Stand p l e ({ frames := 0, cells := 0, slots := 0, locals := 0 } : Room) s m #[(.ref ra), (.int (0 : Int32)), (.ref rd), (.int (0 : Int32)), (.int (Int32.ofNat n))] below meth c T lo 0 0 → T.heap = h1 → Fr n0 lo → Old Z n0 h1 → Keep h0 h1 [rd] → One s6 → vs.length = n → Arv Z h1 rd kd .byte (Int32.ofNat n) vs (.int (0 : Int32)) → Arv Z h1 ra ka .char (Int32.ofNat n) (cs.map Value.int) (.int (0 : Int32)) → Rch p e below S0 T (mkF m 3 #[.val (.ref ra), .val (.int (Int32.ofNat i)), .val (.ref rd), .val (.int (Int32.ofNat i)), .val (.int (Int32.ofNat n)), .val (.int (Int32.ofNat i)), s6] []) →
      ∃ (T2 : State) (h2 : Heap) (lo2 : List Loc), Stand p l e ({ frames := 0, cells := 0, slots := 0, locals := 0 } : Room) s m #[(.ref ra), (.int (0 : Int32)), (.ref rd), (.int (0 : Int32)), (.int (Int32.ofNat n))] below meth c T2 lo2 0 0 ∧ T2.heap = h2 ∧ Fr n0 lo2 ∧ Keep h0 h2 [rd] ∧ Rch p e below S0 T2 (mkF m 25 #[.val (.ref ra), .val (.int (Int32.ofNat k)), .val (.ref rd), .val (.int (Int32.ofNat k)), .val (.int (Int32.ofNat n)), .val (.int (Int32.ofNat k)), .val (.int (cs.getD k 0))] [(.int (Int32.ofNat k))]) := by
    intro j
    induction j with
    | zero =>
      intro i hi T h1 lo s6 vs X eT NN OO KK hs6 hvl Vd1 Va1 kk
      obtain rfl : i = k := by omega
      have k58 : Rch p e below S0 T (mkF m 12 #[.val (.ref ra), .val (.int (Int32.ofNat i)), .val (.ref rd), .val (.int (Int32.ofNat i)), .val (.int (Int32.ofNat n)), .val (.int (Int32.ofNat i)), s6] [(.int (Int32.ofNat i)), (.ref ra)]) := fun t h => kk t (by
          show Steps p.tables e below (T.setTop (mkF m 3 #[.val (.ref ra), .val (.int (Int32.ofNat i)), .val (.ref rd), .val (.int (Int32.ofNat i)), .val (.int (Int32.ofNat n)), .val (.int (Int32.ofNat i)), s6] [])) _
          refine XS.iload X.here hx rfl (hb hby d9_3) rfl ?_
          show Steps p.tables e below (T.setTop (mkF m 5 #[.val (.ref ra), .val (.int (Int32.ofNat i)), .val (.ref rd), .val (.int (Int32.ofNat i)), .val (.int (Int32.ofNat n)), .val (.int (Int32.ofNat i)), s6] [(.int (Int32.ofNat i))])) _
          refine XS.iload X.here hx rfl (hb hby d9_5) rfl ?_
          show Steps p.tables e below (T.setTop (mkF m 7 #[.val (.ref ra), .val (.int (Int32.ofNat i)), .val (.ref rd), .val (.int (Int32.ofNat i)), .val (.int (Int32.ofNat n)), .val (.int (Int32.ofNat i)), s6] [(.int (Int32.ofNat n)), (.int (Int32.ofNat i))])) _
          refine XS.icmpNo X.here hx rfl (hb hby d9_7) rfl (tlt (((own_olt (by omega) (by omega)).mpr (by omega)) : (Int32.ofNat i) < (Int32.ofNat n))).2.1 ?_
          show Steps p.tables e below (T.setTop (mkF m 10 #[.val (.ref ra), .val (.int (Int32.ofNat i)), .val (.ref rd), .val (.int (Int32.ofNat i)), .val (.int (Int32.ofNat n)), .val (.int (Int32.ofNat i)), s6] [])) _
          refine XS.aloadN X.here hx rfl (hb hby d9_10) rfl rfl ?_
          show Steps p.tables e below (T.setTop (mkF m 11 #[.val (.ref ra), .val (.int (Int32.ofNat i)), .val (.ref rd), .val (.int (Int32.ofNat i)), .val (.int (Int32.ofNat n)), .val (.int (Int32.ofNat i)), s6] [(.ref ra)])) _
          refine XS.iloadN X.here hx rfl (hb hby d9_11) rfl ?_
          show Steps p.tables e below (T.setTop (mkF m 12 #[.val (.ref ra), .val (.int (Int32.ofNat i)), .val (.ref rd), .val (.int (Int32.ofNat i)), .val (.int (Int32.ofNat n)), .val (.int (Int32.ofNat i)), s6] [(.int (Int32.ofNat i)), (.ref ra)])) _
          exact h)
      obtain ⟨cl57, Ar57, q57, Sz57, Ng57, Hs57, G57⟩ := id Va1
      have hin57 : ¬ ((Int32.ofNat i) < 0 ∨ cl57.slots.size ≤ ((Int32.ofNat i)).toNatClampNeg) := inb_of Sz57 (own_inb (by omega) (by omega))
      have hat57 : cl57.slots[((Int32.ofNat i)).toNatClampNeg]? = some (.int (cs.getD i 0)) := Hs57.at hin57 (by rw [(own_tn (by omega)).1]; exact own_at cs i 0)
      have k59 : Rch p e below S0 T (mkF m 25 #[.val (.ref ra), .val (.int (Int32.ofNat i)), .val (.ref rd), .val (.int (Int32.ofNat i)), .val (.int (Int32.ofNat n)), .val (.int (Int32.ofNat i)), .val (.int (cs.getD i 0))] [(.int (Int32.ofNat i))]) := fun t h => k58 t (by
          show Steps p.tables e below (T.setTop (mkF m 12 #[.val (.ref ra), .val (.int (Int32.ofNat i)), .val (.ref rd), .val (.int (Int32.ofNat i)), .val (.int (Int32.ofNat n)), .val (.int (Int32.ofNat i)), s6] [(.int (Int32.ofNat i)), (.ref ra)])) _
          refine X.caload hx (j := (Int32.ofNat i)) (v := (.int (cs.getD i 0))) (by rw [eT]; exact Ar57.1) (State.isArrayOf_alike hZ.alike Ar57.2.1) Ar57.2.2 hin57 hat57 (g := (mkF m 12 #[.val (.ref ra), .val (.int (Int32.ofNat i)), .val (.ref rd), .val (.int (Int32.ofNat i)), .val (.int (Int32.ofNat n)), .val (.int (Int32.ofNat i)), s6] [(.int (Int32.ofNat i)), (.ref ra)])) rfl rfl (hb hby d9_12) _ ?_
          show Steps p.tables e below (T.setTop (mkF m 13 #[.val (.ref ra), .val (.int (Int32.ofNat i)), .val (.ref rd), .val (.int (Int32.ofNat i)), .val (.int (Int32.ofNat n)), .val (.int (Int32.ofNat i)), s6] [(.int (cs.getD i 0))])) _
          refine XS.istoreS X.here hx rfl (hb hby d9_13) rfl rfl hs6 ?_
          show Steps p.tables e below (T.setTop (mkF m 15 #[.val (.ref ra), .val (.int (Int32.ofNat i)), .val (.ref rd), .val (.int (Int32.ofNat i)), .val (.int (Int32.ofNat n)), .val (.int (Int32.ofNat i)), .val (.int (cs.getD i 0))] [])) _
          refine XS.iload X.here hx rfl (hb hby d9_15) rfl ?_
          show Steps p.tables e below (T.setTop (mkF m 17 #[.val (.ref ra), .val (.int (Int32.ofNat i)), .val (.ref rd), .val (.int (Int32.ofNat i)), .val (.int (Int32.ofNat n)), .val (.int (Int32.ofNat i)), .val (.int (cs.getD i 0))] [(.int (cs.getD i 0))])) _
          refine XS.sipush X.here hx rfl (hb hby d9_17) ?_
          show Steps p.tables e below (T.setTop (mkF m 20 #[.val (.ref ra), .val (.int (Int32.ofNat i)), .val (.ref rd), .val (.int (Int32.ofNat i)), .val (.int (Int32.ofNat n)), .val (.int (Int32.ofNat i)), .val (.int (cs.getD i 0))] [(.int (255 : Int32)), (.int (cs.getD i 0))])) _
          refine XS.icmpNo X.here hx rfl (hb hby d9_20) rfl (tlt (hhigh : (255 : Int32) < (cs.getD i 0))).2.2.2 ?_
          show Steps p.tables e below (T.setTop (mkF m 23 #[.val (.ref ra), .val (.int (Int32.ofNat i)), .val (.ref rd), .val (.int (Int32.ofNat i)), .val (.int (Int32.ofNat n)), .val (.int (Int32.ofNat i)), .val (.int (cs.getD i 0))] [])) _
          refine XS.iload X.here hx rfl (hb hby d9_23) rfl ?_
          show Steps p.tables e below (T.setTop (mkF m 25 #[.val (.ref ra), .val (.int (Int32.ofNat i)), .val (.ref rd), .val (.int (Int32.ofNat i)), .val (.int (Int32.ofNat n)), .val (.int (Int32.ofNat i)), .val (.int (cs.getD i 0))] [(.int (Int32.ofNat i))])) _
          exact h)
      exact ⟨_, _, _, X, eT, NN, KK, k59⟩
    | succ j ih =>
      intro i hi T h1 lo s6 vs X eT NN OO KK hs6 hvl Vd1 Va1 kk
      have k61 : Rch p e below S0 T (mkF m 12 #[.val (.ref ra), .val (.int (Int32.ofNat i)), .val (.ref rd), .val (.int (Int32.ofNat i)), .val (.int (Int32.ofNat n)), .val (.int (Int32.ofNat i)), s6] [(.int (Int32.ofNat i)), (.ref ra)]) := fun t h => kk t (by
          show Steps p.tables e below (T.setTop (mkF m 3 #[.val (.ref ra), .val (.int (Int32.ofNat i)), .val (.ref rd), .val (.int (Int32.ofNat i)), .val (.int (Int32.ofNat n)), .val (.int (Int32.ofNat i)), s6] [])) _
          refine XS.iload X.here hx rfl (hb hby d9_3) rfl ?_
          show Steps p.tables e below (T.setTop (mkF m 5 #[.val (.ref ra), .val (.int (Int32.ofNat i)), .val (.ref rd), .val (.int (Int32.ofNat i)), .val (.int (Int32.ofNat n)), .val (.int (Int32.ofNat i)), s6] [(.int (Int32.ofNat i))])) _
          refine XS.iload X.here hx rfl (hb hby d9_5) rfl ?_
          show Steps p.tables e below (T.setTop (mkF m 7 #[.val (.ref ra), .val (.int (Int32.ofNat i)), .val (.ref rd), .val (.int (Int32.ofNat i)), .val (.int (Int32.ofNat n)), .val (.int (Int32.ofNat i)), s6] [(.int (Int32.ofNat n)), (.int (Int32.ofNat i))])) _
          refine XS.icmpNo X.here hx rfl (hb hby d9_7) rfl (tlt (((own_olt (by omega) (by omega)).mpr (by omega)) : (Int32.ofNat i) < (Int32.ofNat n))).2.1 ?_
          show Steps p.tables e below (T.setTop (mkF m 10 #[.val (.ref ra), .val (.int (Int32.ofNat i)), .val (.ref rd), .val (.int (Int32.ofNat i)), .val (.int (Int32.ofNat n)), .val (.int (Int32.ofNat i)), s6] [])) _
          refine XS.aloadN X.here hx rfl (hb hby d9_10) rfl rfl ?_
          show Steps p.tables e below (T.setTop (mkF m 11 #[.val (.ref ra), .val (.int (Int32.ofNat i)), .val (.ref rd), .val (.int (Int32.ofNat i)), .val (.int (Int32.ofNat n)), .val (.int (Int32.ofNat i)), s6] [(.ref ra)])) _
          refine XS.iloadN X.here hx rfl (hb hby d9_11) rfl ?_
          show Steps p.tables e below (T.setTop (mkF m 12 #[.val (.ref ra), .val (.int (Int32.ofNat i)), .val (.ref rd), .val (.int (Int32.ofNat i)), .val (.int (Int32.ofNat n)), .val (.int (Int32.ofNat i)), s6] [(.int (Int32.ofNat i)), (.ref ra)])) _
          exact h)
      obtain ⟨cl60, Ar60, q60, Sz60, Ng60, Hs60, G60⟩ := id Va1
      have hin60 : ¬ ((Int32.ofNat i) < 0 ∨ cl60.slots.size ≤ ((Int32.ofNat i)).toNatClampNeg) := inb_of Sz60 (own_inb (by omega) (by omega))
      have hat60 : cl60.slots[((Int32.ofNat i)).toNatClampNeg]? = some (.int (cs.getD i 0)) := Hs60.at hin60 (by rw [(own_tn (by omega)).1]; exact own_at cs i 0)
      have k63 : Rch p e below S0 T (mkF m 31 #[.val (.ref ra), .val (.int (Int32.ofNat i)), .val (.ref rd), .val (.int (Int32.ofNat i)), .val (.int (Int32.ofNat n)), .val (.int (Int32.ofNat i)), .val (.int (cs.getD i 0))] [(.int ((cs.getD i 0).toInt8.toInt32)), (.int (Int32.ofNat i)), (.ref rd)]) := fun t h => k61 t (by
          show Steps p.tables e below (T.setTop (mkF m 12 #[.val (.ref ra), .val (.int (Int32.ofNat i)), .val (.ref rd), .val (.int (Int32.ofNat i)), .val (.int (Int32.ofNat n)), .val (.int (Int32.ofNat i)), s6] [(.int (Int32.ofNat i)), (.ref ra)])) _
          refine X.caload hx (j := (Int32.ofNat i)) (v := (.int (cs.getD i 0))) (by rw [eT]; exact Ar60.1) (State.isArrayOf_alike hZ.alike Ar60.2.1) Ar60.2.2 hin60 hat60 (g := (mkF m 12 #[.val (.ref ra), .val (.int (Int32.ofNat i)), .val (.ref rd), .val (.int (Int32.ofNat i)), .val (.int (Int32.ofNat n)), .val (.int (Int32.ofNat i)), s6] [(.int (Int32.ofNat i)), (.ref ra)])) rfl rfl (hb hby d9_12) _ ?_
          show Steps p.tables e below (T.setTop (mkF m 13 #[.val (.ref ra), .val (.int (Int32.ofNat i)), .val (.ref rd), .val (.int (Int32.ofNat i)), .val (.int (Int32.ofNat n)), .val (.int (Int32.ofNat i)), s6] [(.int (cs.getD i 0))])) _
          refine XS.istoreS X.here hx rfl (hb hby d9_13) rfl rfl hs6 ?_
          show Steps p.tables e below (T.setTop (mkF m 15 #[.val (.ref ra), .val (.int (Int32.ofNat i)), .val (.ref rd), .val (.int (Int32.ofNat i)), .val (.int (Int32.ofNat n)), .val (.int (Int32.ofNat i)), .val (.int (cs.getD i 0))] [])) _
          refine XS.iload X.here hx rfl (hb hby d9_15) rfl ?_
          show Steps p.tables e below (T.setTop (mkF m 17 #[.val (.ref ra), .val (.int (Int32.ofNat i)), .val (.ref rd), .val (.int (Int32.ofNat i)), .val (.int (Int32.ofNat n)), .val (.int (Int32.ofNat i)), .val (.int (cs.getD i 0))] [(.int (cs.getD i 0))])) _
          refine XS.sipush X.here hx rfl (hb hby d9_17) ?_
          show Steps p.tables e below (T.setTop (mkF m 20 #[.val (.ref ra), .val (.int (Int32.ofNat i)), .val (.ref rd), .val (.int (Int32.ofNat i)), .val (.int (Int32.ofNat n)), .val (.int (Int32.ofNat i)), .val (.int (cs.getD i 0))] [(.int (255 : Int32)), (.int (cs.getD i 0))])) _
          refine XS.icmpYes X.here hx rfl (pc0 := 20) (pc' := 26) rfl (hb hby d9_20) rfl (flt ((hlow i (by omega)) : ¬ ((255 : Int32) < (cs.getD i 0)))).2.2.2 (by decide) (by decide) ?_
          show Steps p.tables e below (T.setTop (mkF m 26 #[.val (.ref ra), .val (.int (Int32.ofNat i)), .val (.ref rd), .val (.int (Int32.ofNat i)), .val (.int (Int32.ofNat n)), .val (.int (Int32.ofNat i)), .val (.int (cs.getD i 0))] [])) _
          refine XS.aloadN X.here hx rfl (hb hby d9_26) rfl rfl ?_
          show Steps p.tables e below (T.setTop (mkF m 27 #[.val (.ref ra), .val (.int (Int32.ofNat i)), .val (.ref rd), .val (.int (Int32.ofNat i)), .val (.int (Int32.ofNat n)), .val (.int (Int32.ofNat i)), .val (.int (cs.getD i 0))] [(.ref rd)])) _
          refine XS.iloadN X.here hx rfl (hb hby d9_27) rfl ?_
          show Steps p.tables e below (T.setTop (mkF m 28 #[.val (.ref ra), .val (.int (Int32.ofNat i)), .val (.ref rd), .val (.int (Int32.ofNat i)), .val (.int (Int32.ofNat n)), .val (.int (Int32.ofNat i)), .val (.int (cs.getD i 0))] [(.int (Int32.ofNat i)), (.ref rd)])) _
          refine XS.iload X.here hx rfl (hb hby d9_28) rfl ?_
          show Steps p.tables e below (T.setTop (mkF m 30 #[.val (.ref ra), .val (.int (Int32.ofNat i)), .val (.ref rd), .val (.int (Int32.ofNat i)), .val (.int (Int32.ofNat n)), .val (.int (Int32.ofNat i)), .val (.int (cs.getD i 0))] [(.int (cs.getD i 0)), (.int (Int32.ofNat i)), (.ref rd)])) _
          refine XS.i2b X.here hx rfl (hb hby d9_30) rfl ?_
          show Steps p.tables e below (T.setTop (mkF m 31 #[.val (.ref ra), .val (.int (Int32.ofNat i)), .val (.ref rd), .val (.int (Int32.ofNat i)), .val (.int (Int32.ofNat n)), .val (.int (Int32.ofNat i)), .val (.int (cs.getD i 0))] [(.int ((cs.getD i 0).toInt8.toInt32)), (.int (Int32.ofNat i)), (.ref rd)])) _
          exact h)
      obtain ⟨cl62, Ar62, q62, Sz62, Ng62, Hs62, G62⟩ := id Vd1
      have hin62 : ¬ ((Int32.ofNat i) < 0 ∨ cl62.slots.size ≤ ((Int32.ofNat i)).toNatClampNeg) := inb_of Sz62 (own_inb (by omega) (by omega))
      obtain ⟨T62, h62, X62, e62, W62, st62⟩ := stB X hx hZ eT Ar62 (j := (Int32.ofNat i)) hin62 (g := (mkF m 31 #[.val (.ref ra), .val (.int (Int32.ofNat i)), .val (.ref rd), .val (.int (Int32.ofNat i)), .val (.int (Int32.ofNat n)), .val (.int (Int32.ofNat i)), .val (.int (cs.getD i 0))] [(.int ((cs.getD i 0).toInt8.toInt32)), (.int (Int32.ofNat i)), (.ref rd)])) rfl rfl (hb hby d9_31)
      have k64 : Rch p e below S0 T62 (mkF m 32 #[.val (.ref ra), .val (.int (Int32.ofNat i)), .val (.ref rd), .val (.int (Int32.ofNat i)), .val (.int (Int32.ofNat n)), .val (.int (Int32.ofNat i)), .val (.int (cs.getD i 0))] []) := fun t h => k63 t (st62 t h)
      have N62 := Fr.snoc X62 NN ge_rd
      have Vd1' := Arv.set Ar62 q62 Sz62 Ng62 Hs62 G62 (fits_nar_byte _) W62 i (own_tn (by omega)).1 (by omega)
      replace Vd1 := Vd1'
      have O65 := OO.wr W62 ge_rd
      have K66 := KK.wr W62 (Or.inl (List.mem_of_getElem? (i := 0) rfl))
      replace Va1 := Va1.other W62 ne_ra_rd
      have k67 : Rch p e below S0 T62 (mkF m 3 #[.val (.ref ra), .val (.int (Int32.ofNat (i + 1))), .val (.ref rd), .val (.int (Int32.ofNat (i + 1))), .val (.int (Int32.ofNat n)), .val (.int (Int32.ofNat (i + 1))), .val (.int (cs.getD i 0))] []) := fun t h => k64 t (by
          show Steps p.tables e below (T62.setTop (mkF m 32 #[.val (.ref ra), .val (.int (Int32.ofNat i)), .val (.ref rd), .val (.int (Int32.ofNat i)), .val (.int (Int32.ofNat n)), .val (.int (Int32.ofNat i)), .val (.int (cs.getD i 0))] [])) _
          refine XS.iinc X62.here hx rfl (hb hby d9_32) rfl (l' := #[.val (.ref ra), .val (.int ((Int32.ofNat i) + (1 : Int32))), .val (.ref rd), .val (.int (Int32.ofNat i)), .val (.int (Int32.ofNat n)), .val (.int (Int32.ofNat i)), .val (.int (cs.getD i 0))]) rfl ?_
          rw [own_inc (i := i) (by omega)]
          show Steps p.tables e below (T62.setTop (mkF m 35 #[.val (.ref ra), .val (.int (Int32.ofNat (i + 1))), .val (.ref rd), .val (.int (Int32.ofNat i)), .val (.int (Int32.ofNat n)), .val (.int (Int32.ofNat i)), .val (.int (cs.getD i 0))] [])) _
          refine XS.iinc X62.here hx rfl (hb hby d9_35) rfl (l' := #[.val (.ref ra), .val (.int (Int32.ofNat (i + 1))), .val (.ref rd), .val (.int ((Int32.ofNat i) + (1 : Int32))), .val (.int (Int32.ofNat n)), .val (.int (Int32.ofNat i)), .val (.int (cs.getD i 0))]) rfl ?_
          rw [own_inc (i := i) (by omega)]
          show Steps p.tables e below (T62.setTop (mkF m 38 #[.val (.ref ra), .val (.int (Int32.ofNat (i + 1))), .val (.ref rd), .val (.int (Int32.ofNat (i + 1))), .val (.int (Int32.ofNat n)), .val (.int (Int32.ofNat i)), .val (.int (cs.getD i 0))] [])) _
          refine XS.iinc X62.here hx rfl (hb hby d9_38) rfl (l' := #[.val (.ref ra), .val (.int (Int32.ofNat (i + 1))), .val (.ref rd), .val (.int (Int32.ofNat (i + 1))), .val (.int (Int32.ofNat n)), .val (.int ((Int32.ofNat i) + (1 : Int32))), .val (.int (cs.getD i 0))]) rfl ?_
          rw [own_inc (i := i) (by omega)]
          show Steps p.tables e below (T62.setTop (mkF m 41 #[.val (.ref ra), .val (.int (Int32.ofNat (i + 1))), .val (.ref rd), .val (.int (Int32.ofNat (i + 1))), .val (.int (Int32.ofNat n)), .val (.int (Int32.ofNat (i + 1))), .val (.int (cs.getD i 0))] [])) _
          refine XS.goto X62.here hx rfl (pc0 := 41) (pc' := 3) rfl (hb hby d9_41) (by decide) (by decide) ?_
          show Steps p.tables e below (T62.setTop (mkF m 3 #[.val (.ref ra), .val (.int (Int32.ofNat (i + 1))), .val (.ref rd), .val (.int (Int32.ofNat (i + 1))), .val (.int (Int32.ofNat n)), .val (.int (Int32.ofNat (i + 1))), .val (.int (cs.getD i 0))] [])) _
          exact h)
      exact ih (i + 1) (by omega) _ _ _ _ _ X62 e62 N62 O65 K66 (One.val rfl) (by rw [List.length_set]; exact hvl) Vd1 Va1 k67
  obtain ⟨TL, hL, loL, XL, eL, NL, KL, kL⟩ := loop k 0 (by omega) _ _ _ _ _ X0 e0 N0 O0 K0 One.u (by simp) Vd Va k56
  obtain ⟨fs, hr, hrun, hended, hW, hsame⟩ := XL.leave (v := (some (.int (Int32.ofNat k)))) (fun h => by rw [Bd.returns] at h; cases h)
  refine ⟨_, _, ?_, hrun, hended, _, _, rfl, ?_, ⟨_, rfl⟩, hW, hsame.mono (by decide) (by decide)⟩
  · rw [← hS0]
    refine kL _ ?_
    show Steps p.tables e below (TL.setTop (mkF m 25 #[.val (.ref ra), .val (.int (Int32.ofNat k)), .val (.ref rd), .val (.int (Int32.ofNat k)), .val (.int (Int32.ofNat n)), .val (.int (Int32.ofNat k)), .val (.int (cs.getD k 0))] [(.int (Int32.ofNat k))])) _
    exact retI XL hx Bd.returns (hb hby d9_25) hr
  · show Q_rmC5 Z rd k h0 n0 _ TL.heap _
    rw [eL]
    exact ⟨rfl, NL, KL⟩
def Q_rmC3 (Z : State) (n : Nat) (h0 : Heap) (n0 : Nat) (v : Option Value) (h : Heap) (L : List Loc) : Prop := ∃ x kx vs, v = some (.ref x) ∧ Fr n0 L ∧ Ext h0 h ∧ h0.size ≤ x ∧ Arv Z h x kx .byte (Int32.ofNat (2 * n)) vs (.int (0 : Int32))
theorem ef_8 (m : MethodId) (x0 : Addr) (x1 : Int32) (x2 : Int32) : entryFrame m #[(.ref x0), (.int x1), (.int x2)] 6 = mkF m 0 #[.val (.ref x0), .val (.int x1), .val (.int x2), .unset, .unset, .unset] [] := by first | (simp [entryFrame, mkF, argsToLocals, Value.category]; done) | rfl
theorem d8_0 : decode jdk_52_method_16_code 0 = .ok (.iload_n 2, 1) := by decide +kernel
theorem d8_1 : decode jdk_52_method_16_code 1 = .ok (.newarray .byte, 2) := by decide +kernel
theorem d8_3 : decode jdk_52_method_16_code 3 = .ok (.astore_n 3, 1) := by decide +kernel
theorem d8_4 : decode jdk_52_method_16_code 4 = .ok (.aload_n 0, 1) := by decide +kernel
theorem d8_5 : decode jdk_52_method_16_code 5 = .ok (.iload_n 1, 1) := by decide +kernel
theorem d8_6 : decode jdk_52_method_16_code 6 = .ok (.aload_n 3, 1) := by decide +kernel
theorem d8_7 : decode jdk_52_method_16_code 7 = .ok (.iconst 0, 1) := by decide +kernel
theorem d8_8 : decode jdk_52_method_16_code 8 = .ok (.iload_n 2, 1) := by decide +kernel
theorem pd_8 : parseMethodDescriptor "([CI[BII)I" = some ⟨[(.array .char), .int, (.array .byte), .int, .int], some .int⟩ := by decide +kernel
theorem d8_9 : decode jdk_52_method_16_code 9 = .ok (.invokestatic 115, 3) := by decide +kernel
theorem d8_12 : decode jdk_52_method_16_code 12 = .ok (.istore 4, 2) := by decide +kernel
theorem d8_14 : decode jdk_52_method_16_code 14 = .ok (.iload 4, 2) := by decide +kernel
theorem d8_16 : decode jdk_52_method_16_code 16 = .ok (.iload_n 2, 1) := by decide +kernel
theorem d8_17 : decode jdk_52_method_16_code 17 = .ok (.if_icmp .eq 40, 3) := by decide +kernel
theorem d8_20 : decode jdk_52_method_16_code 20 = .ok (.aload_n 0, 1) := by decide +kernel
theorem d8_21 : decode jdk_52_method_16_code 21 = .ok (.iload_n 1, 1) := by decide +kernel
theorem d8_22 : decode jdk_52_method_16_code 22 = .ok (.iload_n 2, 1) := by decide +kernel
theorem pd_7 : parseMethodDescriptor "([CII)[B" = some ⟨[(.array .char), .int, .int], some (.array .byte)⟩ := by decide +kernel
theorem d8_23 : decode jdk_52_method_16_code 23 = .ok (.invokestatic 119, 3) := by decide +kernel
theorem d8_26 : decode jdk_52_method_16_code 26 = .ok (.astore 5, 2) := by decide +kernel
theorem d8_28 : decode jdk_52_method_16_code 28 = .ok (.aload 5, 2) := by decide +kernel
theorem d8_30 : decode jdk_52_method_16_code 30 = .ok (.iload 4, 2) := by decide +kernel
theorem pd_13 : parseMethodDescriptor "([BI)C" = some ⟨[(.array .byte), .int], some .char⟩ := by decide +kernel
theorem d8_32 : decode jdk_52_method_16_code 32 = .ok (.invokestatic 71, 3) := by decide +kernel
theorem d8_35 : decode jdk_52_method_16_code 35 = .ok (.sipush 255, 3) := by decide +kernel
theorem d8_38 : decode jdk_52_method_16_code 38 = .ok (.if_icmp .gt 16, 3) := by decide +kernel
theorem d8_54 : decode jdk_52_method_16_code 54 = .ok (.aload 5, 2) := by decide +kernel
theorem d8_56 : decode jdk_52_method_16_code 56 = .ok (.areturn, 1) := by decide +kernel
set_option maxRecDepth 65536 in
set_option maxHeartbeats 40000000 in
theorem rmC3 (l : Launch) (Z : State) (a0 : Array Value) (hw : ∀ d ∈ tables_1, d.before a0 Z = true) (ws : List Jvm.Cond) (ra : Addr) (ka : ClassId) (n : Nat) (cs : List Int32) (k : Nat) (h0 : Heap) (n0 : Nat) (O0 : Old Z n0 h0) (SAs : Sta Z Z.heap "java/lang/StringUTF16" "$assertionsDisabled" "Z" (.int (1 : Int32))) (SHi : Sta Z Z.heap "java/lang/StringUTF16" "HI_BYTE_SHIFT" "I" (.int (0 : Int32))) (SLo : Sta Z Z.heap "java/lang/StringUTF16" "LO_BYTE_SHIFT" "I" (.int (8 : Int32))) (hn : n ≤ 4000) (hl : cs.length = n) (hk : k < n) (hlow : ∀ i, i < k → ¬ (255 : Int32) < cs.getD i 0) (hhigh : (255 : Int32) < cs.getD k 0) (hp : ∀ c ∈ cs, ¬ c < 0 ∧ ¬ (65535 : Int32) < c) (Va : Arv Z h0 ra ka .char (Int32.ofNat n) (cs.map Value.int) (.int (0 : Int32))) :
    MetFree l (⟨"java/lang/StringUTF16", "compress", "([CII)[B"⟩ : MethodName) (head1 (Jvm.Cond.code (⟨"java/lang/StringUTF16", "compress", "([CII)[B"⟩ : MethodName) jdk_52_method_16_code 6 (some (.array .byte)) :: ws) ({ frames := 3, cells := 2, slots := 12000, locals := 100 } : Room)) (fun a U => a = #[(.ref ra), (.int (0 : Int32)), (.int (Int32.ofNat n))] ∧ Z.Warmed39 U.vm ∧ U.heap = h0) (fun _ _ _ _ _ => True) (fun _ U o U' => ∃ v L, o = .returned v ∧ Q_rmC3 Z n h0 n0 v U'.heap L ∧ FrameEnd U o U' L ({ frames := 3, cells := 2, slots := 12000, locals := 100 } : Room).cells ({ frames := 3, cells := 2, slots := 12000, locals := 100 } : Room).slots) := by
  refine MetFree.of_bodySF (plainFor_of_name pn_StringUTF16) hisR ?_
  intro p e s m args below meth c s₁ Bd hml0 hP hK
  obtain ⟨rfl, hZ, hh⟩ := hP
  have hx := Bd.exec
  have hby := Bd.bytes
  have hml : c.maxLocals = 6 := hml0
  have hown : s.vm.findClass "java/lang/StringUTF16" = some m.cls := findClass_of_methodNamed Bd.named
  have hnm := (name_of_methodNamed Bd.named Bd.method).1
  have X0 : Stand p l e ({ frames := 3, cells := 2, slots := 12000, locals := 100 } : Room) s m #[(.ref ra), (.int (0 : Int32)), (.int (Int32.ofNat n))] below meth c s₁ [] 0 0 := Stand.of_body Bd
  have e0 : s₁.heap = h0 := by rw [← hh, Bd.state]; rfl
  have N0 := Fr.nil n0
  obtain ⟨S0, hS0⟩ : ∃ z, z = s₁.setTop (entryFrame m #[(.ref ra), (.int (0 : Int32)), (.int (Int32.ofNat n))] 6) := ⟨_, rfl⟩
  have k0 : Rch p e below S0 s₁ (mkF m 0 #[.val (.ref ra), .val (.int (0 : Int32)), .val (.int (Int32.ofNat n)), .unset, .unset, .unset] []) := fun t kq => hS0 ▸ castTop (ef_8 m ra (0 : Int32) (Int32.ofNat n)) kq
  have K0 : Keep h0 h0 [] := Keep.refl h0 _
  have k69 : Rch p e below S0 s₁ (mkF m 1 #[.val (.ref ra), .val (.int (0 : Int32)), .val (.int (Int32.ofNat n)), .unset, .unset, .unset] [(.int (Int32.ofNat n))]) := fun t h => k0 t (by
      show Steps p.tables e below (s₁.setTop (mkF m 0 #[.val (.ref ra), .val (.int (0 : Int32)), .val (.int (Int32.ofNat n)), .unset, .unset, .unset] [])) _
      refine XS.iloadN X0.here hx rfl (hb hby d8_0) rfl ?_
      show Steps p.tables e below (s₁.setTop (mkF m 1 #[.val (.ref ra), .val (.int (0 : Int32)), .val (.int (Int32.ofNat n)), .unset, .unset, .unset] [(.int (Int32.ofNat n))])) _
      exact h)
  obtain ⟨T68, h68, k68, X68, e68, E68, A68, st68⟩ := newP X0 hx hZ (hw _ (List.mem_of_getElem? (i := 16) rfl)) e0 (g := (mkF m 1 #[.val (.ref ra), .val (.int (0 : Int32)), .val (.int (Int32.ofNat n)), .unset, .unset, .unset] [(.int (Int32.ofNat n))])) rfl (hb hby d8_1) rfl (own_on0 (by omega)) (cap := 4000) (by rw [(own_tn (by omega)).1]; omega) (by decide) (by decide) (by decide)
  obtain ⟨b68, g68⟩ : ∃ z, z = h0.size := ⟨_, rfl⟩
  rw [← g68] at A68 st68
  have k70 : Rch p e below S0 T68 (mkF m 3 #[.val (.ref ra), .val (.int (0 : Int32)), .val (.int (Int32.ofNat n)), .unset, .unset, .unset] [(.ref b68)]) := fun t h => k69 t (st68 t h)
  have ne_ra_b68 : ra ≠ b68 := own_ne Va.lt (Nat.le_of_eq g68.symm)
  have ge_b68 : n0 ≤ b68 := own_ge O0 (Nat.le_of_eq g68.symm)
  have sz_b68 : h0.size ≤ b68 := Nat.le_trans K0.1 (Nat.le_of_eq g68.symm)
  have O71 := O0.ext E68
  have K72 := K0.ext E68
  replace Va := Va.ext E68
  have V_b68 : Arv Z h68 b68 k68 .byte (Int32.ofNat n) [] (.int (0 : Int32)) := Arv.new A68 (own_on0 (by omega))
  have k73 : Rch p e below S0 T68 (mkF m 9 #[.val (.ref ra), .val (.int (0 : Int32)), .val (.int (Int32.ofNat n)), .val (.ref b68), .unset, .unset] [(.int (Int32.ofNat n)), (.int (0 : Int32)), (.ref b68), (.int (0 : Int32)), (.ref ra)]) := fun t h => k70 t (by
      show Steps p.tables e below (T68.setTop (mkF m 3 #[.val (.ref ra), .val (.int (0 : Int32)), .val (.int (Int32.ofNat n)), .unset, .unset, .unset] [(.ref b68)])) _
      refine XS.astoreN X68.here hx rfl (hb hby d8_3) rfl rfl (l' := #[.val (.ref ra), .val (.int (0 : Int32)), .val (.int (Int32.ofNat n)), .val (.ref b68), .unset, .unset]) rfl ?_
      show Steps p.tables e below (T68.setTop (mkF m 4 #[.val (.ref ra), .val (.int (0 : Int32)), .val (.int (Int32.ofNat n)), .val (.ref b68), .unset, .unset] [])) _
      refine XS.aloadN X68.here hx rfl (hb hby d8_4) rfl rfl ?_
      show Steps p.tables e below (T68.setTop (mkF m 5 #[.val (.ref ra), .val (.int (0 : Int32)), .val (.int (Int32.ofNat n)), .val (.ref b68), .unset, .unset] [(.ref ra)])) _
      refine XS.iloadN X68.here hx rfl (hb hby d8_5) rfl ?_
      show Steps p.tables e below (T68.setTop (mkF m 6 #[.val (.ref ra), .val (.int (0 : Int32)), .val (.int (Int32.ofNat n)), .val (.ref b68), .unset, .unset] [(.int (0 : Int32)), (.ref ra)])) _
      refine XS.aloadN X68.here hx rfl (hb hby d8_6) rfl rfl ?_
      show Steps p.tables e below (T68.setTop (mkF m 7 #[.val (.ref ra), .val (.int (0 : Int32)), .val (.int (Int32.ofNat n)), .val (.ref b68), .unset, .unset] [(.ref b68), (.int (0 : Int32)), (.ref ra)])) _
      refine XS.iconst X68.here hx rfl (hb hby d8_7) ?_
      show Steps p.tables e below (T68.setTop (mkF m 8 #[.val (.ref ra), .val (.int (0 : Int32)), .val (.int (Int32.ofNat n)), .val (.ref b68), .unset, .unset] [(.int (0 : Int32)), (.ref b68), (.int (0 : Int32)), (.ref ra)])) _
      refine XS.iloadN X68.here hx rfl (hb hby d8_8) rfl ?_
      show Steps p.tables e below (T68.setTop (mkF m 9 #[.val (.ref ra), .val (.int (0 : Int32)), .val (.int (Int32.ofNat n)), .val (.ref b68), .unset, .unset] [(.int (Int32.ofNat n)), (.int (0 : Int32)), (.ref b68), (.int (0 : Int32)), (.ref ra)])) _
      exact h)
  have Vp : Arv Z h68 b68 k68 .byte (Int32.ofNat n) (List.replicate n (.int (0 : Int32))) (.int (0 : Int32)) := by
    have q := V_b68.pad (pad_rep [] (.int (0 : Int32)) n)
    rwa [List.nil_append] at q
  obtain ⟨_, _, ⟨T74, L74, kk74, n74⟩, -, X74, ⟨Lc74, hQ74, l74, y74, z74⟩, st74⟩ := Jvm.LawKit.callS X68 hx (y := (⟨"java/lang/StringUTF16", "compress", "([CI[BII)I"⟩ : MethodName)) hown (mvT hZ (hw _ (List.mem_of_getElem? (i := 49) rfl))) (mvT hZ (hw _ (List.mem_of_getElem? (i := 50) rfl))) (mvT hZ (hw _ (List.mem_of_getElem? (i := 47) rfl))) (mvT hZ (hw _ (List.mem_of_getElem? (i := 51) rfl))) (by decide) (backOf (W := 0) (rmC5 l Z a0 hw [] ra b68 ka k68 n cs k h68 n0 O71 ge_b68 ne_ra_b68 hn hl hk hlow hhigh Va Vp) hZ (hw _ (List.mem_of_getElem? (i := 51) rfl)) (hw _ (List.mem_of_getElem? (i := 47) rfl)) (by decide) (by decide)) (g := (mkF m 9 #[.val (.ref ra), .val (.int (0 : Int32)), .val (.int (Int32.ofNat n)), .val (.ref b68), .unset, .unset] [(.int (Int32.ofNat n)), (.int (0 : Int32)), (.ref b68), (.int (0 : Int32)), (.ref ra)])) rfl (by rw [hml]; rfl) (argsL := [(.ref ra), (.int (0 : Int32)), (.ref b68), (.int (0 : Int32)), (.int (Int32.ofNat n))]) (rest := []) (lenOf pd_8 rfl) rfl (by show 2 * 0 + _ ≤ _; exact Nat.le_of_eq rfl) (hb hby d8_9) (fun _ _ => ⟨rfl, e68, (by decide : 1 + 0 ≤ _), (by decide : 4000 + 0 ≤ _)⟩)
  dsimp only [Pt.U, Pt.locs, Pt.cells, Pt.slots] at X74 l74 y74 z74 st74 hQ74
  subst l74 y74 z74
  obtain ⟨rfl, Nq74, K74⟩ := hQ74
  have N74 := Fr.app N0 Nq74
  have k75 : Rch p e below S0 T74 (mkF m 12 #[.val (.ref ra), .val (.int (0 : Int32)), .val (.int (Int32.ofNat n)), .val (.ref b68), .unset, .unset] [(.int (Int32.ofNat k))]) := fun t h => k73 t (st74 t h)
  have O76 := O71.keep K74 (allS ge_b68 all0)
  have K77 := K72.trans K74 (allS (Or.inr sz_b68) all0)
  replace Va := Va.keep K74 (ninS ne_ra_b68 nin0)
  have k78 : Rch p e below S0 T74 (mkF m 23 #[.val (.ref ra), .val (.int (0 : Int32)), .val (.int (Int32.ofNat n)), .val (.ref b68), .val (.int (Int32.ofNat k)), .unset] [(.int (Int32.ofNat n)), (.int (0 : Int32)), (.ref ra)]) := fun t h => k75 t (by
      show Steps p.tables e below (T74.setTop (mkF m 12 #[.val (.ref ra), .val (.int (0 : Int32)), .val (.int (Int32.ofNat n)), .val (.ref b68), .unset, .unset] [(.int (Int32.ofNat k))])) _
      refine XS.istore X74.here hx rfl (hb hby d8_12) rfl (l' := #[.val (.ref ra), .val (.int (0 : Int32)), .val (.int (Int32.ofNat n)), .val (.ref b68), .val (.int (Int32.ofNat k)), .unset]) rfl ?_
      show Steps p.tables e below (T74.setTop (mkF m 14 #[.val (.ref ra), .val (.int (0 : Int32)), .val (.int (Int32.ofNat n)), .val (.ref b68), .val (.int (Int32.ofNat k)), .unset] [])) _
      refine XS.iload X74.here hx rfl (hb hby d8_14) rfl ?_
      show Steps p.tables e below (T74.setTop (mkF m 16 #[.val (.ref ra), .val (.int (0 : Int32)), .val (.int (Int32.ofNat n)), .val (.ref b68), .val (.int (Int32.ofNat k)), .unset] [(.int (Int32.ofNat k))])) _
      refine XS.iloadN X74.here hx rfl (hb hby d8_16) rfl ?_
      show Steps p.tables e below (T74.setTop (mkF m 17 #[.val (.ref ra), .val (.int (0 : Int32)), .val (.int (Int32.ofNat n)), .val (.ref b68), .val (.int (Int32.ofNat k)), .unset] [(.int (Int32.ofNat n)), (.int (Int32.ofNat k))])) _
      refine XS.icmpNo X74.here hx rfl (hb hby d8_17) rfl (feq ((fun q => by have := congrArg Int32.toInt q; rw [(own_tn (by omega)).2, (own_tn (by omega)).2] at this; omega) : ¬ ((Int32.ofNat k) = (Int32.ofNat n)))).1 ?_
      show Steps p.tables e below (T74.setTop (mkF m 20 #[.val (.ref ra), .val (.int (0 : Int32)), .val (.int (Int32.ofNat n)), .val (.ref b68), .val (.int (Int32.ofNat k)), .unset] [])) _
      refine XS.aloadN X74.here hx rfl (hb hby d8_20) rfl rfl ?_
      show Steps p.tables e below (T74.setTop (mkF m 21 #[.val (.ref ra), .val (.int (0 : Int32)), .val (.int (Int32.ofNat n)), .val (.ref b68), .val (.int (Int32.ofNat k)), .unset] [(.ref ra)])) _
      refine XS.iloadN X74.here hx rfl (hb hby d8_21) rfl ?_
      show Steps p.tables e below (T74.setTop (mkF m 22 #[.val (.ref ra), .val (.int (0 : Int32)), .val (.int (Int32.ofNat n)), .val (.ref b68), .val (.int (Int32.ofNat k)), .unset] [(.int (0 : Int32)), (.ref ra)])) _
      refine XS.iloadN X74.here hx rfl (hb hby d8_22) rfl ?_
      show Steps p.tables e below (T74.setTop (mkF m 23 #[.val (.ref ra), .val (.int (0 : Int32)), .val (.int (Int32.ofNat n)), .val (.ref b68), .val (.int (Int32.ofNat k)), .unset] [(.int (Int32.ofNat n)), (.int (0 : Int32)), (.ref ra)])) _
      exact h)
  obtain ⟨_, _, ⟨T79, L79, kk79, n79⟩, -, X79, ⟨Lc79, hQ79, l79, y79, z79⟩, st79⟩ := Jvm.LawKit.callS X74 hx (y := (⟨"java/lang/StringUTF16", "toBytes", "([CII)[B"⟩ : MethodName)) hown (mvT hZ (hw _ (List.mem_of_getElem? (i := 55) rfl))) (mvT hZ (hw _ (List.mem_of_getElem? (i := 56) rfl))) (mvT hZ (hw _ (List.mem_of_getElem? (i := 47) rfl))) (mvT hZ (hw _ (List.mem_of_getElem? (i := 57) rfl))) (by decide) (backOf (W := 0) (rmTO l Z a0 hw [] ra ka n cs T74.heap n0 O76 SAs SHi SLo hn hl Va) hZ (hw _ (List.mem_of_getElem? (i := 57) rfl)) (hw _ (List.mem_of_getElem? (i := 47) rfl)) (by decide) (by decide)) (g := (mkF m 23 #[.val (.ref ra), .val (.int (0 : Int32)), .val (.int (Int32.ofNat n)), .val (.ref b68), .val (.int (Int32.ofNat k)), .unset] [(.int (Int32.ofNat n)), (.int (0 : Int32)), (.ref ra)])) rfl (by rw [hml]; rfl) (argsL := [(.ref ra), (.int (0 : Int32)), (.int (Int32.ofNat n))]) (rest := []) (lenOf pd_7 rfl) rfl (by show 2 * 0 + _ ≤ _; exact Nat.le_of_eq rfl) (hb hby d8_23) (fun _ _ => ⟨rfl, rfl, (by decide : 1 + 1 ≤ _), (by decide : 4000 + 8000 ≤ _)⟩)
  dsimp only [Pt.U, Pt.locs, Pt.cells, Pt.slots] at X79 l79 y79 z79 st79 hQ79
  subst l79 y79 z79
  obtain ⟨b79, kb79, vs79, rfl, Nq79, E79, z79, hl79, hv79, V79⟩ := hQ79
  have N79 := Fr.app N74 Nq79
  have k80 : Rch p e below S0 T79 (mkF m 26 #[.val (.ref ra), .val (.int (0 : Int32)), .val (.int (Int32.ofNat n)), .val (.ref b68), .val (.int (Int32.ofNat k)), .unset] [(.ref b79)]) := fun t h => k78 t (st79 t h)
  have zz : h0.size ≤ b79 := Nat.le_trans K77.1 z79
  have O81 := O76.ext E79
  have K82 := K77.ext E79
  replace Va := Va.ext E79
  have k83 : Rch p e below S0 T79 (mkF m 32 #[.val (.ref ra), .val (.int (0 : Int32)), .val (.int (Int32.ofNat n)), .val (.ref b68), .val (.int (Int32.ofNat k)), .val (.ref b79)] [(.int (Int32.ofNat k)), (.ref b79)]) := fun t h => k80 t (by
      show Steps p.tables e below (T79.setTop (mkF m 26 #[.val (.ref ra), .val (.int (0 : Int32)), .val (.int (Int32.ofNat n)), .val (.ref b68), .val (.int (Int32.ofNat k)), .unset] [(.ref b79)])) _
      refine XS.astore X79.here hx rfl (hb hby d8_26) rfl rfl (l' := #[.val (.ref ra), .val (.int (0 : Int32)), .val (.int (Int32.ofNat n)), .val (.ref b68), .val (.int (Int32.ofNat k)), .val (.ref b79)]) rfl ?_
      show Steps p.tables e below (T79.setTop (mkF m 28 #[.val (.ref ra), .val (.int (0 : Int32)), .val (.int (Int32.ofNat n)), .val (.ref b68), .val (.int (Int32.ofNat k)), .val (.ref b79)] [])) _
      refine XS.aload X79.here hx rfl (hb hby d8_28) rfl rfl ?_
      show Steps p.tables e below (T79.setTop (mkF m 30 #[.val (.ref ra), .val (.int (0 : Int32)), .val (.int (Int32.ofNat n)), .val (.ref b68), .val (.int (Int32.ofNat k)), .val (.ref b79)] [(.ref b79)])) _
      refine XS.iload X79.here hx rfl (hb hby d8_30) rfl ?_
      show Steps p.tables e below (T79.setTop (mkF m 32 #[.val (.ref ra), .val (.int (0 : Int32)), .val (.int (Int32.ofNat n)), .val (.ref b68), .val (.int (Int32.ofNat k)), .val (.ref b79)] [(.int (Int32.ofNat k)), (.ref b79)])) _
      exact h)
  obtain ⟨_, _, ⟨T84, L84, kk84, n84⟩, -, X84, ⟨Lc84, hQ84, l84, y84, z84⟩, st84⟩ := Jvm.LawKit.callS X79 hx (y := (⟨"java/lang/StringUTF16", "getChar", "([BI)C"⟩ : MethodName)) hown (mvT hZ (hw _ (List.mem_of_getElem? (i := 71) rfl))) (mvT hZ (hw _ (List.mem_of_getElem? (i := 72) rfl))) (mvT hZ (hw _ (List.mem_of_getElem? (i := 47) rfl))) (mvT hZ (hw _ (List.mem_of_getElem? (i := 73) rfl))) (by decide) (backOf (W := 0) (rmGC l Z a0 hw [] b79 k kb79 n vs79 (cs.getD k 0) T79.heap n0 O81 SAs SHi SLo hn hk (own_memD cs _ hp k (by omega)) (hv79 k hk).1 (hv79 k hk).2 V79) hZ (hw _ (List.mem_of_getElem? (i := 73) rfl)) (hw _ (List.mem_of_getElem? (i := 47) rfl)) (by decide) (by decide)) (g := (mkF m 32 #[.val (.ref ra), .val (.int (0 : Int32)), .val (.int (Int32.ofNat n)), .val (.ref b68), .val (.int (Int32.ofNat k)), .val (.ref b79)] [(.int (Int32.ofNat k)), (.ref b79)])) rfl (by rw [hml]; rfl) (argsL := [(.ref b79), (.int (Int32.ofNat k))]) (rest := []) (lenOf pd_13 rfl) rfl (by show 2 * 0 + _ ≤ _; exact Nat.le_of_eq rfl) (hb hby d8_32) (fun _ _ => ⟨rfl, rfl, (by decide : 2 + 0 ≤ _), (by decide : 12000 + 0 ≤ _)⟩)
  dsimp only [Pt.U, Pt.locs, Pt.cells, Pt.slots] at X84 l84 y84 z84 st84 hQ84
  subst l84 y84 z84
  obtain ⟨rfl, Nq84, hh84⟩ := hQ84
  have N84 := Fr.app N79 Nq84
  have k85 : Rch p e below S0 T84 (mkF m 35 #[.val (.ref ra), .val (.int (0 : Int32)), .val (.int (Int32.ofNat n)), .val (.ref b68), .val (.int (Int32.ofNat k)), .val (.ref b79)] [(.int (cs.getD k 0))]) := fun t h => k83 t (st84 t h)
  have k86 : Rch p e below S0 T84 (mkF m 56 #[.val (.ref ra), .val (.int (0 : Int32)), .val (.int (Int32.ofNat n)), .val (.ref b68), .val (.int (Int32.ofNat k)), .val (.ref b79)] [(.ref b79)]) := fun t h => k85 t (by
      show Steps p.tables e below (T84.setTop (mkF m 35 #[.val (.ref ra), .val (.int (0 : Int32)), .val (.int (Int32.ofNat n)), .val (.ref b68), .val (.int (Int32.ofNat k)), .val (.ref b79)] [(.int (cs.getD k 0))])) _
      refine XS.sipush X84.here hx rfl (hb hby d8_35) ?_
      show Steps p.tables e below (T84.setTop (mkF m 38 #[.val (.ref ra), .val (.int (0 : Int32)), .val (.int (Int32.ofNat n)), .val (.ref b68), .val (.int (Int32.ofNat k)), .val (.ref b79)] [(.int (255 : Int32)), (.int (cs.getD k 0))])) _
      refine XS.icmpYes X84.here hx rfl (pc0 := 38) (pc' := 54) rfl (hb hby d8_38) rfl (tlt (hhigh : (255 : Int32) < (cs.getD k 0))).2.2.1 (by decide) (by decide) ?_
      show Steps p.tables e below (T84.setTop (mkF m 54 #[.val (.ref ra), .val (.int (0 : Int32)), .val (.int (Int32.ofNat n)), .val (.ref b68), .val (.int (Int32.ofNat k)), .val (.ref b79)] [])) _
      refine XS.aload X84.here hx rfl (hb hby d8_54) rfl rfl ?_
      show Steps p.tables e below (T84.setTop (mkF m 56 #[.val (.ref ra), .val (.int (0 : Int32)), .val (.int (Int32.ofNat n)), .val (.ref b68), .val (.int (Int32.ofNat k)), .val (.ref b79)] [(.ref b79)])) _
      exact h)
  obtain ⟨fs, hr, hrun, hended, hW, hsame⟩ := X84.leave (v := (some (.ref b79))) (fun h => by rw [Bd.returns] at h; cases h)
  refine ⟨_, _, ?_, hrun, hended, _, _, rfl, ?_, ⟨_, rfl⟩, hW, hsame.mono (by decide) (by decide)⟩
  · rw [← hS0]
    refine k86 _ ?_
    show Steps p.tables e below (T84.setTop (mkF m 56 #[.val (.ref ra), .val (.int (0 : Int32)), .val (.int (Int32.ofNat n)), .val (.ref b68), .val (.int (Int32.ofNat k)), .val (.ref b79)] [(.ref b79)])) _
    jvm_step X84.here [X84.here.top, hx, (hb hby d8_56), X84.method', Bd.returns, Value.isRef, FieldType.isReference]
    first | (intro acts; rw [hr _ acts rfl rfl rfl]) | rw [hr _ _ rfl rfl rfl]
    exact Steps.refl _
  · show Q_rmC3 Z n h0 n0 _ T84.heap _
    rw [hh84]
    exact ⟨b79, kb79, vs79, rfl, N84, own_ext K82, zz, V79⟩
def Q_rmCL (Z : State)  (h0 : Heap) (n0 : Nat) (v : Option Value) (h : Heap) (L : List Loc) : Prop := v = some (.int (1 : Int32)) ∧ Fr n0 L ∧ h = h0
theorem ef_10 (m : MethodId) (x0 : Addr) (x1 : Int32) : entryFrame m #[(.ref x0), (.int x1)] 2 = mkF m 0 #[.val (.ref x0), .val (.int x1)] [] := by first | (simp [entryFrame, mkF, argsToLocals, Value.category]; done) | rfl
theorem d10_0 : decode jdk_52_method_15_code 0 = .ok (.iload_n 1, 1) := by decide +kernel
theorem d10_1 : decode jdk_52_method_15_code 1 = .ok (.aload_n 0, 1) := by decide +kernel
theorem d10_2 : decode jdk_52_method_15_code 2 = .ok (.arraylength, 1) := by decide +kernel
theorem d10_3 : decode jdk_52_method_15_code 3 = .ok (.isub, 1) := by decide +kernel
theorem d10_4 : decode jdk_52_method_15_code 4 = .ok (.bipush 31, 2) := by decide +kernel
theorem d10_6 : decode jdk_52_method_15_code 6 = .ok (.iushr, 1) := by decide +kernel
theorem d10_7 : decode jdk_52_method_15_code 7 = .ok (.i2b, 1) := by decide +kernel
theorem d10_8 : decode jdk_52_method_15_code 8 = .ok (.ireturn, 1) := by decide +kernel
set_option maxRecDepth 65536 in
set_option maxHeartbeats 40000000 in
theorem rmCL (l : Launch) (Z : State) (a0 : Array Value) (hw : ∀ d ∈ tables_1, d.before a0 Z = true) (ws : List Jvm.Cond) (rb : Addr) (kb : ClassId) (n : Nat) (vs : List Value) (h0 : Heap) (n0 : Nat) (O0 : Old Z n0 h0) (h1 : 0 < n) (hn : n ≤ 4000) (Vb : Arv Z h0 rb kb .byte (Int32.ofNat (2 * n)) vs (.int (0 : Int32))) :
    MetFree l (⟨"java/lang/StringUTF16", "coderFromArrayLen", "([BI)B"⟩ : MethodName) (head1 (Jvm.Cond.code (⟨"java/lang/StringUTF16", "coderFromArrayLen", "([BI)B"⟩ : MethodName) jdk_52_method_15_code 2 (some .byte) :: ws) ({ frames := 0, cells := 0, slots := 0, locals := 0 } : Room)) (fun a U => a = #[(.ref rb), (.int (Int32.ofNat n))] ∧ Z.Warmed39 U.vm ∧ U.heap = h0) (fun _ _ _ _ _ => True) (fun _ U o U' => ∃ v L, o = .returned v ∧ Q_rmCL Z  h0 n0 v U'.heap L ∧ FrameEnd U o U' L ({ frames := 0, cells := 0, slots := 0, locals := 0 } : Room).cells ({ frames := 0, cells := 0, slots := 0, locals := 0 } : Room).slots) := by
  refine MetFree.of_bodySF (plainFor_of_name pn_StringUTF16) hisR ?_
  intro p e s m args below meth c s₁ Bd hml0 hP hK
  obtain ⟨rfl, hZ, hh⟩ := hP
  have hx := Bd.exec
  have hby := Bd.bytes
  have hml : c.maxLocals = 2 := hml0
  have hown : s.vm.findClass "java/lang/StringUTF16" = some m.cls := findClass_of_methodNamed Bd.named
  have hnm := (name_of_methodNamed Bd.named Bd.method).1
  have X0 : Stand p l e ({ frames := 0, cells := 0, slots := 0, locals := 0 } : Room) s m #[(.ref rb), (.int (Int32.ofNat n))] below meth c s₁ [] 0 0 := Stand.of_body Bd
  have e0 : s₁.heap = h0 := by rw [← hh, Bd.state]; rfl
  have N0 := Fr.nil n0
  obtain ⟨S0, hS0⟩ : ∃ z, z = s₁.setTop (entryFrame m #[(.ref rb), (.int (Int32.ofNat n))] 2) := ⟨_, rfl⟩
  have k0 : Rch p e below S0 s₁ (mkF m 0 #[.val (.ref rb), .val (.int (Int32.ofNat n))] []) := fun t kq => hS0 ▸ castTop (ef_10 m rb (Int32.ofNat n)) kq
  have k88 : Rch p e below S0 s₁ (mkF m 2 #[.val (.ref rb), .val (.int (Int32.ofNat n))] [(.ref rb), (.int (Int32.ofNat n))]) := fun t h => k0 t (by
      show Steps p.tables e below (s₁.setTop (mkF m 0 #[.val (.ref rb), .val (.int (Int32.ofNat n))] [])) _
      refine XS.iloadN X0.here hx rfl (hb hby d10_0) rfl ?_
      show Steps p.tables e below (s₁.setTop (mkF m 1 #[.val (.ref rb), .val (.int (Int32.ofNat n))] [(.int (Int32.ofNat n))])) _
      refine XS.aloadN X0.here hx rfl (hb hby d10_1) rfl rfl ?_
      show Steps p.tables e below (s₁.setTop (mkF m 2 #[.val (.ref rb), .val (.int (Int32.ofNat n))] [(.ref rb), (.int (Int32.ofNat n))])) _
      exact h)
  obtain ⟨cl87, Ar87, q87, Sz87, Ng87, Hs87, G87⟩ := id Vb
  have k89 : Rch p e below S0 s₁ (mkF m 8 #[.val (.ref rb), .val (.int (Int32.ofNat n))] [(.int (1 : Int32))]) := fun t h => k88 t (by
      show Steps p.tables e below (s₁.setTop (mkF m 2 #[.val (.ref rb), .val (.int (Int32.ofNat n))] [(.ref rb), (.int (Int32.ofNat n))])) _
      refine X0.arraylength hx (by rw [e0]; exact Ar87.1) (State.isArrayOf_alike hZ.alike Ar87.2.1) (g := (mkF m 2 #[.val (.ref rb), .val (.int (Int32.ofNat n))] [(.ref rb), (.int (Int32.ofNat n))])) rfl rfl (hb hby d10_2) _ ?_
      rw [len_of Sz87 Ng87]
      show Steps p.tables e below (s₁.setTop (mkF m 3 #[.val (.ref rb), .val (.int (Int32.ofNat n))] [(.int (Int32.ofNat (2 * n))), (.int (Int32.ofNat n))])) _
      refine XS.isub X0.here hx rfl (hb hby d10_3) rfl ?_
      show Steps p.tables e below (s₁.setTop (mkF m 4 #[.val (.ref rb), .val (.int (Int32.ofNat n))] [(.int ((Int32.ofNat n) - (Int32.ofNat (2 * n))))])) _
      refine XS.bipush X0.here hx rfl (hb hby d10_4) ?_
      show Steps p.tables e below (s₁.setTop (mkF m 6 #[.val (.ref rb), .val (.int (Int32.ofNat n))] [(.int (31 : Int32)), (.int ((Int32.ofNat n) - (Int32.ofNat (2 * n))))])) _
      refine XS.iushr X0.here hx rfl (hb hby d10_6) rfl ?_
      rw [own_coder h1 (by omega)]
      show Steps p.tables e below (s₁.setTop (mkF m 7 #[.val (.ref rb), .val (.int (Int32.ofNat n))] [(.int (1 : Int32))])) _
      refine XS.i2b X0.here hx rfl (hb hby d10_7) rfl ?_
      rw [(by decide : (1 : Int32).toInt8.toInt32 = 1)]
      show Steps p.tables e below (s₁.setTop (mkF m 8 #[.val (.ref rb), .val (.int (Int32.ofNat n))] [(.int (1 : Int32))])) _
      exact h)
  obtain ⟨fs, hr, hrun, hended, hW, hsame⟩ := X0.leave (v := (some (.int (nar .byte (1 : Int32))))) (fun h => by rw [Bd.returns] at h; cases h)
  refine ⟨_, _, ?_, hrun, hended, _, _, rfl, ?_, ⟨_, rfl⟩, hW, hsame.mono (by decide) (by decide)⟩
  · rw [← hS0]
    refine k89 _ ?_
    show Steps p.tables e below (s₁.setTop (mkF m 8 #[.val (.ref rb), .val (.int (Int32.ofNat n))] [(.int (1 : Int32))])) _
    exact retN X0 hx (t := .byte) Bd.returns (by simp) (hb hby d10_8) hr
  · show Q_rmCL Z  h0 n0 _ s₁.heap _
    rw [e0]
    exact ⟨rfl, N0, rfl⟩
def Q_rmU4 (Z : State) (a1 : Addr) (n : Nat) (h0 : Heap) (n0 : Nat) (v : Option Value) (h : Heap) (L : List Loc) : Prop := v = none ∧ Fr n0 L ∧ Keep h0 h [a1] ∧ ∃ t kt vs, Fld Z h a1 "java/lang/String" "value" "[B" (.ref t) ∧ Fld Z h a1 "java/lang/String" "coder" "B" (.int (1 : Int32)) ∧ Arv Z h t kt .byte (Int32.ofNat (2 * n)) vs (.int (0 : Int32))
theorem ef_2n (m : MethodId) (x0 : Addr) (x1 : Addr) (x2 : Int32) (x3 : Int32) : entryFrame m #[(.ref x0), (.ref x1), (.int x2), (.int x3), .null] 6 = mkF m 0 #[.val (.ref x0), .val (.ref x1), .val (.int x2), .val (.int x3), .val .null, .unset] [] := by first | (simp [entryFrame, mkF, argsToLocals, Value.category]; done) | rfl
theorem pn_String : plainName "java/lang/String" = true := by first | (simp [plainName, overriddenIn]; done) | decide +kernel
theorem d2_0 : decode jdk_42_method_149_code 0 = .ok (.aload_n 0, 1) := by decide +kernel
theorem d2_1 : decode jdk_42_method_149_code 1 = .ok (.invokespecial 1, 3) := by decide +kernel
theorem d2_4 : decode jdk_42_method_149_code 4 = .ok (.iload_n 3, 1) := by decide +kernel
theorem d2_5 : decode jdk_42_method_149_code 5 = .ok (.ifCond .ne 22, 3) := by decide +kernel
theorem d2_27 : decode jdk_42_method_149_code 27 = .ok (.getstatic 38, 3) := by decide +kernel
theorem d2_30 : decode jdk_42_method_149_code 30 = .ok (.ifCond .eq 28, 3) := by decide +kernel
theorem d2_33 : decode jdk_42_method_149_code 33 = .ok (.aload_n 1, 1) := by decide +kernel
theorem d2_34 : decode jdk_42_method_149_code 34 = .ok (.iload_n 2, 1) := by decide +kernel
theorem d2_35 : decode jdk_42_method_149_code 35 = .ok (.iload_n 3, 1) := by decide +kernel
theorem d2_36 : decode jdk_42_method_149_code 36 = .ok (.invokestatic 177, 3) := by decide +kernel
theorem d2_39 : decode jdk_42_method_149_code 39 = .ok (.astore 5, 2) := by decide +kernel
theorem d2_41 : decode jdk_42_method_149_code 41 = .ok (.aload_n 0, 1) := by decide +kernel
theorem d2_42 : decode jdk_42_method_149_code 42 = .ok (.aload 5, 2) := by decide +kernel
theorem d2_44 : decode jdk_42_method_149_code 44 = .ok (.iload_n 3, 1) := by decide +kernel
theorem pd_9 : parseMethodDescriptor "([BI)B" = some ⟨[(.array .byte), .int], some .byte⟩ := by decide +kernel
theorem d2_45 : decode jdk_42_method_149_code 45 = .ok (.invokestatic 47, 3) := by decide +kernel
theorem d2_48 : decode jdk_42_method_149_code 48 = .ok (.putfield 15, 3) := by decide +kernel
theorem d2_51 : decode jdk_42_method_149_code 51 = .ok (.aload_n 0, 1) := by decide +kernel
theorem d2_52 : decode jdk_42_method_149_code 52 = .ok (.aload 5, 2) := by decide +kernel
theorem d2_54 : decode jdk_42_method_149_code 54 = .ok (.putfield 9, 3) := by decide +kernel
theorem d2_57 : decode jdk_42_method_149_code 57 = .ok (.return_, 1) := by decide +kernel
set_option maxRecDepth 65536 in
set_option maxHeartbeats 40000000 in
theorem rmU4 (l : Launch) (Z : State) (a0 : Array Value) (hw : ∀ d ∈ tables_1, d.before a0 Z = true) (ws : List Jvm.Cond) (a1 : Addr) (ra : Addr) (ka : ClassId) (n : Nat) (cs : List Int32) (k : Nat) (zC : Int32) (h0 : Heap) (n0 : Nat) (O0 : Old Z n0 h0) (SAs : Sta Z Z.heap "java/lang/StringUTF16" "$assertionsDisabled" "Z" (.int (1 : Int32))) (SHi : Sta Z Z.heap "java/lang/StringUTF16" "HI_BYTE_SHIFT" "I" (.int (0 : Int32))) (SLo : Sta Z Z.heap "java/lang/StringUTF16" "LO_BYTE_SHIFT" "I" (.int (8 : Int32))) (SC : Sta Z Z.heap "java/lang/String" "COMPACT_STRINGS" "Z" (.int zC)) (hzC : ¬ zC = 0) (hn : n ≤ 4000) (hl : cs.length = n) (hk : k < n) (hlow : ∀ i, i < k → ¬ (255 : Int32) < cs.getD i 0) (hhigh : (255 : Int32) < cs.getD k 0) (hp : ∀ c ∈ cs, ¬ c < 0 ∧ ¬ (65535 : Int32) < c) (ge_a1 : n0 ≤ a1) (E_a1 : Exa Z h0 a1 "java/lang/String") (F_a1_value : Fld Z h0 a1 "java/lang/String" "value" "[B" .null) (F_a1_coder : Fld Z h0 a1 "java/lang/String" "coder" "B" (.int (0 : Int32))) (ne_ra_a1 : ra ≠ a1) (Va : Arv Z h0 ra ka .char (Int32.ofNat n) (cs.map Value.int) (.int (0 : Int32))) :
    MetFree l (⟨"java/lang/String", "<init>", "([CIILjava/lang/Void;)V"⟩ : MethodName) (head1 (Jvm.Cond.code (⟨"java/lang/String", "<init>", "([CIILjava/lang/Void;)V"⟩ : MethodName) jdk_42_method_149_code 6 none :: ws) ({ frames := 4, cells := 2, slots := 12000, locals := 140 } : Room)) (fun a U => a = #[(.ref a1), (.ref ra), (.int (0 : Int32)), (.int (Int32.ofNat n)), .null] ∧ Z.Warmed39 U.vm ∧ U.heap = h0) (fun _ _ _ _ _ => True) (fun _ U o U' => ∃ v L, o = .returned v ∧ Q_rmU4 Z a1 n h0 n0 v U'.heap L ∧ FrameEnd U o U' L ({ frames := 4, cells := 2, slots := 12000, locals := 140 } : Room).cells ({ frames := 4, cells := 2, slots := 12000, locals := 140 } : Room).slots) := by
  refine MetFree.of_bodySF (plainFor_of_name pn_String) hisR ?_
  intro p e s m args below meth c s₁ Bd hml0 hP hK
  obtain ⟨rfl, hZ, hh⟩ := hP
  have hx := Bd.exec
  have hby := Bd.bytes
  have hml : c.maxLocals = 6 := hml0
  have hown : s.vm.findClass "java/lang/String" = some m.cls := findClass_of_methodNamed Bd.named
  have hnm := (name_of_methodNamed Bd.named Bd.method).1
  have X0 : Stand p l e ({ frames := 4, cells := 2, slots := 12000, locals := 140 } : Room) s m #[(.ref a1), (.ref ra), (.int (0 : Int32)), (.int (Int32.ofNat n)), .null] below meth c s₁ [] 0 0 := Stand.of_body Bd
  have e0 : s₁.heap = h0 := by rw [← hh, Bd.state]; rfl
  have N0 := Fr.nil n0
  obtain ⟨S0, hS0⟩ : ∃ z, z = s₁.setTop (entryFrame m #[(.ref a1), (.ref ra), (.int (0 : Int32)), (.int (Int32.ofNat n)), .null] 6) := ⟨_, rfl⟩
  have k0 : Rch p e below S0 s₁ (mkF m 0 #[.val (.ref a1), .val (.ref ra), .val (.int (0 : Int32)), .val (.int (Int32.ofNat n)), .val .null, .unset] []) := fun t kq => hS0 ▸ castTop (ef_2n m a1 ra (0 : Int32) (Int32.ofNat n)) kq
  have K0 : Keep h0 h0 [a1] := Keep.refl h0 _
  have k91 : Rch p e below S0 s₁ (mkF m 1 #[.val (.ref a1), .val (.ref ra), .val (.int (0 : Int32)), .val (.int (Int32.ofNat n)), .val .null, .unset] [(.ref a1)]) := fun t h => k0 t (by
      show Steps p.tables e below (s₁.setTop (mkF m 0 #[.val (.ref a1), .val (.ref ra), .val (.int (0 : Int32)), .val (.int (Int32.ofNat n)), .val .null, .unset] [])) _
      refine XS.aloadN X0.here hx rfl (hb hby d2_0) rfl rfl ?_
      show Steps p.tables e below (s₁.setTop (mkF m 1 #[.val (.ref a1), .val (.ref ra), .val (.int (0 : Int32)), .val (.int (Int32.ofNat n)), .val .null, .unset] [(.ref a1)])) _
      exact h)
  obtain ⟨T90, X90, e90, st90⟩ := initO X0 hx hZ hown (hw _ (List.mem_of_getElem? (i := 12) rfl)) (hw _ (List.mem_of_getElem? (i := 13) rfl)) (hw _ (List.mem_of_getElem? (i := 14) rfl)) e0 (g := (mkF m 1 #[.val (.ref a1), .val (.ref ra), .val (.int (0 : Int32)), .val (.int (Int32.ofNat n)), .val .null, .unset] [(.ref a1)])) rfl (by rw [hml]; rfl) rfl (hb hby d2_1) (by decide) (W := 0) (by show 2 * 0 + _ ≤ _; exact Nat.le_of_eq rfl) (by decide)
  have k92 : Rch p e below S0 T90 (mkF m 4 #[.val (.ref a1), .val (.ref ra), .val (.int (0 : Int32)), .val (.int (Int32.ofNat n)), .val .null, .unset] []) := fun t h => k91 t (st90 t h)
  have k94 : Rch p e below S0 T90 (mkF m 27 #[.val (.ref a1), .val (.ref ra), .val (.int (0 : Int32)), .val (.int (Int32.ofNat n)), .val .null, .unset] []) := fun t h => k92 t (by
      show Steps p.tables e below (T90.setTop (mkF m 4 #[.val (.ref a1), .val (.ref ra), .val (.int (0 : Int32)), .val (.int (Int32.ofNat n)), .val .null, .unset] [])) _
      refine XS.iloadN X90.here hx rfl (hb hby d2_4) rfl ?_
      show Steps p.tables e below (T90.setTop (mkF m 5 #[.val (.ref a1), .val (.ref ra), .val (.int (0 : Int32)), .val (.int (Int32.ofNat n)), .val .null, .unset] [(.int (Int32.ofNat n))])) _
      refine XS.ifYes X90.here hx rfl (pc0 := 5) (pc' := 27) rfl (hb hby d2_5) rfl ((if0 _ _).trans (feq ((fun q => by have := congrArg Int32.toInt q; rw [(own_tn (by omega)).2, show (0 : Int32).toInt = 0 from by decide] at this; omega) : ¬ ((Int32.ofNat n) = (0 : Int32)))).2) (by decide) (by decide) ?_
      show Steps p.tables e below (T90.setTop (mkF m 27 #[.val (.ref a1), .val (.ref ra), .val (.int (0 : Int32)), .val (.int (Int32.ofNat n)), .val .null, .unset] [])) _
      exact h)
  obtain ⟨T93, X93, e93, st93⟩ := getS2 X90 hx hZ hown (host := "") (Or.inl (hw _ (List.mem_of_getElem? (i := 42) rfl))) Via.refl e90 (SC.ext O0.2) (g := (mkF m 27 #[.val (.ref a1), .val (.ref ra), .val (.int (0 : Int32)), .val (.int (Int32.ofNat n)), .val .null, .unset] [])) rfl (hb hby d2_27)
  have k95 : Rch p e below S0 T93 (mkF m 30 #[.val (.ref a1), .val (.ref ra), .val (.int (0 : Int32)), .val (.int (Int32.ofNat n)), .val .null, .unset] [(.int zC)]) := fun t h => k94 t (st93 t h)
  have k96 : Rch p e below S0 T93 (mkF m 36 #[.val (.ref a1), .val (.ref ra), .val (.int (0 : Int32)), .val (.int (Int32.ofNat n)), .val .null, .unset] [(.int (Int32.ofNat n)), (.int (0 : Int32)), (.ref ra)]) := fun t h => k95 t (by
      show Steps p.tables e below (T93.setTop (mkF m 30 #[.val (.ref a1), .val (.ref ra), .val (.int (0 : Int32)), .val (.int (Int32.ofNat n)), .val .null, .unset] [(.int zC)])) _
      refine XS.ifNo X93.here hx rfl (hb hby d2_30) rfl ((if0 _ _).trans (feq (hzC : ¬ (zC = (0 : Int32)))).1) ?_
      show Steps p.tables e below (T93.setTop (mkF m 33 #[.val (.ref a1), .val (.ref ra), .val (.int (0 : Int32)), .val (.int (Int32.ofNat n)), .val .null, .unset] [])) _
      refine XS.aloadN X93.here hx rfl (hb hby d2_33) rfl rfl ?_
      show Steps p.tables e below (T93.setTop (mkF m 34 #[.val (.ref a1), .val (.ref ra), .val (.int (0 : Int32)), .val (.int (Int32.ofNat n)), .val .null, .unset] [(.ref ra)])) _
      refine XS.iloadN X93.here hx rfl (hb hby d2_34) rfl ?_
      show Steps p.tables e below (T93.setTop (mkF m 35 #[.val (.ref a1), .val (.ref ra), .val (.int (0 : Int32)), .val (.int (Int32.ofNat n)), .val .null, .unset] [(.int (0 : Int32)), (.ref ra)])) _
      refine XS.iloadN X93.here hx rfl (hb hby d2_35) rfl ?_
      show Steps p.tables e below (T93.setTop (mkF m 36 #[.val (.ref a1), .val (.ref ra), .val (.int (0 : Int32)), .val (.int (Int32.ofNat n)), .val .null, .unset] [(.int (Int32.ofNat n)), (.int (0 : Int32)), (.ref ra)])) _
      exact h)
  obtain ⟨_, _, ⟨T97, L97, kk97, n97⟩, -, X97, ⟨Lc97, hQ97, l97, y97, z97⟩, st97⟩ := Jvm.LawKit.callS X93 hx (y := (⟨"java/lang/StringUTF16", "compress", "([CII)[B"⟩ : MethodName)) hown (mvT hZ (hw _ (List.mem_of_getElem? (i := 45) rfl))) (mvT hZ (hw _ (List.mem_of_getElem? (i := 46) rfl))) (mvT hZ (hw _ (List.mem_of_getElem? (i := 47) rfl))) (mvT hZ (hw _ (List.mem_of_getElem? (i := 48) rfl))) (by decide) (backOf (W := 0) (rmC3 l Z a0 hw [] ra ka n cs k h0 n0 O0 SAs SHi SLo hn hl hk hlow hhigh hp Va) hZ (hw _ (List.mem_of_getElem? (i := 48) rfl)) (hw _ (List.mem_of_getElem? (i := 47) rfl)) (by decide) (by decide)) (g := (mkF m 36 #[.val (.ref a1), .val (.ref ra), .val (.int (0 : Int32)), .val (.int (Int32.ofNat n)), .val .null, .unset] [(.int (Int32.ofNat n)), (.int (0 : Int32)), (.ref ra)])) rfl (by rw [hml]; rfl) (argsL := [(.ref ra), (.int (0 : Int32)), (.int (Int32.ofNat n))]) (rest := []) (lenOf pd_7 rfl) rfl (by show 2 * 0 + _ ≤ _; exact Nat.le_of_eq rfl) (hb hby d2_36) (fun _ _ => ⟨rfl, e93, (by decide : 0 + 2 ≤ _), (by decide : 0 + 12000 ≤ _)⟩)
  dsimp only [Pt.U, Pt.locs, Pt.cells, Pt.slots] at X97 l97 y97 z97 st97 hQ97
  subst l97 y97 z97
  obtain ⟨b97, kb97, vs97, rfl, Nq97, E97, z97, V97⟩ := hQ97
  have N97 := Fr.app N0 Nq97
  have k98 : Rch p e below S0 T97 (mkF m 39 #[.val (.ref a1), .val (.ref ra), .val (.int (0 : Int32)), .val (.int (Int32.ofNat n)), .val .null, .unset] [(.ref b97)]) := fun t h => k96 t (st97 t h)
  have ne_a1_b97 : a1 ≠ b97 := own_ne E_a1.lt z97
  have ne_ra_b97 : ra ≠ b97 := own_ne Va.lt z97
  have ge_b97 : n0 ≤ b97 := own_ge O0 z97
  have sz_b97 : h0.size ≤ b97 := Nat.le_trans K0.1 z97
  have O99 := O0.ext E97
  have K100 := K0.ext E97
  replace E_a1 := E_a1.ext E97
  replace F_a1_value := F_a1_value.ext E97
  replace F_a1_coder := F_a1_coder.ext E97
  replace Va := Va.ext E97
  have k101 : Rch p e below S0 T97 (mkF m 45 #[.val (.ref a1), .val (.ref ra), .val (.int (0 : Int32)), .val (.int (Int32.ofNat n)), .val .null, .val (.ref b97)] [(.int (Int32.ofNat n)), (.ref b97), (.ref a1)]) := fun t h => k98 t (by
      show Steps p.tables e below (T97.setTop (mkF m 39 #[.val (.ref a1), .val (.ref ra), .val (.int (0 : Int32)), .val (.int (Int32.ofNat n)), .val .null, .unset] [(.ref b97)])) _
      refine XS.astore X97.here hx rfl (hb hby d2_39) rfl rfl (l' := #[.val (.ref a1), .val (.ref ra), .val (.int (0 : Int32)), .val (.int (Int32.ofNat n)), .val .null, .val (.ref b97)]) rfl ?_
      show Steps p.tables e below (T97.setTop (mkF m 41 #[.val (.ref a1), .val (.ref ra), .val (.int (0 : Int32)), .val (.int (Int32.ofNat n)), .val .null, .val (.ref b97)] [])) _
      refine XS.aloadN X97.here hx rfl (hb hby d2_41) rfl rfl ?_
      show Steps p.tables e below (T97.setTop (mkF m 42 #[.val (.ref a1), .val (.ref ra), .val (.int (0 : Int32)), .val (.int (Int32.ofNat n)), .val .null, .val (.ref b97)] [(.ref a1)])) _
      refine XS.aload X97.here hx rfl (hb hby d2_42) rfl rfl ?_
      show Steps p.tables e below (T97.setTop (mkF m 44 #[.val (.ref a1), .val (.ref ra), .val (.int (0 : Int32)), .val (.int (Int32.ofNat n)), .val .null, .val (.ref b97)] [(.ref b97), (.ref a1)])) _
      refine XS.iloadN X97.here hx rfl (hb hby d2_44) rfl ?_
      show Steps p.tables e below (T97.setTop (mkF m 45 #[.val (.ref a1), .val (.ref ra), .val (.int (0 : Int32)), .val (.int (Int32.ofNat n)), .val .null, .val (.ref b97)] [(.int (Int32.ofNat n)), (.ref b97), (.ref a1)])) _
      exact h)
  obtain ⟨_, _, ⟨T102, L102, kk102, n102⟩, -, X102, ⟨Lc102, hQ102, l102, y102, z102⟩, st102⟩ := Jvm.LawKit.callS X97 hx (y := (⟨"java/lang/StringUTF16", "coderFromArrayLen", "([BI)B"⟩ : MethodName)) hown (mvT hZ (hw _ (List.mem_of_getElem? (i := 52) rfl))) (mvT hZ (hw _ (List.mem_of_getElem? (i := 53) rfl))) (mvT hZ (hw _ (List.mem_of_getElem? (i := 47) rfl))) (mvT hZ (hw _ (List.mem_of_getElem? (i := 54) rfl))) (by decide) (backOf (W := 1) (rmCL l Z a0 hw [] b97 kb97 n vs97 T97.heap n0 O99 (by omega) hn V97) hZ (hw _ (List.mem_of_getElem? (i := 54) rfl)) (hw _ (List.mem_of_getElem? (i := 47) rfl)) (by decide) (by decide)) (g := (mkF m 45 #[.val (.ref a1), .val (.ref ra), .val (.int (0 : Int32)), .val (.int (Int32.ofNat n)), .val .null, .val (.ref b97)] [(.int (Int32.ofNat n)), (.ref b97), (.ref a1)])) rfl (by rw [hml]; rfl) (argsL := [(.ref b97), (.int (Int32.ofNat n))]) (rest := [(.ref a1)]) (lenOf pd_9 rfl) rfl (by show 2 * 0 + _ ≤ _; exact Nat.le_of_eq rfl) (hb hby d2_45) (fun _ _ => ⟨rfl, rfl, (by decide : 2 + 0 ≤ _), (by decide : 12000 + 0 ≤ _)⟩)
  dsimp only [Pt.U, Pt.locs, Pt.cells, Pt.slots] at X102 l102 y102 z102 st102 hQ102
  subst l102 y102 z102
  obtain ⟨rfl, Nq102, hh102⟩ := hQ102
  have N102 := Fr.app N97 Nq102
  have k103 : Rch p e below S0 T102 (mkF m 48 #[.val (.ref a1), .val (.ref ra), .val (.int (0 : Int32)), .val (.int (Int32.ofNat n)), .val .null, .val (.ref b97)] [(.int (1 : Int32)), (.ref a1)]) := fun t h => k101 t (st102 t h)
  obtain ⟨T104, h104, X104, e104, W104, st104⟩ := putFN X102 hx hZ hown (hw _ (List.mem_of_getElem? (i := 22) rfl)) Via.refl hh102 F_a1_coder E_a1 (Or.inr ⟨(hw _ (List.mem_of_getElem? (i := 18) rfl)), rfl, hnm⟩) (hw _ (List.mem_of_getElem? (i := 3) rfl)) (ty := .byte) (v' := (.int (1 : Int32))) (by decide) (by decide) (by decide) (g := (mkF m 48 #[.val (.ref a1), .val (.ref ra), .val (.int (0 : Int32)), .val (.int (Int32.ofNat n)), .val .null, .val (.ref b97)] [(.int (1 : Int32)), (.ref a1)])) rfl rfl (hb hby d2_48)
  have k105 : Rch p e below S0 T104 (mkF m 51 #[.val (.ref a1), .val (.ref ra), .val (.int (0 : Int32)), .val (.int (Int32.ofNat n)), .val .null, .val (.ref b97)] []) := fun t h => k103 t (st104 t h)
  have N104 := Fr.snoc X104 N102 ge_a1
  replace F_a1_coder := F_a1_coder.same W104
  have O106 := O99.wr W104 ge_a1
  have K107 := K100.wr W104 (Or.inl (List.mem_of_getElem? (i := 0) rfl))
  replace E_a1 := E_a1.wr W104
  replace F_a1_value := F_a1_value.other W104 (Or.inr (slot_ne (Or.inr (hw _ (List.mem_of_getElem? (i := 17) rfl))) (Or.inr (hw _ (List.mem_of_getElem? (i := 18) rfl))) (by decide) (t := (.array .byte)) (t' := .byte) (by decide) (by decide)))
  replace Va := Va.other W104 ne_ra_a1
  replace V97 := V97.other W104 (Ne.symm ne_a1_b97)
  have k109 : Rch p e below S0 T104 (mkF m 54 #[.val (.ref a1), .val (.ref ra), .val (.int (0 : Int32)), .val (.int (Int32.ofNat n)), .val .null, .val (.ref b97)] [(.ref b97), (.ref a1)]) := fun t h => k105 t (by
      show Steps p.tables e below (T104.setTop (mkF m 51 #[.val (.ref a1), .val (.ref ra), .val (.int (0 : Int32)), .val (.int (Int32.ofNat n)), .val .null, .val (.ref b97)] [])) _
      refine XS.aloadN X104.here hx rfl (hb hby d2_51) rfl rfl ?_
      show Steps p.tables e below (T104.setTop (mkF m 52 #[.val (.ref a1), .val (.ref ra), .val (.int (0 : Int32)), .val (.int (Int32.ofNat n)), .val .null, .val (.ref b97)] [(.ref a1)])) _
      refine XS.aload X104.here hx rfl (hb hby d2_52) rfl rfl ?_
      show Steps p.tables e below (T104.setTop (mkF m 54 #[.val (.ref a1), .val (.ref ra), .val (.int (0 : Int32)), .val (.int (Int32.ofNat n)), .val .null, .val (.ref b97)] [(.ref b97), (.ref a1)])) _
      exact h)
  obtain ⟨T108, h108, X108, e108, W108, st108⟩ := putF X104 hx hZ hown (host := "") (Or.inl (hw _ (List.mem_of_getElem? (i := 21) rfl))) Via.refl e104 F_a1_value E_a1 (Or.inr ⟨(hw _ (List.mem_of_getElem? (i := 17) rfl)), rfl, hnm⟩) (hw _ (List.mem_of_getElem? (i := 3) rfl)) (ty := (.array .byte)) (by decide) rfl rfl (g := (mkF m 54 #[.val (.ref a1), .val (.ref ra), .val (.int (0 : Int32)), .val (.int (Int32.ofNat n)), .val .null, .val (.ref b97)] [(.ref b97), (.ref a1)])) rfl rfl (hb hby d2_54)
  have k110 : Rch p e below S0 T108 (mkF m 57 #[.val (.ref a1), .val (.ref ra), .val (.int (0 : Int32)), .val (.int (Int32.ofNat n)), .val .null, .val (.ref b97)] []) := fun t h => k109 t (st108 t h)
  have N108 := Fr.snoc X108 N104 ge_a1
  replace F_a1_value := F_a1_value.same W108
  have O111 := O106.wr W108 ge_a1
  have K112 := K107.wr W108 (Or.inl (List.mem_of_getElem? (i := 0) rfl))
  replace E_a1 := E_a1.wr W108
  replace F_a1_coder := F_a1_coder.other W108 (Or.inr (slot_ne (Or.inr (hw _ (List.mem_of_getElem? (i := 18) rfl))) (Or.inr (hw _ (List.mem_of_getElem? (i := 17) rfl))) (by decide) (t := .byte) (t' := (.array .byte)) (by decide) (by decide)))
  replace Va := Va.other W108 ne_ra_a1
  replace V97 := V97.other W108 (Ne.symm ne_a1_b97)
  obtain ⟨fs, hr, hrun, hended, hW, hsame⟩ := X108.leave (v := none) (fun _ => rfl)
  refine ⟨_, _, ?_, hrun, hended, _, _, rfl, ?_, ⟨_, rfl⟩, hW, hsame.mono (by decide) (by decide)⟩
  · rw [← hS0]
    refine k110 _ ?_
    show Steps p.tables e below (T108.setTop (mkF m 57 #[.val (.ref a1), .val (.ref ra), .val (.int (0 : Int32)), .val (.int (Int32.ofNat n)), .val .null, .val (.ref b97)] [])) _
    exact X108.returnOut hx Bd.returns (hb hby d2_57) hr
  · show Q_rmU4 Z a1 n h0 n0 _ T108.heap _
    rw [e108]
    exact ⟨rfl, N108, K112, _, _, _, F_a1_value, F_a1_coder, V97⟩
def Q_rmU1 (Z : State) (a1 : Addr) (n : Nat) (h0 : Heap) (n0 : Nat) (v : Option Value) (h : Heap) (L : List Loc) : Prop := v = none ∧ Fr n0 L ∧ Keep h0 h [a1] ∧ ∃ t kt vs, Fld Z h a1 "java/lang/String" "value" "[B" (.ref t) ∧ Fld Z h a1 "java/lang/String" "coder" "B" (.int (1 : Int32)) ∧ Arv Z h t kt .byte (Int32.ofNat (2 * n)) vs (.int (0 : Int32))
theorem ef_1 (m : MethodId) (x0 : Addr) (x1 : Addr) : entryFrame m #[(.ref x0), (.ref x1)] 2 = mkF m 0 #[.val (.ref x0), .val (.ref x1)] [] := by first | (simp [entryFrame, mkF, argsToLocals, Value.category]; done) | rfl
theorem d1_0 : decode jdk_42_method_3_code 0 = .ok (.aload_n 0, 1) := by decide +kernel
theorem d1_1 : decode jdk_42_method_3_code 1 = .ok (.aload_n 1, 1) := by decide +kernel
theorem d1_2 : decode jdk_42_method_3_code 2 = .ok (.iconst 0, 1) := by decide +kernel
theorem d1_3 : decode jdk_42_method_3_code 3 = .ok (.aload_n 1, 1) := by decide +kernel
theorem d1_4 : decode jdk_42_method_3_code 4 = .ok (.arraylength, 1) := by decide +kernel
theorem d1_5 : decode jdk_42_method_3_code 5 = .ok (.aconst_null, 1) := by decide +kernel
theorem pd_1 : parseMethodDescriptor "([CIILjava/lang/Void;)V" = some ⟨[(.array .char), .int, .int, (.object "java/lang/Void")], none⟩ := by decide +kernel
theorem d1_6 : decode jdk_42_method_3_code 6 = .ok (.invokespecial 27, 3) := by decide +kernel
theorem d1_9 : decode jdk_42_method_3_code 9 = .ok (.return_, 1) := by decide +kernel
set_option maxRecDepth 65536 in
set_option maxHeartbeats 40000000 in
theorem rmU1 (l : Launch) (Z : State) (a0 : Array Value) (hw : ∀ d ∈ tables_1, d.before a0 Z = true) (ws : List Jvm.Cond) (a1 : Addr) (ra : Addr) (ka : ClassId) (n : Nat) (cs : List Int32) (k : Nat) (zC : Int32) (h0 : Heap) (n0 : Nat) (O0 : Old Z n0 h0) (SAs : Sta Z Z.heap "java/lang/StringUTF16" "$assertionsDisabled" "Z" (.int (1 : Int32))) (SHi : Sta Z Z.heap "java/lang/StringUTF16" "HI_BYTE_SHIFT" "I" (.int (0 : Int32))) (SLo : Sta Z Z.heap "java/lang/StringUTF16" "LO_BYTE_SHIFT" "I" (.int (8 : Int32))) (SC : Sta Z Z.heap "java/lang/String" "COMPACT_STRINGS" "Z" (.int zC)) (hzC : ¬ zC = 0) (hn : n ≤ 4000) (hl : cs.length = n) (hk : k < n) (hlow : ∀ i, i < k → ¬ (255 : Int32) < cs.getD i 0) (hhigh : (255 : Int32) < cs.getD k 0) (hp : ∀ c ∈ cs, ¬ c < 0 ∧ ¬ (65535 : Int32) < c) (ge_a1 : n0 ≤ a1) (E_a1 : Exa Z h0 a1 "java/lang/String") (F_a1_value : Fld Z h0 a1 "java/lang/String" "value" "[B" .null) (F_a1_coder : Fld Z h0 a1 "java/lang/String" "coder" "B" (.int (0 : Int32))) (ne_ra_a1 : ra ≠ a1) (Va : Arv Z h0 ra ka .char (Int32.ofNat n) (cs.map Value.int) (.int (0 : Int32))) :
    MetFree l (⟨"java/lang/String", "<init>", "([C)V"⟩ : MethodName) (head1 (Jvm.Cond.code (⟨"java/lang/String", "<init>", "([C)V"⟩ : MethodName) jdk_42_method_3_code 2 none :: ws) ({ frames := 5, cells := 2, slots := 12000, locals := 170 } : Room)) (fun a U => a = #[(.ref a1), (.ref ra)] ∧ Z.Warmed39 U.vm ∧ U.heap = h0) (fun _ _ _ _ _ => True) (fun _ U o U' => ∃ v L, o = .returned v ∧ Q_rmU1 Z a1 n h0 n0 v U'.heap L ∧ FrameEnd U o U' L ({ frames := 5, cells := 2, slots := 12000, locals := 170 } : Room).cells ({ frames := 5, cells := 2, slots := 12000, locals := 170 } : Room).slots) := by
  refine MetFree.of_bodySF (plainFor_of_name pn_String) hisR ?_
  intro p e s m args below meth c s₁ Bd hml0 hP hK
  obtain ⟨rfl, hZ, hh⟩ := hP
  have hx := Bd.exec
  have hby := Bd.bytes
  have hml : c.maxLocals = 2 := hml0
  have hown : s.vm.findClass "java/lang/String" = some m.cls := findClass_of_methodNamed Bd.named
  have hnm := (name_of_methodNamed Bd.named Bd.method).1
  have X0 : Stand p l e ({ frames := 5, cells := 2, slots := 12000, locals := 170 } : Room) s m #[(.ref a1), (.ref ra)] below meth c s₁ [] 0 0 := Stand.of_body Bd
  have e0 : s₁.heap = h0 := by rw [← hh, Bd.state]; rfl
  have N0 := Fr.nil n0
  obtain ⟨S0, hS0⟩ : ∃ z, z = s₁.setTop (entryFrame m #[(.ref a1), (.ref ra)] 2) := ⟨_, rfl⟩
  have k0 : Rch p e below S0 s₁ (mkF m 0 #[.val (.ref a1), .val (.ref ra)] []) := fun t kq => hS0 ▸ castTop (ef_1 m a1 ra) kq
  have K0 : Keep h0 h0 [a1] := Keep.refl h0 _
  have k114 : Rch p e below S0 s₁ (mkF m 4 #[.val (.ref a1), .val (.ref ra)] [(.ref ra), (.int (0 : Int32)), (.ref ra), (.ref a1)]) := fun t h => k0 t (by
      show Steps p.tables e below (s₁.setTop (mkF m 0 #[.val (.ref a1), .val (.ref ra)] [])) _
      refine XS.aloadN X0.here hx rfl (hb hby d1_0) rfl rfl ?_
      show Steps p.tables e below (s₁.setTop (mkF m 1 #[.val (.ref a1), .val (.ref ra)] [(.ref a1)])) _
      refine XS.aloadN X0.here hx rfl (hb hby d1_1) rfl rfl ?_
      show Steps p.tables e below (s₁.setTop (mkF m 2 #[.val (.ref a1), .val (.ref ra)] [(.ref ra), (.ref a1)])) _
      refine XS.iconst X0.here hx rfl (hb hby d1_2) ?_
      show Steps p.tables e below (s₁.setTop (mkF m 3 #[.val (.ref a1), .val (.ref ra)] [(.int (0 : Int32)), (.ref ra), (.ref a1)])) _
      refine XS.aloadN X0.here hx rfl (hb hby d1_3) rfl rfl ?_
      show Steps p.tables e below (s₁.setTop (mkF m 4 #[.val (.ref a1), .val (.ref ra)] [(.ref ra), (.int (0 : Int32)), (.ref ra), (.ref a1)])) _
      exact h)
  obtain ⟨cl113, Ar113, q113, Sz113, Ng113, Hs113, G113⟩ := id Va
  have k115 : Rch p e below S0 s₁ (mkF m 6 #[.val (.ref a1), .val (.ref ra)] [.null, (.int (Int32.ofNat n)), (.int (0 : Int32)), (.ref ra), (.ref a1)]) := fun t h => k114 t (by
      show Steps p.tables e below (s₁.setTop (mkF m 4 #[.val (.ref a1), .val (.ref ra)] [(.ref ra), (.int (0 : Int32)), (.ref ra), (.ref a1)])) _
      refine X0.arraylength hx (by rw [e0]; exact Ar113.1) (State.isArrayOf_alike hZ.alike Ar113.2.1) (g := (mkF m 4 #[.val (.ref a1), .val (.ref ra)] [(.ref ra), (.int (0 : Int32)), (.ref ra), (.ref a1)])) rfl rfl (hb hby d1_4) _ ?_
      rw [len_of Sz113 Ng113]
      show Steps p.tables e below (s₁.setTop (mkF m 5 #[.val (.ref a1), .val (.ref ra)] [(.int (Int32.ofNat n)), (.int (0 : Int32)), (.ref ra), (.ref a1)])) _
      refine XS.aconstNull X0.here hx rfl (hb hby d1_5) ?_
      show Steps p.tables e below (s₁.setTop (mkF m 6 #[.val (.ref a1), .val (.ref ra)] [.null, (.int (Int32.ofNat n)), (.int (0 : Int32)), (.ref ra), (.ref a1)])) _
      exact h)
  obtain ⟨_, _, ⟨T116, L116, kk116, n116⟩, -, X116, ⟨Lc116, hQ116, l116, y116, z116⟩, st116⟩ := X0.specialBack hx (y := (⟨"java/lang/String", "<init>", "([CIILjava/lang/Void;)V"⟩ : MethodName)) rfl hown (mvT hZ (hw _ (List.mem_of_getElem? (i := 8) rfl))) (mvT hZ (hw _ (List.mem_of_getElem? (i := 9) rfl))) (mvT hZ (hw _ (List.mem_of_getElem? (i := 11) rfl))) (by decide) (backOf (W := 0) (rmU4 l Z a0 hw [] a1 ra ka n cs k zC h0 n0 O0 SAs SHi SLo SC hzC hn hl hk hlow hhigh hp ge_a1 E_a1 F_a1_value F_a1_coder ne_ra_a1 Va) hZ (hw _ (List.mem_of_getElem? (i := 11) rfl)) (hw _ (List.mem_of_getElem? (i := 4) rfl)) (by decide) (by decide)) (g := (mkF m 6 #[.val (.ref a1), .val (.ref ra)] [.null, (.int (Int32.ofNat n)), (.int (0 : Int32)), (.ref ra), (.ref a1)])) rfl (by rw [hml]; rfl) (Steps.refl _) (a := a1) (argsL := [(.ref ra), (.int (0 : Int32)), (.int (Int32.ofNat n)), .null]) (rest := []) (lenOf pd_1 rfl) rfl (by show 2 * 0 + _ ≤ _; exact Nat.le_of_eq rfl) (hb hby d1_6) (fun _ _ => ⟨rfl, e0, (by decide : 0 + 2 ≤ _), (by decide : 0 + 12000 ≤ _)⟩)
  dsimp only [Pt.U, Pt.locs, Pt.cells, Pt.slots] at X116 l116 y116 z116 st116 hQ116
  subst l116 y116 z116
  obtain ⟨rfl, Nq116, K116, t116, kt116, vs116, Fv116, Fc116, At116⟩ := hQ116
  have N116 := Fr.app N0 Nq116
  have k117 : Rch p e below S0 T116 (mkF m 9 #[.val (.ref a1), .val (.ref ra)] []) := fun t h => k115 t (st116.trans h)
  have O118 := O0.keep K116 (allS ge_a1 all0)
  have K119 := K0.trans K116 (allS (Or.inl (List.mem_of_getElem? (i := 0) rfl)) all0)
  replace E_a1 := E_a1.keep K116
  replace Va := Va.keep K116 (ninS ne_ra_a1 nin0)
  obtain ⟨fs, hr, hrun, hended, hW, hsame⟩ := X116.leave (v := none) (fun _ => rfl)
  refine ⟨_, _, ?_, hrun, hended, _, _, rfl, ?_, ⟨_, rfl⟩, hW, hsame.mono (by decide) (by decide)⟩
  · rw [← hS0]
    refine k117 _ ?_
    show Steps p.tables e below (T116.setTop (mkF m 9 #[.val (.ref a1), .val (.ref ra)] [])) _
    exact X116.returnOut hx Bd.returns (hb hby d1_9) hr
  · show Q_rmU1 Z a1 n h0 n0 _ T116.heap _
    exact ⟨rfl, N116, K119, _, _, _, Fv116, Fc116, At116⟩
theorem own_coder0 {n : Nat} (hn : n ≤ 4000) : ((Int32.ofNat n - Int32.ofNat n).toUInt32 >>> ((31 : Int32) &&& 31).toUInt32).toInt32 = 0 := by
  rw [Int32.sub_self]; decide
def Q_rmC5l (Z : State) (rd : Addr) (kd : ClassId) (n : Nat) (h0 : Heap) (n0 : Nat) (v : Option Value) (h : Heap) (L : List Loc) : Prop := v = some (.int (Int32.ofNat n)) ∧ Fr n0 L ∧ Keep h0 h [rd] ∧ ∃ vs, Arv Z h rd kd .byte (Int32.ofNat n) vs (.int (0 : Int32))
theorem d9_44 : decode jdk_52_method_21_code 44 = .ok (.iload 4, 2) := by decide +kernel
theorem d9_46 : decode jdk_52_method_21_code 46 = .ok (.ireturn, 1) := by decide +kernel
set_option maxRecDepth 65536 in
set_option maxHeartbeats 40000000 in
theorem rmC5l (l : Launch) (Z : State) (a0 : Array Value) (hw : ∀ d ∈ tables_1, d.before a0 Z = true) (ws : List Jvm.Cond) (ra : Addr) (rd : Addr) (ka : ClassId) (kd : ClassId) (n : Nat) (cs : List Int32) (h0 : Heap) (n0 : Nat) (O0 : Old Z n0 h0) (ge_rd : n0 ≤ rd) (ne_ra_rd : ra ≠ rd) (hn : n ≤ 4000) (hl : cs.length = n) (hlow : ∀ i, i < n → ¬ (255 : Int32) < cs.getD i 0) (Va : Arv Z h0 ra ka .char (Int32.ofNat n) (cs.map Value.int) (.int (0 : Int32))) (Vd : Arv Z h0 rd kd .byte (Int32.ofNat n) (List.replicate n (.int (0 : Int32))) (.int (0 : Int32))) :
    MetFree l (⟨"java/lang/StringUTF16", "compress", "([CI[BII)I"⟩ : MethodName) (head1 (Jvm.Cond.code (⟨"java/lang/StringUTF16", "compress", "([CI[BII)I"⟩ : MethodName) jdk_52_method_21_code 7 (some .int) :: ws) ({ frames := 0, cells := 0, slots := 0, locals := 0 } : Room)) (fun a U => a = #[(.ref ra), (.int (0 : Int32)), (.ref rd), (.int (0 : Int32)), (.int (Int32.ofNat n))] ∧ Z.Warmed39 U.vm ∧ U.heap = h0) (fun _ _ _ _ _ => True) (fun _ U o U' => ∃ v L, o = .returned v ∧ Q_rmC5l Z rd kd n h0 n0 v U'.heap L ∧ FrameEnd U o U' L ({ frames := 0, cells := 0, slots := 0, locals := 0 } : Room).cells ({ frames := 0, cells := 0, slots := 0, locals := 0 } : Room).slots) := by
  refine MetFree.of_bodySF (plainFor_of_name pn_StringUTF16) hisR ?_
  intro p e s m args below meth c s₁ Bd hml0 hP hK
  obtain ⟨rfl, hZ, hh⟩ := hP
  have hx := Bd.exec
  have hby := Bd.bytes
  have hml : c.maxLocals = 7 := hml0
  have hown : s.vm.findClass "java/lang/StringUTF16" = some m.cls := findClass_of_methodNamed Bd.named
  have hnm := (name_of_methodNamed Bd.named Bd.method).1
  have X0 : Stand p l e ({ frames := 0, cells := 0, slots := 0, locals := 0 } : Room) s m #[(.ref ra), (.int (0 : Int32)), (.ref rd), (.int (0 : Int32)), (.int (Int32.ofNat n))] below meth c s₁ [] 0 0 := Stand.of_body Bd
  have e0 : s₁.heap = h0 := by rw [← hh, Bd.state]; rfl
  have N0 := Fr.nil n0
  obtain ⟨S0, hS0⟩ : ∃ z, z = s₁.setTop (entryFrame m #[(.ref ra), (.int (0 : Int32)), (.ref rd), (.int (0 : Int32)), (.int (Int32.ofNat n))] 7) := ⟨_, rfl⟩
  have k0 : Rch p e below S0 s₁ (mkF m 0 #[.val (.ref ra), .val (.int (0 : Int32)), .val (.ref rd), .val (.int (0 : Int32)), .val (.int (Int32.ofNat n)), .unset, .unset] []) := fun t kq => hS0 ▸ castTop (ef_9 m ra (0 : Int32) rd (0 : Int32) (Int32.ofNat n)) kq
  have K0 : Keep h0 h0 [rd] := Keep.refl h0 _
  have k120 : Rch p e below S0 s₁ (mkF m 3 #[.val (.ref ra), .val (.int (0 : Int32)), .val (.ref rd), .val (.int (0 : Int32)), .val (.int (Int32.ofNat n)), .val (.int (0 : Int32)), .unset] []) := fun t h => k0 t (by
      show Steps p.tables e below (s₁.setTop (mkF m 0 #[.val (.ref ra), .val (.int (0 : Int32)), .val (.ref rd), .val (.int (0 : Int32)), .val (.int (Int32.ofNat n)), .unset, .unset] [])) _
      refine XS.iconst X0.here hx rfl (hb hby d9_0) ?_
      show Steps p.tables e below (s₁.setTop (mkF m 1 #[.val (.ref ra), .val (.int (0 : Int32)), .val (.ref rd), .val (.int (0 : Int32)), .val (.int (Int32.ofNat n)), .unset, .unset] [(.int (0 : Int32))])) _
      refine XS.istore X0.here hx rfl (hb hby d9_1) rfl (l' := #[.val (.ref ra), .val (.int (0 : Int32)), .val (.ref rd), .val (.int (0 : Int32)), .val (.int (Int32.ofNat n)), .val (.int (0 : Int32)), .unset]) rfl ?_
      show Steps p.tables e below (s₁.setTop (mkF m 3 #[.val (.ref ra), .val (.int (0 : Int32)), .val (.ref rd), .val (.int (0 : Int32)), .val (.int (Int32.ofNat n)), .val (.int (0 : Int32)), .unset] [])) _
      exact h)
  have loop : ∀ (j i : Nat), i + j = n → ∀ (T : State) (h1 : Heap) (lo : List Loc) (s6 : Slot) (vs : List Value), Stand p l e ({ frames := 0, cells := 0, slots := 0, locals := 0 } : Room) s m #[(.ref ra), (.int (0 : Int32)), (.ref rd), (.int (0 : Int32)), (.int (Int32.ofNat n))] below meth c T lo 0 0 → T.heap = h1 → Fr n0 lo → Old Z n0 h1 → Keep h0 h1 [rd] → One s6 → vs.length = n → Arv Z h1 rd kd .byte (Int32.ofNat n) vs (.int (0 : Int32)) → Arv Z h1 ra ka .char (Int32.ofNat n) (cs.map Value.int) (.int (0 : Int32)) → Rch p e below S0 T (mkF m 3 #[.val (.ref ra), .val (.int (Int32.ofNat i)), .val (.ref rd), .val (.int (Int32.ofNat i)), .val (.int (Int32.ofNat n)), .val (.int (Int32.ofNat i)), s6] []) →
      ∃ (T2 : State) (h2 : Heap) (lo2 : List Loc) (s2 : Slot) (vs2 : List Value), Stand p l e ({ frames := 0, cells := 0, slots := 0, locals := 0 } : Room) s m #[(.ref ra), (.int (0 : Int32)), (.ref rd), (.int (0 : Int32)), (.int (Int32.ofNat n))] below meth c T2 lo2 0 0 ∧ T2.heap = h2 ∧ Fr n0 lo2 ∧ Keep h0 h2 [rd] ∧ Arv Z h2 rd kd .byte (Int32.ofNat n) vs2 (.int (0 : Int32)) ∧ Rch p e below S0 T2 (mkF m 46 #[.val (.ref ra), .val (.int (Int32.ofNat n)), .val (.ref rd), .val (.int (Int32.ofNat n)), .val (.int (Int32.ofNat n)), .val (.int (Int32.ofNat n)), s2] [(.int (Int32.ofNat n))]) := by
    intro j
    induction j with
    | zero =>
      intro i hi T h1 lo s6 vs X eT NN OO KK hs6 hvl Vd1 Va1 kk
      obtain rfl : i = n := by omega
      have k121 : Rch p e below S0 T (mkF m 46 #[.val (.ref ra), .val (.int (Int32.ofNat i)), .val (.ref rd), .val (.int (Int32.ofNat i)), .val (.int (Int32.ofNat i)), .val (.int (Int32.ofNat i)), s6] [(.int (Int32.ofNat i))]) := fun t h => kk t (by
          show Steps p.tables e below (T.setTop (mkF m 3 #[.val (.ref ra), .val (.int (Int32.ofNat i)), .val (.ref rd), .val (.int (Int32.ofNat i)), .val (.int (Int32.ofNat i)), .val (.int (Int32.ofNat i)), s6] [])) _
          refine XS.iload X.here hx rfl (hb hby d9_3) rfl ?_
          show Steps p.tables e below (T.setTop (mkF m 5 #[.val (.ref ra), .val (.int (Int32.ofNat i)), .val (.ref rd), .val (.int (Int32.ofNat i)), .val (.int (Int32.ofNat i)), .val (.int (Int32.ofNat i)), s6] [(.int (Int32.ofNat i))])) _
          refine XS.iload X.here hx rfl (hb hby d9_5) rfl ?_
          show Steps p.tables e below (T.setTop (mkF m 7 #[.val (.ref ra), .val (.int (Int32.ofNat i)), .val (.ref rd), .val (.int (Int32.ofNat i)), .val (.int (Int32.ofNat i)), .val (.int (Int32.ofNat i)), s6] [(.int (Int32.ofNat i)), (.int (Int32.ofNat i))])) _
          refine XS.icmpYes X.here hx rfl (pc0 := 7) (pc' := 44) rfl (hb hby d9_7) rfl (flt ((fun q => Nat.lt_irrefl _ ((own_olt (by omega) (by omega)).mp q)) : ¬ ((Int32.ofNat i) < (Int32.ofNat i)))).2.1 (by decide) (by decide) ?_
          show Steps p.tables e below (T.setTop (mkF m 44 #[.val (.ref ra), .val (.int (Int32.ofNat i)), .val (.ref rd), .val (.int (Int32.ofNat i)), .val (.int (Int32.ofNat i)), .val (.int (Int32.ofNat i)), s6] [])) _
          refine XS.iload X.here hx rfl (hb hby d9_44) rfl ?_
          show Steps p.tables e below (T.setTop (mkF m 46 #[.val (.ref ra), .val (.int (Int32.ofNat i)), .val (.ref rd), .val (.int (Int32.ofNat i)), .val (.int (Int32.ofNat i)), .val (.int (Int32.ofNat i)), s6] [(.int (Int32.ofNat i))])) _
          exact h)
      exact ⟨_, _, _, _, _, X, eT, NN, KK, Vd1, k121⟩
    | succ j ih =>
      intro i hi T h1 lo s6 vs X eT NN OO KK hs6 hvl Vd1 Va1 kk
      have k123 : Rch p e below S0 T (mkF m 12 #[.val (.ref ra), .val (.int (Int32.ofNat i)), .val (.ref rd), .val (.int (Int32.ofNat i)), .val (.int (Int32.ofNat n)), .val (.int (Int32.ofNat i)), s6] [(.int (Int32.ofNat i)), (.ref ra)]) := fun t h => kk t (by
          show Steps p.tables e below (T.setTop (mkF m 3 #[.val (.ref ra), .val (.int (Int32.ofNat i)), .val (.ref rd), .val (.int (Int32.ofNat i)), .val (.int (Int32.ofNat n)), .val (.int (Int32.ofNat i)), s6] [])) _
          refine XS.iload X.here hx rfl (hb hby d9_3) rfl ?_
          show Steps p.tables e below (T.setTop (mkF m 5 #[.val (.ref ra), .val (.int (Int32.ofNat i)), .val (.ref rd), .val (.int (Int32.ofNat i)), .val (.int (Int32.ofNat n)), .val (.int (Int32.ofNat i)), s6] [(.int (Int32.ofNat i))])) _
          refine XS.iload X.here hx rfl (hb hby d9_5) rfl ?_
          show Steps p.tables e below (T.setTop (mkF m 7 #[.val (.ref ra), .val (.int (Int32.ofNat i)), .val (.ref rd), .val (.int (Int32.ofNat i)), .val (.int (Int32.ofNat n)), .val (.int (Int32.ofNat i)), s6] [(.int (Int32.ofNat n)), (.int (Int32.ofNat i))])) _
          refine XS.icmpNo X.here hx rfl (hb hby d9_7) rfl (tlt (((own_olt (by omega) (by omega)).mpr (by omega)) : (Int32.ofNat i) < (Int32.ofNat n))).2.1 ?_
          show Steps p.tables e below (T.setTop (mkF m 10 #[.val (.ref ra), .val (.int (Int32.ofNat i)), .val (.ref rd), .val (.int (Int32.ofNat i)), .val (.int (Int32.ofNat n)), .val (.int (Int32.ofNat i)), s6] [])) _
          refine XS.aloadN X.here hx rfl (hb hby d9_10) rfl rfl ?_
          show Steps p.tables e below (T.setTop (mkF m 11 #[.val (.ref ra), .val (.int (Int32.ofNat i)), .val (.ref rd), .val (.int (Int32.ofNat i)), .val (.int (Int32.ofNat n)), .val (.int (Int32.ofNat i)), s6] [(.ref ra)])) _
          refine XS.iloadN X.here hx rfl (hb hby d9_11) rfl ?_
          show Steps p.tables e below (T.setTop (mkF m 12 #[.val (.ref ra), .val (.int (Int32.ofNat i)), .val (.ref rd), .val (.int (Int32.ofNat i)), .val (.int (Int32.ofNat n)), .val (.int (Int32.ofNat i)), s6] [(.int (Int32.ofNat i)), (.ref ra)])) _
          exact h)
      obtain ⟨cl122, Ar122, q122, Sz122, Ng122, Hs122, G122⟩ := id Va1
      have hin122 : ¬ ((Int32.ofNat i) < 0 ∨ cl122.slots.size ≤ ((Int32.ofNat i)).toNatClampNeg) := inb_of Sz122 (own_inb (by omega) (by omega))
      have hat122 : cl122.slots[((Int32.ofNat i)).toNatClampNeg]? = some (.int (cs.getD i 0)) := Hs122.at hin122 (by rw [(own_tn (by omega)).1]; exact own_at cs i 0)
      have k125 : Rch p e below S0 T (mkF m 31 #[.val (.ref ra), .val (.int (Int32.ofNat i)), .val (.ref rd), .val (.int (Int32.ofNat i)), .val (.int (Int32.ofNat n)), .val (.int (Int32.ofNat i)), .val (.int (cs.getD i 0))] [(.int ((cs.getD i 0).toInt8.toInt32)), (.int (Int32.ofNat i)), (.ref rd)]) := fun t h => k123 t (by
          show Steps p.tables e below (T.setTop (mkF m 12 #[.val (.ref ra), .val (.int (Int32.ofNat i)), .val (.ref rd), .val (.int (Int32.ofNat i)), .val (.int (Int32.ofNat n)), .val (.int (Int32.ofNat i)), s6] [(.int (Int32.ofNat i)), (.ref ra)])) _
          refine X.caload hx (j := (Int32.ofNat i)) (v := (.int (cs.getD i 0))) (by rw [eT]; exact Ar122.1) (State.isArrayOf_alike hZ.alike Ar122.2.1) Ar122.2.2 hin122 hat122 (g := (mkF m 12 #[.val (.ref ra), .val (.int (Int32.ofNat i)), .val (.ref rd), .val (.int (Int32.ofNat i)), .val (.int (Int32.ofNat n)), .val (.int (Int32.ofNat i)), s6] [(.int (Int32.ofNat i)), (.ref ra)])) rfl rfl (hb hby d9_12) _ ?_
          show Steps p.tables e below (T.setTop (mkF m 13 #[.val (.ref ra), .val (.int (Int32.ofNat i)), .val (.ref rd), .val (.int (Int32.ofNat i)), .val (.int (Int32.ofNat n)), .val (.int (Int32.ofNat i)), s6] [(.int (cs.getD i 0))])) _
          refine XS.istoreS X.here hx rfl (hb hby d9_13) rfl rfl hs6 ?_
          show Steps p.tables e below (T.setTop (mkF m 15 #[.val (.ref ra), .val (.int (Int32.ofNat i)), .val (.ref rd), .val (.int (Int32.ofNat i)), .val (.int (Int32.ofNat n)), .val (.int (Int32.ofNat i)), .val (.int (cs.getD i 0))] [])) _
          refine XS.iload X.here hx rfl (hb hby d9_15) rfl ?_
          show Steps p.tables e below (T.setTop (mkF m 17 #[.val (.ref ra), .val (.int (Int32.ofNat i)), .val (.ref rd), .val (.int (Int32.ofNat i)), .val (.int (Int32.ofNat n)), .val (.int (Int32.ofNat i)), .val (.int (cs.getD i 0))] [(.int (cs.getD i 0))])) _
          refine XS.sipush X.here hx rfl (hb hby d9_17) ?_
          show Steps p.tables e below (T.setTop (mkF m 20 #[.val (.ref ra), .val (.int (Int32.ofNat i)), .val (.ref rd), .val (.int (Int32.ofNat i)), .val (.int (Int32.ofNat n)), .val (.int (Int32.ofNat i)), .val (.int (cs.getD i 0))] [(.int (255 : Int32)), (.int (cs.getD i 0))])) _
          refine XS.icmpYes X.here hx rfl (pc0 := 20) (pc' := 26) rfl (hb hby d9_20) rfl (flt ((hlow i (by omega)) : ¬ ((255 : Int32) < (cs.getD i 0)))).2.2.2 (by decide) (by decide) ?_
          show Steps p.tables e below (T.setTop (mkF m 26 #[.val (.ref ra), .val (.int (Int32.ofNat i)), .val (.ref rd), .val (.int (Int32.ofNat i)), .val (.int (Int32.ofNat n)), .val (.int (Int32.ofNat i)), .val (.int (cs.getD i 0))] [])) _
          refine XS.aloadN X.here hx rfl (hb hby d9_26) rfl rfl ?_
          show Steps p.tables e below (T.setTop (mkF m 27 #[.val (.ref ra), .val (.int (Int32.ofNat i)), .val (.ref rd), .val (.int (Int32.ofNat i)), .val (.int (Int32.ofNat n)), .val (.int (Int32.ofNat i)), .val (.int (cs.getD i 0))] [(.ref rd)])) _
          refine XS.iloadN X.here hx rfl (hb hby d9_27) rfl ?_
          show Steps p.tables e below (T.setTop (mkF m 28 #[.val (.ref ra), .val (.int (Int32.ofNat i)), .val (.ref rd), .val (.int (Int32.ofNat i)), .val (.int (Int32.ofNat n)), .val (.int (Int32.ofNat i)), .val (.int (cs.getD i 0))] [(.int (Int32.ofNat i)), (.ref rd)])) _
          refine XS.iload X.here hx rfl (hb hby d9_28) rfl ?_
          show Steps p.tables e below (T.setTop (mkF m 30 #[.val (.ref ra), .val (.int (Int32.ofNat i)), .val (.ref rd), .val (.int (Int32.ofNat i)), .val (.int (Int32.ofNat n)), .val (.int (Int32.ofNat i)), .val (.int (cs.getD i 0))] [(.int (cs.getD i 0)), (.int (Int32.ofNat i)), (.ref rd)])) _
          refine XS.i2b X.here hx rfl (hb hby d9_30) rfl ?_
          show Steps p.tables e below (T.setTop (mkF m 31 #[.val (.ref ra), .val (.int (Int32.ofNat i)), .val (.ref rd), .val (.int (Int32.ofNat i)), .val (.int (Int32.ofNat n)), .val (.int (Int32.ofNat i)), .val (.int (cs.getD i 0))] [(.int ((cs.getD i 0).toInt8.toInt32)), (.int (Int32.ofNat i)), (.ref rd)])) _
          exact h)
      obtain ⟨cl124, Ar124, q124, Sz124, Ng124, Hs124, G124⟩ := id Vd1
      have hin124 : ¬ ((Int32.ofNat i) < 0 ∨ cl124.slots.size ≤ ((Int32.ofNat i)).toNatClampNeg) := inb_of Sz124 (own_inb (by omega) (by omega))
      obtain ⟨T124, h124, X124, e124, W124, st124⟩ := stB X hx hZ eT Ar124 (j := (Int32.ofNat i)) hin124 (g := (mkF m 31 #[.val (.ref ra), .val (.int (Int32.ofNat i)), .val (.ref rd), .val (.int (Int32.ofNat i)), .val (.int (Int32.ofNat n)), .val (.int (Int32.ofNat i)), .val (.int (cs.getD i 0))] [(.int ((cs.getD i 0).toInt8.toInt32)), (.int (Int32.ofNat i)), (.ref rd)])) rfl rfl (hb hby d9_31)
      have k126 : Rch p e below S0 T124 (mkF m 32 #[.val (.ref ra), .val (.int (Int32.ofNat i)), .val (.ref rd), .val (.int (Int32.ofNat i)), .val (.int (Int32.ofNat n)), .val (.int (Int32.ofNat i)), .val (.int (cs.getD i 0))] []) := fun t h => k125 t (st124 t h)
      have N124 := Fr.snoc X124 NN ge_rd
      have Vd1' := Arv.set Ar124 q124 Sz124 Ng124 Hs124 G124 (fits_nar_byte _) W124 i (own_tn (by omega)).1 (by omega)
      replace Vd1 := Vd1'
      have O127 := OO.wr W124 ge_rd
      have K128 := KK.wr W124 (Or.inl (List.mem_of_getElem? (i := 0) rfl))
      replace Va1 := Va1.other W124 ne_ra_rd
      have k129 : Rch p e below S0 T124 (mkF m 3 #[.val (.ref ra), .val (.int (Int32.ofNat (i + 1))), .val (.ref rd), .val (.int (Int32.ofNat (i + 1))), .val (.int (Int32.ofNat n)), .val (.int (Int32.ofNat (i + 1))), .val (.int (cs.getD i 0))] []) := fun t h => k126 t (by
          show Steps p.tables e below (T124.setTop (mkF m 32 #[.val (.ref ra), .val (.int (Int32.ofNat i)), .val (.ref rd), .val (.int (Int32.ofNat i)), .val (.int (Int32.ofNat n)), .val (.int (Int32.ofNat i)), .val (.int (cs.getD i 0))] [])) _
          refine XS.iinc X124.here hx rfl (hb hby d9_32) rfl (l' := #[.val (.ref ra), .val (.int ((Int32.ofNat i) + (1 : Int32))), .val (.ref rd), .val (.int (Int32.ofNat i)), .val (.int (Int32.ofNat n)), .val (.int (Int32.ofNat i)), .val (.int (cs.getD i 0))]) rfl ?_
          rw [own_inc (i := i) (by omega)]
          show Steps p.tables e below (T124.setTop (mkF m 35 #[.val (.ref ra), .val (.int (Int32.ofNat (i + 1))), .val (.ref rd), .val (.int (Int32.ofNat i)), .val (.int (Int32.ofNat n)), .val (.int (Int32.ofNat i)), .val (.int (cs.getD i 0))] [])) _
          refine XS.iinc X124.here hx rfl (hb hby d9_35) rfl (l' := #[.val (.ref ra), .val (.int (Int32.ofNat (i + 1))), .val (.ref rd), .val (.int ((Int32.ofNat i) + (1 : Int32))), .val (.int (Int32.ofNat n)), .val (.int (Int32.ofNat i)), .val (.int (cs.getD i 0))]) rfl ?_
          rw [own_inc (i := i) (by omega)]
          show Steps p.tables e below (T124.setTop (mkF m 38 #[.val (.ref ra), .val (.int (Int32.ofNat (i + 1))), .val (.ref rd), .val (.int (Int32.ofNat (i + 1))), .val (.int (Int32.ofNat n)), .val (.int (Int32.ofNat i)), .val (.int (cs.getD i 0))] [])) _
          refine XS.iinc X124.here hx rfl (hb hby d9_38) rfl (l' := #[.val (.ref ra), .val (.int (Int32.ofNat (i + 1))), .val (.ref rd), .val (.int (Int32.ofNat (i + 1))), .val (.int (Int32.ofNat n)), .val (.int ((Int32.ofNat i) + (1 : Int32))), .val (.int (cs.getD i 0))]) rfl ?_
          rw [own_inc (i := i) (by omega)]
          show Steps p.tables e below (T124.setTop (mkF m 41 #[.val (.ref ra), .val (.int (Int32.ofNat (i + 1))), .val (.ref rd), .val (.int (Int32.ofNat (i + 1))), .val (.int (Int32.ofNat n)), .val (.int (Int32.ofNat (i + 1))), .val (.int (cs.getD i 0))] [])) _
          refine XS.goto X124.here hx rfl (pc0 := 41) (pc' := 3) rfl (hb hby d9_41) (by decide) (by decide) ?_
          show Steps p.tables e below (T124.setTop (mkF m 3 #[.val (.ref ra), .val (.int (Int32.ofNat (i + 1))), .val (.ref rd), .val (.int (Int32.ofNat (i + 1))), .val (.int (Int32.ofNat n)), .val (.int (Int32.ofNat (i + 1))), .val (.int (cs.getD i 0))] [])) _
          exact h)
      exact ih (i + 1) (by omega) _ _ _ _ _ X124 e124 N124 O127 K128 (One.val rfl) (by rw [List.length_set]; exact hvl) Vd1 Va1 k129
  obtain ⟨TL, hL, loL, sL, vsL, XL, eL, NL, KL, VL, kL⟩ := loop n 0 (by omega) _ _ _ _ _ X0 e0 N0 O0 K0 One.u (by simp) Vd Va k120
  obtain ⟨fs, hr, hrun, hended, hW, hsame⟩ := XL.leave (v := (some (.int (Int32.ofNat n)))) (fun h => by rw [Bd.returns] at h; cases h)
  refine ⟨_, _, ?_, hrun, hended, _, _, rfl, ?_, ⟨_, rfl⟩, hW, hsame.mono (by decide) (by decide)⟩
  · rw [← hS0]
    refine kL _ ?_
    show Steps p.tables e below (TL.setTop (mkF m 46 #[.val (.ref ra), .val (.int (Int32.ofNat n)), .val (.ref rd), .val (.int (Int32.ofNat n)), .val (.int (Int32.ofNat n)), .val (.int (Int32.ofNat n)), sL] [(.int (Int32.ofNat n))])) _
    exact retI XL hx Bd.returns (hb hby d9_46) hr
  · show Q_rmC5l Z rd kd n h0 n0 _ TL.heap _
    rw [eL]
    exact ⟨rfl, NL, KL, vsL, VL⟩
def Q_rmC3l (Z : State) (n : Nat) (h0 : Heap) (n0 : Nat) (v : Option Value) (h : Heap) (L : List Loc) : Prop := ∃ x kx vs, v = some (.ref x) ∧ Fr n0 L ∧ Ext h0 h ∧ h0.size ≤ x ∧ Arv Z h x kx .byte (Int32.ofNat n) vs (.int (0 : Int32))
theorem d8_57 : decode jdk_52_method_16_code 57 = .ok (.aload_n 3, 1) := by decide +kernel
theorem d8_58 : decode jdk_52_method_16_code 58 = .ok (.areturn, 1) := by decide +kernel
set_option maxRecDepth 65536 in
set_option maxHeartbeats 40000000 in
theorem rmC3l (l : Launch) (Z : State) (a0 : Array Value) (hw : ∀ d ∈ tables_1, d.before a0 Z = true) (ws : List Jvm.Cond) (ra : Addr) (ka : ClassId) (n : Nat) (cs : List Int32) (h0 : Heap) (n0 : Nat) (O0 : Old Z n0 h0) (hn : n ≤ 4000) (hl : cs.length = n) (hlow : ∀ i, i < n → ¬ (255 : Int32) < cs.getD i 0) (Va : Arv Z h0 ra ka .char (Int32.ofNat n) (cs.map Value.int) (.int (0 : Int32))) :
    MetFree l (⟨"java/lang/StringUTF16", "compress", "([CII)[B"⟩ : MethodName) (head1 (Jvm.Cond.code (⟨"java/lang/StringUTF16", "compress", "([CII)[B"⟩ : MethodName) jdk_52_method_16_code 6 (some (.array .byte)) :: ws) ({ frames := 1, cells := 1, slots := 4000, locals := 30 } : Room)) (fun a U => a = #[(.ref ra), (.int (0 : Int32)), (.int (Int32.ofNat n))] ∧ Z.Warmed39 U.vm ∧ U.heap = h0) (fun _ _ _ _ _ => True) (fun _ U o U' => ∃ v L, o = .returned v ∧ Q_rmC3l Z n h0 n0 v U'.heap L ∧ FrameEnd U o U' L ({ frames := 1, cells := 1, slots := 4000, locals := 30 } : Room).cells ({ frames := 1, cells := 1, slots := 4000, locals := 30 } : Room).slots) := by
  refine MetFree.of_bodySF (plainFor_of_name pn_StringUTF16) hisR ?_
  intro p e s m args below meth c s₁ Bd hml0 hP hK
  obtain ⟨rfl, hZ, hh⟩ := hP
  have hx := Bd.exec
  have hby := Bd.bytes
  have hml : c.maxLocals = 6 := hml0
  have hown : s.vm.findClass "java/lang/StringUTF16" = some m.cls := findClass_of_methodNamed Bd.named
  have hnm := (name_of_methodNamed Bd.named Bd.method).1
  have X0 : Stand p l e ({ frames := 1, cells := 1, slots := 4000, locals := 30 } : Room) s m #[(.ref ra), (.int (0 : Int32)), (.int (Int32.ofNat n))] below meth c s₁ [] 0 0 := Stand.of_body Bd
  have e0 : s₁.heap = h0 := by rw [← hh, Bd.state]; rfl
  have N0 := Fr.nil n0
  obtain ⟨S0, hS0⟩ : ∃ z, z = s₁.setTop (entryFrame m #[(.ref ra), (.int (0 : Int32)), (.int (Int32.ofNat n))] 6) := ⟨_, rfl⟩
  have k0 : Rch p e below S0 s₁ (mkF m 0 #[.val (.ref ra), .val (.int (0 : Int32)), .val (.int (Int32.ofNat n)), .unset, .unset, .unset] []) := fun t kq => hS0 ▸ castTop (ef_8 m ra (0 : Int32) (Int32.ofNat n)) kq
  have K0 : Keep h0 h0 [] := Keep.refl h0 _
  have k131 : Rch p e below S0 s₁ (mkF m 1 #[.val (.ref ra), .val (.int (0 : Int32)), .val (.int (Int32.ofNat n)), .unset, .unset, .unset] [(.int (Int32.ofNat n))]) := fun t h => k0 t (by
      show Steps p.tables e below (s₁.setTop (mkF m 0 #[.val (.ref ra), .val (.int (0 : Int32)), .val (.int (Int32.ofNat n)), .unset, .unset, .unset] [])) _
      refine XS.iloadN X0.here hx rfl (hb hby d8_0) rfl ?_
      show Steps p.tables e below (s₁.setTop (mkF m 1 #[.val (.ref ra), .val (.int (0 : Int32)), .val (.int (Int32.ofNat n)), .unset, .unset, .unset] [(.int (Int32.ofNat n))])) _
      exact h)
  obtain ⟨T130, h130, k130, X130, e130, E130, A130, st130⟩ := newP X0 hx hZ (hw _ (List.mem_of_getElem? (i := 16) rfl)) e0 (g := (mkF m 1 #[.val (.ref ra), .val (.int (0 : Int32)), .val (.int (Int32.ofNat n)), .unset, .unset, .unset] [(.int (Int32.ofNat n))])) rfl (hb hby d8_1) rfl (own_on0 (by omega)) (cap := 4000) (by rw [(own_tn (by omega)).1]; omega) (by decide) (by decide) (by decide)
  obtain ⟨b130, g130⟩ : ∃ z, z = h0.size := ⟨_, rfl⟩
  rw [← g130] at A130 st130
  have k132 : Rch p e below S0 T130 (mkF m 3 #[.val (.ref ra), .val (.int (0 : Int32)), .val (.int (Int32.ofNat n)), .unset, .unset, .unset] [(.ref b130)]) := fun t h => k131 t (st130 t h)
  have ne_ra_b130 : ra ≠ b130 := own_ne Va.lt (Nat.le_of_eq g130.symm)
  have ge_b130 : n0 ≤ b130 := own_ge O0 (Nat.le_of_eq g130.symm)
  have sz_b130 : h0.size ≤ b130 := Nat.le_trans K0.1 (Nat.le_of_eq g130.symm)
  have O133 := O0.ext E130
  have K134 := K0.ext E130
  replace Va := Va.ext E130
  have V_b130 : Arv Z h130 b130 k130 .byte (Int32.ofNat n) [] (.int (0 : Int32)) := Arv.new A130 (own_on0 (by omega))
  have k135 : Rch p e below S0 T130 (mkF m 9 #[.val (.ref ra), .val (.int (0 : Int32)), .val (.int (Int32.ofNat n)), .val (.ref b130), .unset, .unset] [(.int (Int32.ofNat n)), (.int (0 : Int32)), (.ref b130), (.int (0 : Int32)), (.ref ra)]) := fun t h => k132 t (by
      show Steps p.tables e below (T130.setTop (mkF m 3 #[.val (.ref ra), .val (.int (0 : Int32)), .val (.int (Int32.ofNat n)), .unset, .unset, .unset] [(.ref b130)])) _
      refine XS.astoreN X130.here hx rfl (hb hby d8_3) rfl rfl (l' := #[.val (.ref ra), .val (.int (0 : Int32)), .val (.int (Int32.ofNat n)), .val (.ref b130), .unset, .unset]) rfl ?_
      show Steps p.tables e below (T130.setTop (mkF m 4 #[.val (.ref ra), .val (.int (0 : Int32)), .val (.int (Int32.ofNat n)), .val (.ref b130), .unset, .unset] [])) _
      refine XS.aloadN X130.here hx rfl (hb hby d8_4) rfl rfl ?_
      show Steps p.tables e below (T130.setTop (mkF m 5 #[.val (.ref ra), .val (.int (0 : Int32)), .val (.int (Int32.ofNat n)), .val (.ref b130), .unset, .unset] [(.ref ra)])) _
      refine XS.iloadN X130.here hx rfl (hb hby d8_5) rfl ?_
      show Steps p.tables e below (T130.setTop (mkF m 6 #[.val (.ref ra), .val (.int (0 : Int32)), .val (.int (Int32.ofNat n)), .val (.ref b130), .unset, .unset] [(.int (0 : Int32)), (.ref ra)])) _
      refine XS.aloadN X130.here hx rfl (hb hby d8_6) rfl rfl ?_
      show Steps p.tables e below (T130.setTop (mkF m 7 #[.val (.ref ra), .val (.int (0 : Int32)), .val (.int (Int32.ofNat n)), .val (.ref b130), .unset, .unset] [(.ref b130), (.int (0 : Int32)), (.ref ra)])) _
      refine XS.iconst X130.here hx rfl (hb hby d8_7) ?_
      show Steps p.tables e below (T130.setTop (mkF m 8 #[.val (.ref ra), .val (.int (0 : Int32)), .val (.int (Int32.ofNat n)), .val (.ref b130), .unset, .unset] [(.int (0 : Int32)), (.ref b130), (.int (0 : Int32)), (.ref ra)])) _
      refine XS.iloadN X130.here hx rfl (hb hby d8_8) rfl ?_
      show Steps p.tables e below (T130.setTop (mkF m 9 #[.val (.ref ra), .val (.int (0 : Int32)), .val (.int (Int32.ofNat n)), .val (.ref b130), .unset, .unset] [(.int (Int32.ofNat n)), (.int (0 : Int32)), (.ref b130), (.int (0 : Int32)), (.ref ra)])) _
      exact h)
  have Vp : Arv Z h130 b130 k130 .byte (Int32.ofNat n) (List.replicate n (.int (0 : Int32))) (.int (0 : Int32)) := by
    have q := V_b130.pad (pad_rep [] (.int (0 : Int32)) n)
    rwa [List.nil_append] at q
  obtain ⟨_, _, ⟨T136, L136, kk136, n136⟩, -, X136, ⟨Lc136, hQ136, l136, y136, z136⟩, st136⟩ := Jvm.LawKit.callS X130 hx (y := (⟨"java/lang/StringUTF16", "compress", "([CI[BII)I"⟩ : MethodName)) hown (mvT hZ (hw _ (List.mem_of_getElem? (i := 49) rfl))) (mvT hZ (hw _ (List.mem_of_getElem? (i := 50) rfl))) (mvT hZ (hw _ (List.mem_of_getElem? (i := 47) rfl))) (mvT hZ (hw _ (List.mem_of_getElem? (i := 51) rfl))) (by decide) (backOf (W := 0) (rmC5l l Z a0 hw [] ra b130 ka k130 n cs h130 n0 O133 ge_b130 ne_ra_b130 hn hl hlow Va Vp) hZ (hw _ (List.mem_of_getElem? (i := 51) rfl)) (hw _ (List.mem_of_getElem? (i := 47) rfl)) (by decide) (by decide)) (g := (mkF m 9 #[.val (.ref ra), .val (.int (0 : Int32)), .val (.int (Int32.ofNat n)), .val (.ref b130), .unset, .unset] [(.int (Int32.ofNat n)), (.int (0 : Int32)), (.ref b130), (.int (0 : Int32)), (.ref ra)])) rfl (by rw [hml]; rfl) (argsL := [(.ref ra), (.int (0 : Int32)), (.ref b130), (.int (0 : Int32)), (.int (Int32.ofNat n))]) (rest := []) (lenOf pd_8 rfl) rfl (by show 2 * 0 + _ ≤ _; exact Nat.le_of_eq rfl) (hb hby d8_9) (fun _ _ => ⟨rfl, e130, (by decide : 1 + 0 ≤ _), (by decide : 4000 + 0 ≤ _)⟩)
  dsimp only [Pt.U, Pt.locs, Pt.cells, Pt.slots] at X136 l136 y136 z136 st136 hQ136
  subst l136 y136 z136
  obtain ⟨rfl, Nq136, K136, vs136, Vn136⟩ := hQ136
  have N136 := Fr.app N0 Nq136
  have k137 : Rch p e below S0 T136 (mkF m 12 #[.val (.ref ra), .val (.int (0 : Int32)), .val (.int (Int32.ofNat n)), .val (.ref b130), .unset, .unset] [(.int (Int32.ofNat n))]) := fun t h => k135 t (st136 t h)
  have O138 := O133.keep K136 (allS ge_b130 all0)
  have K139 := K134.trans K136 (allS (Or.inr sz_b130) all0)
  replace Va := Va.keep K136 (ninS ne_ra_b130 nin0)
  have k140 : Rch p e below S0 T136 (mkF m 58 #[.val (.ref ra), .val (.int (0 : Int32)), .val (.int (Int32.ofNat n)), .val (.ref b130), .val (.int (Int32.ofNat n)), .unset] [(.ref b130)]) := fun t h => k137 t (by
      show Steps p.tables e below (T136.setTop (mkF m 12 #[.val (.ref ra), .val (.int (0 : Int32)), .val (.int (Int32.ofNat n)), .val (.ref b130), .unset, .unset] [(.int (Int32.ofNat n))])) _
      refine XS.istore X136.here hx rfl (hb hby d8_12) rfl (l' := #[.val (.ref ra), .val (.int (0 : Int32)), .val (.int (Int32.ofNat n)), .val (.ref b130), .val (.int (Int32.ofNat n)), .unset]) rfl ?_
      show Steps p.tables e below (T136.setTop (mkF m 14 #[.val (.ref ra), .val (.int (0 : Int32)), .val (.int (Int32.ofNat n)), .val (.ref b130), .val (.int (Int32.ofNat n)), .unset] [])) _
      refine XS.iload X136.here hx rfl (hb hby d8_14) rfl ?_
      show Steps p.tables e below (T136.setTop (mkF m 16 #[.val (.ref ra), .val (.int (0 : Int32)), .val (.int (Int32.ofNat n)), .val (.ref b130), .val (.int (Int32.ofNat n)), .unset] [(.int (Int32.ofNat n))])) _
      refine XS.iloadN X136.here hx rfl (hb hby d8_16) rfl ?_
      show Steps p.tables e below (T136.setTop (mkF m 17 #[.val (.ref ra), .val (.int (0 : Int32)), .val (.int (Int32.ofNat n)), .val (.ref b130), .val (.int (Int32.ofNat n)), .unset] [(.int (Int32.ofNat n)), (.int (Int32.ofNat n))])) _
      refine XS.icmpYes X136.here hx rfl (pc0 := 17) (pc' := 57) rfl (hb hby d8_17) rfl (teq (rfl : (Int32.ofNat n) = (Int32.ofNat n))).1 (by decide) (by decide) ?_
      show Steps p.tables e below (T136.setTop (mkF m 57 #[.val (.ref ra), .val (.int (0 : Int32)), .val (.int (Int32.ofNat n)), .val (.ref b130), .val (.int (Int32.ofNat n)), .unset] [])) _
      refine XS.aloadN X136.here hx rfl (hb hby d8_57) rfl rfl ?_
      show Steps p.tables e below (T136.setTop (mkF m 58 #[.val (.ref ra), .val (.int (0 : Int32)), .val (.int (Int32.ofNat n)), .val (.ref b130), .val (.int (Int32.ofNat n)), .unset] [(.ref b130)])) _
      exact h)
  obtain ⟨fs, hr, hrun, hended, hW, hsame⟩ := X136.leave (v := (some (.ref b130))) (fun h => by rw [Bd.returns] at h; cases h)
  refine ⟨_, _, ?_, hrun, hended, _, _, rfl, ?_, ⟨_, rfl⟩, hW, hsame.mono (by decide) (by decide)⟩
  · rw [← hS0]
    refine k140 _ ?_
    show Steps p.tables e below (T136.setTop (mkF m 58 #[.val (.ref ra), .val (.int (0 : Int32)), .val (.int (Int32.ofNat n)), .val (.ref b130), .val (.int (Int32.ofNat n)), .unset] [(.ref b130)])) _
    jvm_step X136.here [X136.here.top, hx, (hb hby d8_58), X136.method', Bd.returns, Value.isRef, FieldType.isReference]
    first | (intro acts; rw [hr _ acts rfl rfl rfl]) | rw [hr _ _ rfl rfl rfl]
    exact Steps.refl _
  · show Q_rmC3l Z n h0 n0 _ T136.heap _
    exact ⟨b130, k130, vs136, rfl, N136, own_ext K139, sz_b130, Vn136⟩
def Q_rmCLl (Z : State)  (h0 : Heap) (n0 : Nat) (v : Option Value) (h : Heap) (L : List Loc) : Prop := v = some (.int (0 : Int32)) ∧ Fr n0 L ∧ h = h0
set_option maxRecDepth 65536 in
set_option maxHeartbeats 40000000 in
theorem rmCLl (l : Launch) (Z : State) (a0 : Array Value) (hw : ∀ d ∈ tables_1, d.before a0 Z = true) (ws : List Jvm.Cond) (rb : Addr) (kb : ClassId) (n : Nat) (vs : List Value) (h0 : Heap) (n0 : Nat) (O0 : Old Z n0 h0) (hn : n ≤ 4000) (Vb : Arv Z h0 rb kb .byte (Int32.ofNat n) vs (.int (0 : Int32))) :
    MetFree l (⟨"java/lang/StringUTF16", "coderFromArrayLen", "([BI)B"⟩ : MethodName) (head1 (Jvm.Cond.code (⟨"java/lang/StringUTF16", "coderFromArrayLen", "([BI)B"⟩ : MethodName) jdk_52_method_15_code 2 (some .byte) :: ws) ({ frames := 0, cells := 0, slots := 0, locals := 0 } : Room)) (fun a U => a = #[(.ref rb), (.int (Int32.ofNat n))] ∧ Z.Warmed39 U.vm ∧ U.heap = h0) (fun _ _ _ _ _ => True) (fun _ U o U' => ∃ v L, o = .returned v ∧ Q_rmCLl Z  h0 n0 v U'.heap L ∧ FrameEnd U o U' L ({ frames := 0, cells := 0, slots := 0, locals := 0 } : Room).cells ({ frames := 0, cells := 0, slots := 0, locals := 0 } : Room).slots) := by
  refine MetFree.of_bodySF (plainFor_of_name pn_StringUTF16) hisR ?_
  intro p e s m args below meth c s₁ Bd hml0 hP hK
  obtain ⟨rfl, hZ, hh⟩ := hP
  have hx := Bd.exec
  have hby := Bd.bytes
  have hml : c.maxLocals = 2 := hml0
  have hown : s.vm.findClass "java/lang/StringUTF16" = some m.cls := findClass_of_methodNamed Bd.named
  have hnm := (name_of_methodNamed Bd.named Bd.method).1
  have X0 : Stand p l e ({ frames := 0, cells := 0, slots := 0, locals := 0 } : Room) s m #[(.ref rb), (.int (Int32.ofNat n))] below meth c s₁ [] 0 0 := Stand.of_body Bd
  have e0 : s₁.heap = h0 := by rw [← hh, Bd.state]; rfl
  have N0 := Fr.nil n0
  obtain ⟨S0, hS0⟩ : ∃ z, z = s₁.setTop (entryFrame m #[(.ref rb), (.int (Int32.ofNat n))] 2) := ⟨_, rfl⟩
  have k0 : Rch p e below S0 s₁ (mkF m 0 #[.val (.ref rb), .val (.int (Int32.ofNat n))] []) := fun t kq => hS0 ▸ castTop (ef_10 m rb (Int32.ofNat n)) kq
  have k142 : Rch p e below S0 s₁ (mkF m 2 #[.val (.ref rb), .val (.int (Int32.ofNat n))] [(.ref rb), (.int (Int32.ofNat n))]) := fun t h => k0 t (by
      show Steps p.tables e below (s₁.setTop (mkF m 0 #[.val (.ref rb), .val (.int (Int32.ofNat n))] [])) _
      refine XS.iloadN X0.here hx rfl (hb hby d10_0) rfl ?_
      show Steps p.tables e below (s₁.setTop (mkF m 1 #[.val (.ref rb), .val (.int (Int32.ofNat n))] [(.int (Int32.ofNat n))])) _
      refine XS.aloadN X0.here hx rfl (hb hby d10_1) rfl rfl ?_
      show Steps p.tables e below (s₁.setTop (mkF m 2 #[.val (.ref rb), .val (.int (Int32.ofNat n))] [(.ref rb), (.int (Int32.ofNat n))])) _
      exact h)
  obtain ⟨cl141, Ar141, q141, Sz141, Ng141, Hs141, G141⟩ := id Vb
  have k143 : Rch p e below S0 s₁ (mkF m 8 #[.val (.ref rb), .val (.int (Int32.ofNat n))] [(.int (0 : Int32))]) := fun t h => k142 t (by
      show Steps p.tables e below (s₁.setTop (mkF m 2 #[.val (.ref rb), .val (.int (Int32.ofNat n))] [(.ref rb), (.int (Int32.ofNat n))])) _
      refine X0.arraylength hx (by rw [e0]; exact Ar141.1) (State.isArrayOf_alike hZ.alike Ar141.2.1) (g := (mkF m 2 #[.val (.ref rb), .val (.int (Int32.ofNat n))] [(.ref rb), (.int (Int32.ofNat n))])) rfl rfl (hb hby d10_2) _ ?_
      rw [len_of Sz141 Ng141]
      show Steps p.tables e below (s₁.setTop (mkF m 3 #[.val (.ref rb), .val (.int (Int32.ofNat n))] [(.int (Int32.ofNat n)), (.int (Int32.ofNat n))])) _
      refine XS.isub X0.here hx rfl (hb hby d10_3) rfl ?_
      show Steps p.tables e below (s₁.setTop (mkF m 4 #[.val (.ref rb), .val (.int (Int32.ofNat n))] [(.int ((Int32.ofNat n) - (Int32.ofNat n)))])) _
      refine XS.bipush X0.here hx rfl (hb hby d10_4) ?_
      show Steps p.tables e below (s₁.setTop (mkF m 6 #[.val (.ref rb), .val (.int (Int32.ofNat n))] [(.int (31 : Int32)), (.int ((Int32.ofNat n) - (Int32.ofNat n)))])) _
      refine XS.iushr X0.here hx rfl (hb hby d10_6) rfl ?_
      rw [own_coder0 (n := n) (by omega)]
      show Steps p.tables e below (s₁.setTop (mkF m 7 #[.val (.ref rb), .val (.int (Int32.ofNat n))] [(.int (0 : Int32))])) _
      refine XS.i2b X0.here hx rfl (hb hby d10_7) rfl ?_
      rw [(by decide : (0 : Int32).toInt8.toInt32 = 0)]
      show Steps p.tables e below (s₁.setTop (mkF m 8 #[.val (.ref rb), .val (.int (Int32.ofNat n))] [(.int (0 : Int32))])) _
      exact h)
  obtain ⟨fs, hr, hrun, hended, hW, hsame⟩ := X0.leave (v := (some (.int (nar .byte (0 : Int32))))) (fun h => by rw [Bd.returns] at h; cases h)
  refine ⟨_, _, ?_, hrun, hended, _, _, rfl, ?_, ⟨_, rfl⟩, hW, hsame.mono (by decide) (by decide)⟩
  · rw [← hS0]
    refine k143 _ ?_
    show Steps p.tables e below (s₁.setTop (mkF m 8 #[.val (.ref rb), .val (.int (Int32.ofNat n))] [(.int (0 : Int32))])) _
    exact retN X0 hx (t := .byte) Bd.returns (by simp) (hb hby d10_8) hr
  · show Q_rmCLl Z  h0 n0 _ s₁.heap _
    rw [e0]
    exact ⟨rfl, N0, rfl⟩
def Q_rmL4 (Z : State) (a1 : Addr) (n : Nat) (h0 : Heap) (n0 : Nat) (v : Option Value) (h : Heap) (L : List Loc) : Prop := v = none ∧ Fr n0 L ∧ Keep h0 h [a1] ∧ ∃ t kt vs, Fld Z h a1 "java/lang/String" "value" "[B" (.ref t) ∧ Fld Z h a1 "java/lang/String" "coder" "B" (.int (0 : Int32)) ∧ Arv Z h t kt .byte (Int32.ofNat n) vs (.int (0 : Int32))
set_option maxRecDepth 65536 in
set_option maxHeartbeats 40000000 in
theorem rmL4 (l : Launch) (Z : State) (a0 : Array Value) (hw : ∀ d ∈ tables_1, d.before a0 Z = true) (ws : List Jvm.Cond) (a1 : Addr) (ra : Addr) (ka : ClassId) (n : Nat) (cs : List Int32) (zC : Int32) (h0 : Heap) (n0 : Nat) (O0 : Old Z n0 h0) (SC : Sta Z Z.heap "java/lang/String" "COMPACT_STRINGS" "Z" (.int zC)) (hzC : ¬ zC = 0) (hn : n ≤ 4000) (hl : cs.length = n) (hlow : ∀ i, i < n → ¬ (255 : Int32) < cs.getD i 0) (h1 : 0 < n) (ge_a1 : n0 ≤ a1) (E_a1 : Exa Z h0 a1 "java/lang/String") (F_a1_value : Fld Z h0 a1 "java/lang/String" "value" "[B" .null) (F_a1_coder : Fld Z h0 a1 "java/lang/String" "coder" "B" (.int (0 : Int32))) (ne_ra_a1 : ra ≠ a1) (Va : Arv Z h0 ra ka .char (Int32.ofNat n) (cs.map Value.int) (.int (0 : Int32))) :
    MetFree l (⟨"java/lang/String", "<init>", "([CIILjava/lang/Void;)V"⟩ : MethodName) (head1 (Jvm.Cond.code (⟨"java/lang/String", "<init>", "([CIILjava/lang/Void;)V"⟩ : MethodName) jdk_42_method_149_code 6 none :: ws) ({ frames := 4, cells := 1, slots := 4000, locals := 140 } : Room)) (fun a U => a = #[(.ref a1), (.ref ra), (.int (0 : Int32)), (.int (Int32.ofNat n)), .null] ∧ Z.Warmed39 U.vm ∧ U.heap = h0) (fun _ _ _ _ _ => True) (fun _ U o U' => ∃ v L, o = .returned v ∧ Q_rmL4 Z a1 n h0 n0 v U'.heap L ∧ FrameEnd U o U' L ({ frames := 4, cells := 1, slots := 4000, locals := 140 } : Room).cells ({ frames := 4, cells := 1, slots := 4000, locals := 140 } : Room).slots) := by
  refine MetFree.of_bodySF (plainFor_of_name pn_String) hisR ?_
  intro p e s m args below meth c s₁ Bd hml0 hP hK
  obtain ⟨rfl, hZ, hh⟩ := hP
  have hx := Bd.exec
  have hby := Bd.bytes
  have hml : c.maxLocals = 6 := hml0
  have hown : s.vm.findClass "java/lang/String" = some m.cls := findClass_of_methodNamed Bd.named
  have hnm := (name_of_methodNamed Bd.named Bd.method).1
  have X0 : Stand p l e ({ frames := 4, cells := 1, slots := 4000, locals := 140 } : Room) s m #[(.ref a1), (.ref ra), (.int (0 : Int32)), (.int (Int32.ofNat n)), .null] below meth c s₁ [] 0 0 := Stand.of_body Bd
  have e0 : s₁.heap = h0 := by rw [← hh, Bd.state]; rfl
  have N0 := Fr.nil n0
  obtain ⟨S0, hS0⟩ : ∃ z, z = s₁.setTop (entryFrame m #[(.ref a1), (.ref ra), (.int (0 : Int32)), (.int (Int32.ofNat n)), .null] 6) := ⟨_, rfl⟩
  have k0 : Rch p e below S0 s₁ (mkF m 0 #[.val (.ref a1), .val (.ref ra), .val (.int (0 : Int32)), .val (.int (Int32.ofNat n)), .val .null, .unset] []) := fun t kq => hS0 ▸ castTop (ef_2n m a1 ra (0 : Int32) (Int32.ofNat n)) kq
  have K0 : Keep h0 h0 [a1] := Keep.refl h0 _
  have k145 : Rch p e below S0 s₁ (mkF m 1 #[.val (.ref a1), .val (.ref ra), .val (.int (0 : Int32)), .val (.int (Int32.ofNat n)), .val .null, .unset] [(.ref a1)]) := fun t h => k0 t (by
      show Steps p.tables e below (s₁.setTop (mkF m 0 #[.val (.ref a1), .val (.ref ra), .val (.int (0 : Int32)), .val (.int (Int32.ofNat n)), .val .null, .unset] [])) _
      refine XS.aloadN X0.here hx rfl (hb hby d2_0) rfl rfl ?_
      show Steps p.tables e below (s₁.setTop (mkF m 1 #[.val (.ref a1), .val (.ref ra), .val (.int (0 : Int32)), .val (.int (Int32.ofNat n)), .val .null, .unset] [(.ref a1)])) _
      exact h)
  obtain ⟨T144, X144, e144, st144⟩ := initO X0 hx hZ hown (hw _ (List.mem_of_getElem? (i := 12) rfl)) (hw _ (List.mem_of_getElem? (i := 13) rfl)) (hw _ (List.mem_of_getElem? (i := 14) rfl)) e0 (g := (mkF m 1 #[.val (.ref a1), .val (.ref ra), .val (.int (0 : Int32)), .val (.int (Int32.ofNat n)), .val .null, .unset] [(.ref a1)])) rfl (by rw [hml]; rfl) rfl (hb hby d2_1) (by decide) (W := 0) (by show 2 * 0 + _ ≤ _; exact Nat.le_of_eq rfl) (by decide)
  have k146 : Rch p e below S0 T144 (mkF m 4 #[.val (.ref a1), .val (.ref ra), .val (.int (0 : Int32)), .val (.int (Int32.ofNat n)), .val .null, .unset] []) := fun t h => k145 t (st144 t h)
  have k148 : Rch p e below S0 T144 (mkF m 27 #[.val (.ref a1), .val (.ref ra), .val (.int (0 : Int32)), .val (.int (Int32.ofNat n)), .val .null, .unset] []) := fun t h => k146 t (by
      show Steps p.tables e below (T144.setTop (mkF m 4 #[.val (.ref a1), .val (.ref ra), .val (.int (0 : Int32)), .val (.int (Int32.ofNat n)), .val .null, .unset] [])) _
      refine XS.iloadN X144.here hx rfl (hb hby d2_4) rfl ?_
      show Steps p.tables e below (T144.setTop (mkF m 5 #[.val (.ref a1), .val (.ref ra), .val (.int (0 : Int32)), .val (.int (Int32.ofNat n)), .val .null, .unset] [(.int (Int32.ofNat n))])) _
      refine XS.ifYes X144.here hx rfl (pc0 := 5) (pc' := 27) rfl (hb hby d2_5) rfl ((if0 _ _).trans (feq ((fun q => by have := congrArg Int32.toInt q; rw [(own_tn (by omega)).2, show (0 : Int32).toInt = 0 from by decide] at this; omega) : ¬ ((Int32.ofNat n) = (0 : Int32)))).2) (by decide) (by decide) ?_
      show Steps p.tables e below (T144.setTop (mkF m 27 #[.val (.ref a1), .val (.ref ra), .val (.int (0 : Int32)), .val (.int (Int32.ofNat n)), .val .null, .unset] [])) _
      exact h)
  obtain ⟨T147, X147, e147, st147⟩ := getS2 X144 hx hZ hown (host := "") (Or.inl (hw _ (List.mem_of_getElem? (i := 42) rfl))) Via.refl e144 (SC.ext O0.2) (g := (mkF m 27 #[.val (.ref a1), .val (.ref ra), .val (.int (0 : Int32)), .val (.int (Int32.ofNat n)), .val .null, .unset] [])) rfl (hb hby d2_27)
  have k149 : Rch p e below S0 T147 (mkF m 30 #[.val (.ref a1), .val (.ref ra), .val (.int (0 : Int32)), .val (.int (Int32.ofNat n)), .val .null, .unset] [(.int zC)]) := fun t h => k148 t (st147 t h)
  have k150 : Rch p e below S0 T147 (mkF m 36 #[.val (.ref a1), .val (.ref ra), .val (.int (0 : Int32)), .val (.int (Int32.ofNat n)), .val .null, .unset] [(.int (Int32.ofNat n)), (.int (0 : Int32)), (.ref ra)]) := fun t h => k149 t (by
      show Steps p.tables e below (T147.setTop (mkF m 30 #[.val (.ref a1), .val (.ref ra), .val (.int (0 : Int32)), .val (.int (Int32.ofNat n)), .val .null, .unset] [(.int zC)])) _
      refine XS.ifNo X147.here hx rfl (hb hby d2_30) rfl ((if0 _ _).trans (feq (hzC : ¬ (zC = (0 : Int32)))).1) ?_
      show Steps p.tables e below (T147.setTop (mkF m 33 #[.val (.ref a1), .val (.ref ra), .val (.int (0 : Int32)), .val (.int (Int32.ofNat n)), .val .null, .unset] [])) _
      refine XS.aloadN X147.here hx rfl (hb hby d2_33) rfl rfl ?_
      show Steps p.tables e below (T147.setTop (mkF m 34 #[.val (.ref a1), .val (.ref ra), .val (.int (0 : Int32)), .val (.int (Int32.ofNat n)), .val .null, .unset] [(.ref ra)])) _
      refine XS.iloadN X147.here hx rfl (hb hby d2_34) rfl ?_
      show Steps p.tables e below (T147.setTop (mkF m 35 #[.val (.ref a1), .val (.ref ra), .val (.int (0 : Int32)), .val (.int (Int32.ofNat n)), .val .null, .unset] [(.int (0 : Int32)), (.ref ra)])) _
      refine XS.iloadN X147.here hx rfl (hb hby d2_35) rfl ?_
      show Steps p.tables e below (T147.setTop (mkF m 36 #[.val (.ref a1), .val (.ref ra), .val (.int (0 : Int32)), .val (.int (Int32.ofNat n)), .val .null, .unset] [(.int (Int32.ofNat n)), (.int (0 : Int32)), (.ref ra)])) _
      exact h)
  obtain ⟨_, _, ⟨T151, L151, kk151, n151⟩, -, X151, ⟨Lc151, hQ151, l151, y151, z151⟩, st151⟩ := Jvm.LawKit.callS X147 hx (y := (⟨"java/lang/StringUTF16", "compress", "([CII)[B"⟩ : MethodName)) hown (mvT hZ (hw _ (List.mem_of_getElem? (i := 45) rfl))) (mvT hZ (hw _ (List.mem_of_getElem? (i := 46) rfl))) (mvT hZ (hw _ (List.mem_of_getElem? (i := 47) rfl))) (mvT hZ (hw _ (List.mem_of_getElem? (i := 48) rfl))) (by decide) (backOf (W := 0) (rmC3l l Z a0 hw [] ra ka n cs h0 n0 O0 hn hl hlow Va) hZ (hw _ (List.mem_of_getElem? (i := 48) rfl)) (hw _ (List.mem_of_getElem? (i := 47) rfl)) (by decide) (by decide)) (g := (mkF m 36 #[.val (.ref a1), .val (.ref ra), .val (.int (0 : Int32)), .val (.int (Int32.ofNat n)), .val .null, .unset] [(.int (Int32.ofNat n)), (.int (0 : Int32)), (.ref ra)])) rfl (by rw [hml]; rfl) (argsL := [(.ref ra), (.int (0 : Int32)), (.int (Int32.ofNat n))]) (rest := []) (lenOf pd_7 rfl) rfl (by show 2 * 0 + _ ≤ _; exact Nat.le_of_eq rfl) (hb hby d2_36) (fun _ _ => ⟨rfl, e147, (by decide : 0 + 1 ≤ _), (by decide : 0 + 4000 ≤ _)⟩)
  dsimp only [Pt.U, Pt.locs, Pt.cells, Pt.slots] at X151 l151 y151 z151 st151 hQ151
  subst l151 y151 z151
  obtain ⟨b151, kb151, vs151, rfl, Nq151, E151, z151, V151⟩ := hQ151
  have N151 := Fr.app N0 Nq151
  have k152 : Rch p e below S0 T151 (mkF m 39 #[.val (.ref a1), .val (.ref ra), .val (.int (0 : Int32)), .val (.int (Int32.ofNat n)), .val .null, .unset] [(.ref b151)]) := fun t h => k150 t (st151 t h)
  have ne_a1_b151 : a1 ≠ b151 := own_ne E_a1.lt z151
  have ne_ra_b151 : ra ≠ b151 := own_ne Va.lt z151
  have ge_b151 : n0 ≤ b151 := own_ge O0 z151
  have sz_b151 : h0.size ≤ b151 := Nat.le_trans K0.1 z151
  have O153 := O0.ext E151
  have K154 := K0.ext E151
  replace E_a1 := E_a1.ext E151
  replace F_a1_value := F_a1_value.ext E151
  replace F_a1_coder := F_a1_coder.ext E151
  replace Va := Va.ext E151
  have k155 : Rch p e below S0 T151 (mkF m 45 #[.val (.ref a1), .val (.ref ra), .val (.int (0 : Int32)), .val (.int (Int32.ofNat n)), .val .null, .val (.ref b151)] [(.int (Int32.ofNat n)), (.ref b151), (.ref a1)]) := fun t h => k152 t (by
      show Steps p.tables e below (T151.setTop (mkF m 39 #[.val (.ref a1), .val (.ref ra), .val (.int (0 : Int32)), .val (.int (Int32.ofNat n)), .val .null, .unset] [(.ref b151)])) _
      refine XS.astore X151.here hx rfl (hb hby d2_39) rfl rfl (l' := #[.val (.ref a1), .val (.ref ra), .val (.int (0 : Int32)), .val (.int (Int32.ofNat n)), .val .null, .val (.ref b151)]) rfl ?_
      show Steps p.tables e below (T151.setTop (mkF m 41 #[.val (.ref a1), .val (.ref ra), .val (.int (0 : Int32)), .val (.int (Int32.ofNat n)), .val .null, .val (.ref b151)] [])) _
      refine XS.aloadN X151.here hx rfl (hb hby d2_41) rfl rfl ?_
      show Steps p.tables e below (T151.setTop (mkF m 42 #[.val (.ref a1), .val (.ref ra), .val (.int (0 : Int32)), .val (.int (Int32.ofNat n)), .val .null, .val (.ref b151)] [(.ref a1)])) _
      refine XS.aload X151.here hx rfl (hb hby d2_42) rfl rfl ?_
      show Steps p.tables e below (T151.setTop (mkF m 44 #[.val (.ref a1), .val (.ref ra), .val (.int (0 : Int32)), .val (.int (Int32.ofNat n)), .val .null, .val (.ref b151)] [(.ref b151), (.ref a1)])) _
      refine XS.iloadN X151.here hx rfl (hb hby d2_44) rfl ?_
      show Steps p.tables e below (T151.setTop (mkF m 45 #[.val (.ref a1), .val (.ref ra), .val (.int (0 : Int32)), .val (.int (Int32.ofNat n)), .val .null, .val (.ref b151)] [(.int (Int32.ofNat n)), (.ref b151), (.ref a1)])) _
      exact h)
  obtain ⟨_, _, ⟨T156, L156, kk156, n156⟩, -, X156, ⟨Lc156, hQ156, l156, y156, z156⟩, st156⟩ := Jvm.LawKit.callS X151 hx (y := (⟨"java/lang/StringUTF16", "coderFromArrayLen", "([BI)B"⟩ : MethodName)) hown (mvT hZ (hw _ (List.mem_of_getElem? (i := 52) rfl))) (mvT hZ (hw _ (List.mem_of_getElem? (i := 53) rfl))) (mvT hZ (hw _ (List.mem_of_getElem? (i := 47) rfl))) (mvT hZ (hw _ (List.mem_of_getElem? (i := 54) rfl))) (by decide) (backOf (W := 1) (rmCLl l Z a0 hw [] b151 kb151 n vs151 T151.heap n0 O153 hn V151) hZ (hw _ (List.mem_of_getElem? (i := 54) rfl)) (hw _ (List.mem_of_getElem? (i := 47) rfl)) (by decide) (by decide)) (g := (mkF m 45 #[.val (.ref a1), .val (.ref ra), .val (.int (0 : Int32)), .val (.int (Int32.ofNat n)), .val .null, .val (.ref b151)] [(.int (Int32.ofNat n)), (.ref b151), (.ref a1)])) rfl (by rw [hml]; rfl) (argsL := [(.ref b151), (.int (Int32.ofNat n))]) (rest := [(.ref a1)]) (lenOf pd_9 rfl) rfl (by show 2 * 0 + _ ≤ _; exact Nat.le_of_eq rfl) (hb hby d2_45) (fun _ _ => ⟨rfl, rfl, (by decide : 1 + 0 ≤ _), (by decide : 4000 + 0 ≤ _)⟩)
  dsimp only [Pt.U, Pt.locs, Pt.cells, Pt.slots] at X156 l156 y156 z156 st156 hQ156
  subst l156 y156 z156
  obtain ⟨rfl, Nq156, hh156⟩ := hQ156
  have N156 := Fr.app N151 Nq156
  have k157 : Rch p e below S0 T156 (mkF m 48 #[.val (.ref a1), .val (.ref ra), .val (.int (0 : Int32)), .val (.int (Int32.ofNat n)), .val .null, .val (.ref b151)] [(.int (0 : Int32)), (.ref a1)]) := fun t h => k155 t (st156 t h)
  obtain ⟨T158, h158, X158, e158, W158, st158⟩ := putFN X156 hx hZ hown (hw _ (List.mem_of_getElem? (i := 22) rfl)) Via.refl hh156 F_a1_coder E_a1 (Or.inr ⟨(hw _ (List.mem_of_getElem? (i := 18) rfl)), rfl, hnm⟩) (hw _ (List.mem_of_getElem? (i := 3) rfl)) (ty := .byte) (v' := (.int (0 : Int32))) (by decide) (by decide) (by decide) (g := (mkF m 48 #[.val (.ref a1), .val (.ref ra), .val (.int (0 : Int32)), .val (.int (Int32.ofNat n)), .val .null, .val (.ref b151)] [(.int (0 : Int32)), (.ref a1)])) rfl rfl (hb hby d2_48)
  have k159 : Rch p e below S0 T158 (mkF m 51 #[.val (.ref a1), .val (.ref ra), .val (.int (0 : Int32)), .val (.int (Int32.ofNat n)), .val .null, .val (.ref b151)] []) := fun t h => k157 t (st158 t h)
  have N158 := Fr.snoc X158 N156 ge_a1
  replace F_a1_coder := F_a1_coder.same W158
  have O160 := O153.wr W158 ge_a1
  have K161 := K154.wr W158 (Or.inl (List.mem_of_getElem? (i := 0) rfl))
  replace E_a1 := E_a1.wr W158
  replace F_a1_value := F_a1_value.other W158 (Or.inr (slot_ne (Or.inr (hw _ (List.mem_of_getElem? (i := 17) rfl))) (Or.inr (hw _ (List.mem_of_getElem? (i := 18) rfl))) (by decide) (t := (.array .byte)) (t' := .byte) (by decide) (by decide)))
  replace Va := Va.other W158 ne_ra_a1
  replace V151 := V151.other W158 (Ne.symm ne_a1_b151)
  have k163 : Rch p e below S0 T158 (mkF m 54 #[.val (.ref a1), .val (.ref ra), .val (.int (0 : Int32)), .val (.int (Int32.ofNat n)), .val .null, .val (.ref b151)] [(.ref b151), (.ref a1)]) := fun t h => k159 t (by
      show Steps p.tables e below (T158.setTop (mkF m 51 #[.val (.ref a1), .val (.ref ra), .val (.int (0 : Int32)), .val (.int (Int32.ofNat n)), .val .null, .val (.ref b151)] [])) _
      refine XS.aloadN X158.here hx rfl (hb hby d2_51) rfl rfl ?_
      show Steps p.tables e below (T158.setTop (mkF m 52 #[.val (.ref a1), .val (.ref ra), .val (.int (0 : Int32)), .val (.int (Int32.ofNat n)), .val .null, .val (.ref b151)] [(.ref a1)])) _
      refine XS.aload X158.here hx rfl (hb hby d2_52) rfl rfl ?_
      show Steps p.tables e below (T158.setTop (mkF m 54 #[.val (.ref a1), .val (.ref ra), .val (.int (0 : Int32)), .val (.int (Int32.ofNat n)), .val .null, .val (.ref b151)] [(.ref b151), (.ref a1)])) _
      exact h)
  obtain ⟨T162, h162, X162, e162, W162, st162⟩ := putF X158 hx hZ hown (host := "") (Or.inl (hw _ (List.mem_of_getElem? (i := 21) rfl))) Via.refl e158 F_a1_value E_a1 (Or.inr ⟨(hw _ (List.mem_of_getElem? (i := 17) rfl)), rfl, hnm⟩) (hw _ (List.mem_of_getElem? (i := 3) rfl)) (ty := (.array .byte)) (by decide) rfl rfl (g := (mkF m 54 #[.val (.ref a1), .val (.ref ra), .val (.int (0 : Int32)), .val (.int (Int32.ofNat n)), .val .null, .val (.ref b151)] [(.ref b151), (.ref a1)])) rfl rfl (hb hby d2_54)
  have k164 : Rch p e below S0 T162 (mkF m 57 #[.val (.ref a1), .val (.ref ra), .val (.int (0 : Int32)), .val (.int (Int32.ofNat n)), .val .null, .val (.ref b151)] []) := fun t h => k163 t (st162 t h)
  have N162 := Fr.snoc X162 N158 ge_a1
  replace F_a1_value := F_a1_value.same W162
  have O165 := O160.wr W162 ge_a1
  have K166 := K161.wr W162 (Or.inl (List.mem_of_getElem? (i := 0) rfl))
  replace E_a1 := E_a1.wr W162
  replace F_a1_coder := F_a1_coder.other W162 (Or.inr (slot_ne (Or.inr (hw _ (List.mem_of_getElem? (i := 18) rfl))) (Or.inr (hw _ (List.mem_of_getElem? (i := 17) rfl))) (by decide) (t := .byte) (t' := (.array .byte)) (by decide) (by decide)))
  replace Va := Va.other W162 ne_ra_a1
  replace V151 := V151.other W162 (Ne.symm ne_a1_b151)
  obtain ⟨fs, hr, hrun, hended, hW, hsame⟩ := X162.leave (v := none) (fun _ => rfl)
  refine ⟨_, _, ?_, hrun, hended, _, _, rfl, ?_, ⟨_, rfl⟩, hW, hsame.mono (by decide) (by decide)⟩
  · rw [← hS0]
    refine k164 _ ?_
    show Steps p.tables e below (T162.setTop (mkF m 57 #[.val (.ref a1), .val (.ref ra), .val (.int (0 : Int32)), .val (.int (Int32.ofNat n)), .val .null, .val (.ref b151)] [])) _
    exact X162.returnOut hx Bd.returns (hb hby d2_57) hr
  · show Q_rmL4 Z a1 n h0 n0 _ T162.heap _
    rw [e162]
    exact ⟨rfl, N162, K166, _, _, _, F_a1_value, F_a1_coder, V151⟩
def Q_rmL1 (Z : State) (a1 : Addr) (n : Nat) (h0 : Heap) (n0 : Nat) (v : Option Value) (h : Heap) (L : List Loc) : Prop := v = none ∧ Fr n0 L ∧ Keep h0 h [a1] ∧ ∃ t kt vs, Fld Z h a1 "java/lang/String" "value" "[B" (.ref t) ∧ Fld Z h a1 "java/lang/String" "coder" "B" (.int (0 : Int32)) ∧ Arv Z h t kt .byte (Int32.ofNat n) vs (.int (0 : Int32))
set_option maxRecDepth 65536 in
set_option maxHeartbeats 40000000 in
theorem rmL1 (l : Launch) (Z : State) (a0 : Array Value) (hw : ∀ d ∈ tables_1, d.before a0 Z = true) (ws : List Jvm.Cond) (a1 : Addr) (ra : Addr) (ka : ClassId) (n : Nat) (cs : List Int32) (zC : Int32) (h0 : Heap) (n0 : Nat) (O0 : Old Z n0 h0) (SC : Sta Z Z.heap "java/lang/String" "COMPACT_STRINGS" "Z" (.int zC)) (hzC : ¬ zC = 0) (hn : n ≤ 4000) (hl : cs.length = n) (hlow : ∀ i, i < n → ¬ (255 : Int32) < cs.getD i 0) (h1 : 0 < n) (ge_a1 : n0 ≤ a1) (E_a1 : Exa Z h0 a1 "java/lang/String") (F_a1_value : Fld Z h0 a1 "java/lang/String" "value" "[B" .null) (F_a1_coder : Fld Z h0 a1 "java/lang/String" "coder" "B" (.int (0 : Int32))) (ne_ra_a1 : ra ≠ a1) (Va : Arv Z h0 ra ka .char (Int32.ofNat n) (cs.map Value.int) (.int (0 : Int32))) :
    MetFree l (⟨"java/lang/String", "<init>", "([C)V"⟩ : MethodName) (head1 (Jvm.Cond.code (⟨"java/lang/String", "<init>", "([C)V"⟩ : MethodName) jdk_42_method_3_code 2 none :: ws) ({ frames := 5, cells := 1, slots := 4000, locals := 170 } : Room)) (fun a U => a = #[(.ref a1), (.ref ra)] ∧ Z.Warmed39 U.vm ∧ U.heap = h0) (fun _ _ _ _ _ => True) (fun _ U o U' => ∃ v L, o = .returned v ∧ Q_rmL1 Z a1 n h0 n0 v U'.heap L ∧ FrameEnd U o U' L ({ frames := 5, cells := 1, slots := 4000, locals := 170 } : Room).cells ({ frames := 5, cells := 1, slots := 4000, locals := 170 } : Room).slots) := by
  refine MetFree.of_bodySF (plainFor_of_name pn_String) hisR ?_
  intro p e s m args below meth c s₁ Bd hml0 hP hK
  obtain ⟨rfl, hZ, hh⟩ := hP
  have hx := Bd.exec
  have hby := Bd.bytes
  have hml : c.maxLocals = 2 := hml0
  have hown : s.vm.findClass "java/lang/String" = some m.cls := findClass_of_methodNamed Bd.named
  have hnm := (name_of_methodNamed Bd.named Bd.method).1
  have X0 : Stand p l e ({ frames := 5, cells := 1, slots := 4000, locals := 170 } : Room) s m #[(.ref a1), (.ref ra)] below meth c s₁ [] 0 0 := Stand.of_body Bd
  have e0 : s₁.heap = h0 := by rw [← hh, Bd.state]; rfl
  have N0 := Fr.nil n0
  obtain ⟨S0, hS0⟩ : ∃ z, z = s₁.setTop (entryFrame m #[(.ref a1), (.ref ra)] 2) := ⟨_, rfl⟩
  have k0 : Rch p e below S0 s₁ (mkF m 0 #[.val (.ref a1), .val (.ref ra)] []) := fun t kq => hS0 ▸ castTop (ef_1 m a1 ra) kq
  have K0 : Keep h0 h0 [a1] := Keep.refl h0 _
  have k168 : Rch p e below S0 s₁ (mkF m 4 #[.val (.ref a1), .val (.ref ra)] [(.ref ra), (.int (0 : Int32)), (.ref ra), (.ref a1)]) := fun t h => k0 t (by
      show Steps p.tables e below (s₁.setTop (mkF m 0 #[.val (.ref a1), .val (.ref ra)] [])) _
      refine XS.aloadN X0.here hx rfl (hb hby d1_0) rfl rfl ?_
      show Steps p.tables e below (s₁.setTop (mkF m 1 #[.val (.ref a1), .val (.ref ra)] [(.ref a1)])) _
      refine XS.aloadN X0.here hx rfl (hb hby d1_1) rfl rfl ?_
      show Steps p.tables e below (s₁.setTop (mkF m 2 #[.val (.ref a1), .val (.ref ra)] [(.ref ra), (.ref a1)])) _
      refine XS.iconst X0.here hx rfl (hb hby d1_2) ?_
      show Steps p.tables e below (s₁.setTop (mkF m 3 #[.val (.ref a1), .val (.ref ra)] [(.int (0 : Int32)), (.ref ra), (.ref a1)])) _
      refine XS.aloadN X0.here hx rfl (hb hby d1_3) rfl rfl ?_
      show Steps p.tables e below (s₁.setTop (mkF m 4 #[.val (.ref a1), .val (.ref ra)] [(.ref ra), (.int (0 : Int32)), (.ref ra), (.ref a1)])) _
      exact h)
  obtain ⟨cl167, Ar167, q167, Sz167, Ng167, Hs167, G167⟩ := id Va
  have k169 : Rch p e below S0 s₁ (mkF m 6 #[.val (.ref a1), .val (.ref ra)] [.null, (.int (Int32.ofNat n)), (.int (0 : Int32)), (.ref ra), (.ref a1)]) := fun t h => k168 t (by
      show Steps p.tables e below (s₁.setTop (mkF m 4 #[.val (.ref a1), .val (.ref ra)] [(.ref ra), (.int (0 : Int32)), (.ref ra), (.ref a1)])) _
      refine X0.arraylength hx (by rw [e0]; exact Ar167.1) (State.isArrayOf_alike hZ.alike Ar167.2.1) (g := (mkF m 4 #[.val (.ref a1), .val (.ref ra)] [(.ref ra), (.int (0 : Int32)), (.ref ra), (.ref a1)])) rfl rfl (hb hby d1_4) _ ?_
      rw [len_of Sz167 Ng167]
      show Steps p.tables e below (s₁.setTop (mkF m 5 #[.val (.ref a1), .val (.ref ra)] [(.int (Int32.ofNat n)), (.int (0 : Int32)), (.ref ra), (.ref a1)])) _
      refine XS.aconstNull X0.here hx rfl (hb hby d1_5) ?_
      show Steps p.tables e below (s₁.setTop (mkF m 6 #[.val (.ref a1), .val (.ref ra)] [.null, (.int (Int32.ofNat n)), (.int (0 : Int32)), (.ref ra), (.ref a1)])) _
      exact h)
  obtain ⟨_, _, ⟨T170, L170, kk170, n170⟩, -, X170, ⟨Lc170, hQ170, l170, y170, z170⟩, st170⟩ := X0.specialBack hx (y := (⟨"java/lang/String", "<init>", "([CIILjava/lang/Void;)V"⟩ : MethodName)) rfl hown (mvT hZ (hw _ (List.mem_of_getElem? (i := 8) rfl))) (mvT hZ (hw _ (List.mem_of_getElem? (i := 9) rfl))) (mvT hZ (hw _ (List.mem_of_getElem? (i := 11) rfl))) (by decide) (backOf (W := 0) (rmL4 l Z a0 hw [] a1 ra ka n cs zC h0 n0 O0 SC hzC hn hl hlow h1 ge_a1 E_a1 F_a1_value F_a1_coder ne_ra_a1 Va) hZ (hw _ (List.mem_of_getElem? (i := 11) rfl)) (hw _ (List.mem_of_getElem? (i := 4) rfl)) (by decide) (by decide)) (g := (mkF m 6 #[.val (.ref a1), .val (.ref ra)] [.null, (.int (Int32.ofNat n)), (.int (0 : Int32)), (.ref ra), (.ref a1)])) rfl (by rw [hml]; rfl) (Steps.refl _) (a := a1) (argsL := [(.ref ra), (.int (0 : Int32)), (.int (Int32.ofNat n)), .null]) (rest := []) (lenOf pd_1 rfl) rfl (by show 2 * 0 + _ ≤ _; exact Nat.le_of_eq rfl) (hb hby d1_6) (fun _ _ => ⟨rfl, e0, (by decide : 0 + 1 ≤ _), (by decide : 0 + 4000 ≤ _)⟩)
  dsimp only [Pt.U, Pt.locs, Pt.cells, Pt.slots] at X170 l170 y170 z170 st170 hQ170
  subst l170 y170 z170
  obtain ⟨rfl, Nq170, K170, t170, kt170, vs170, Fv170, Fc170, At170⟩ := hQ170
  have N170 := Fr.app N0 Nq170
  have k171 : Rch p e below S0 T170 (mkF m 9 #[.val (.ref a1), .val (.ref ra)] []) := fun t h => k169 t (st170.trans h)
  have O172 := O0.keep K170 (allS ge_a1 all0)
  have K173 := K0.trans K170 (allS (Or.inl (List.mem_of_getElem? (i := 0) rfl)) all0)
  replace E_a1 := E_a1.keep K170
  replace Va := Va.keep K170 (ninS ne_ra_a1 nin0)
  obtain ⟨fs, hr, hrun, hended, hW, hsame⟩ := X170.leave (v := none) (fun _ => rfl)
  refine ⟨_, _, ?_, hrun, hended, _, _, rfl, ?_, ⟨_, rfl⟩, hW, hsame.mono (by decide) (by decide)⟩
  · rw [← hS0]
    refine k171 _ ?_
    show Steps p.tables e below (T170.setTop (mkF m 9 #[.val (.ref a1), .val (.ref ra)] [])) _
    exact X170.returnOut hx Bd.returns (hb hby d1_9) hr
  · show Q_rmL1 Z a1 n h0 n0 _ T170.heap _
    exact ⟨rfl, N170, K173, _, _, _, Fv170, Fc170, At170⟩
def Q_rmS4 (Z : State) (a1 : Addr) (h0 : Heap) (n0 : Nat) (v : Option Value) (h : Heap) (L : List Loc) : Prop := v = none ∧ Fr n0 L ∧ Keep h0 h [a1] ∧ ∃ t kt, Fld Z h a1 "java/lang/String" "value" "[B" (.ref t) ∧ Fld Z h a1 "java/lang/String" "coder" "B" (.int (0 : Int32)) ∧ Arv Z h t kt .byte (0 : Int32) [] (.int (0 : Int32))
theorem d2_8 : decode jdk_42_method_149_code 8 = .ok (.aload_n 0, 1) := by decide +kernel
theorem d2_9 : decode jdk_42_method_149_code 9 = .ok (.ldc 7, 2) := by decide +kernel
theorem d2_11 : decode jdk_42_method_149_code 11 = .ok (.getfield 9, 3) := by decide +kernel
theorem d2_14 : decode jdk_42_method_149_code 14 = .ok (.putfield 9, 3) := by decide +kernel
theorem d2_17 : decode jdk_42_method_149_code 17 = .ok (.aload_n 0, 1) := by decide +kernel
theorem d2_18 : decode jdk_42_method_149_code 18 = .ok (.ldc 7, 2) := by decide +kernel
theorem d2_20 : decode jdk_42_method_149_code 20 = .ok (.getfield 15, 3) := by decide +kernel
theorem d2_23 : decode jdk_42_method_149_code 23 = .ok (.putfield 15, 3) := by decide +kernel
theorem d2_26 : decode jdk_42_method_149_code 26 = .ok (.return_, 1) := by decide +kernel
set_option maxRecDepth 65536 in
set_option maxHeartbeats 40000000 in
theorem rmS4 (l : Launch) (Z : State) (a0 : Array Value) (hw : ∀ d ∈ tables_1, d.before a0 Z = true) (ws : List Jvm.Cond) (a1 : Addr) (a2 : Addr) (h0 : Heap) (n0 : Nat) (O0 : Old Z n0 h0) (ge_a1 : n0 ≤ a1) (E_a1 : Exa Z h0 a1 "java/lang/String") (F_a1_value : Fld Z h0 a1 "java/lang/String" "value" "[B" .null) (F_a1_coder : Fld Z h0 a1 "java/lang/String" "coder" "B" (.int (0 : Int32))) :
    MetFree l (⟨"java/lang/String", "<init>", "([CIILjava/lang/Void;)V"⟩ : MethodName) (head1 (Jvm.Cond.code (⟨"java/lang/String", "<init>", "([CIILjava/lang/Void;)V"⟩ : MethodName) jdk_42_method_149_code 6 none :: ws) ({ frames := 1, cells := 4, slots := 8, locals := 24 } : Room)) (fun a U => a = #[(.ref a1), (.ref a2), (.int (0 : Int32)), (.int (0 : Int32)), .null] ∧ Z.Warmed39 U.vm ∧ U.heap = h0 ∧ CHv Z consts_1 U.vm h0) (fun _ _ _ _ _ => True) (fun _ U o U' => ∃ v L, o = .returned v ∧ Q_rmS4 Z a1 h0 n0 v U'.heap L ∧ CHr Z consts_1 U.vm U.heap U'.vm U'.heap ∧ ReturnedEndW U o U' L ({ frames := 1, cells := 4, slots := 8, locals := 24 } : Room).cells ({ frames := 1, cells := 4, slots := 8, locals := 24 } : Room).slots) := by
  refine MetFree.of_bodySF (plainFor_of_name pn_String) hisR ?_
  intro p e s m args below meth c s₁ Bd hml0 hP hK
  obtain ⟨rfl, hZ, hh, hC0⟩ := hP
  have hx := Bd.exec
  have hby := Bd.bytes
  have hml : c.maxLocals = 6 := hml0
  have hown : s.vm.findClass "java/lang/String" = some m.cls := findClass_of_methodNamed Bd.named
  have hnm := (name_of_methodNamed Bd.named Bd.method).1
  have X0 : Stand p l e ({ frames := 1, cells := 4, slots := 8, locals := 24 } : Room) (s.setVm s.vm) m #[(.ref a1), (.ref a2), (.int (0 : Int32)), (.int (0 : Int32)), .null] below meth c s₁ [] 0 0 := Stand.of_body Bd
  have e0 : s₁.heap = h0 := by rw [← hh, Bd.state]; rfl
  have N0 := Fr.nil n0
  obtain ⟨S0, hS0⟩ : ∃ z, z = s₁.setTop (entryFrame m #[(.ref a1), (.ref a2), (.int (0 : Int32)), (.int (0 : Int32)), .null] 6) := ⟨_, rfl⟩
  have k0 : Rch p e below S0 s₁ (mkF m 0 #[.val (.ref a1), .val (.ref a2), .val (.int (0 : Int32)), .val (.int (0 : Int32)), .val .null, .unset] []) := fun t kq => hS0 ▸ castTop (ef_2n m a1 a2 (0 : Int32) (0 : Int32)) kq
  have K0 : Keep h0 h0 [a1] := Keep.refl h0 _
  have hS : s.Since s.vm s.heap.size := (State.WarmedH.refl s).since _
  have hk : s.heap.size ≤ h0.size := by rw [← hh]; exact Nat.le_refl _
  have hwS : ∀ d ∈ Bundle.stringAtoms, d.before a0 Z = true := fun d hd => hw d ((by decide +kernel : ∀ d ∈ Bundle.stringAtoms, d ∈ tables_1) d hd)
  have rC0 : CHr Z consts_1 s.vm h0 s.vm h0 := CHr.refl hC0
  have hEL : EW Z a0 consts_1 := (EW.cons (hw _ (List.mem_of_getElem? (i := 27) rfl)) (by decide +kernel) (EW.cons (hw _ (List.mem_of_getElem? (i := 15) rfl)) (by decide +kernel) EW.nil))
  have sf_a1 : Safe Z consts_1 s.vm h0 a1 := own_safe_null hZ.alike E_a1 F_a1_value (hw _ (List.mem_of_getElem? (i := 3) rfl))
  have k175 : Rch p e below S0 s₁ (mkF m 1 #[.val (.ref a1), .val (.ref a2), .val (.int (0 : Int32)), .val (.int (0 : Int32)), .val .null, .unset] [(.ref a1)]) := fun t h => k0 t (by
      show Steps p.tables e below (s₁.setTop (mkF m 0 #[.val (.ref a1), .val (.ref a2), .val (.int (0 : Int32)), .val (.int (0 : Int32)), .val .null, .unset] [])) _
      refine XS.aloadN X0.here hx rfl (hb hby d2_0) rfl rfl ?_
      show Steps p.tables e below (s₁.setTop (mkF m 1 #[.val (.ref a1), .val (.ref a2), .val (.int (0 : Int32)), .val (.int (0 : Int32)), .val .null, .unset] [(.ref a1)])) _
      exact h)
  obtain ⟨T174, X174, e174, st174⟩ := initO X0 hx hZ hown (hw _ (List.mem_of_getElem? (i := 12) rfl)) (hw _ (List.mem_of_getElem? (i := 13) rfl)) (hw _ (List.mem_of_getElem? (i := 14) rfl)) e0 (g := (mkF m 1 #[.val (.ref a1), .val (.ref a2), .val (.int (0 : Int32)), .val (.int (0 : Int32)), .val .null, .unset] [(.ref a1)])) rfl (by rw [hml]; rfl) rfl (hb hby d2_1) (by decide) (W := 0) (by show 2 * 0 + _ ≤ _; exact Nat.le_of_eq rfl) (by decide)
  have k176 : Rch p e below S0 T174 (mkF m 4 #[.val (.ref a1), .val (.ref a2), .val (.int (0 : Int32)), .val (.int (0 : Int32)), .val .null, .unset] []) := fun t h => k175 t (st174 t h)
  have k177 : Rch p e below S0 T174 (mkF m 9 #[.val (.ref a1), .val (.ref a2), .val (.int (0 : Int32)), .val (.int (0 : Int32)), .val .null, .unset] [(.ref a1)]) := fun t h => k176 t (by
      show Steps p.tables e below (T174.setTop (mkF m 4 #[.val (.ref a1), .val (.ref a2), .val (.int (0 : Int32)), .val (.int (0 : Int32)), .val .null, .unset] [])) _
      refine XS.iloadN X174.here hx rfl (hb hby d2_4) rfl ?_
      show Steps p.tables e below (T174.setTop (mkF m 5 #[.val (.ref a1), .val (.ref a2), .val (.int (0 : Int32)), .val (.int (0 : Int32)), .val .null, .unset] [(.int (0 : Int32))])) _
      refine XS.ifNo X174.here hx rfl (hb hby d2_5) rfl ((if0 _ _).trans (teq (by decide : (0 : Int32) = (0 : Int32))).2) ?_
      show Steps p.tables e below (T174.setTop (mkF m 8 #[.val (.ref a1), .val (.ref a2), .val (.int (0 : Int32)), .val (.int (0 : Int32)), .val .null, .unset] [])) _
      refine XS.aloadN X174.here hx rfl (hb hby d2_8) rfl rfl ?_
      show Steps p.tables e below (T174.setTop (mkF m 9 #[.val (.ref a1), .val (.ref a2), .val (.int (0 : Int32)), .val (.int (0 : Int32)), .val .null, .unset] [(.ref a1)])) _
      exact h)
  obtain ⟨a178, T178, h178, kk178, t178, kt178, X178, e178, E178, hS178, hk178, hZ178, hown178, Ea178, Ca178, Va178, At178, la178, lt178, hR178, hL178, sfa178, st178⟩ := ldcCH X174 hx hZ hown (hw _ (List.mem_of_getElem? (i := 15) rfl)) hwS e174 hS hk hEL (by decide +kernel) hC0 (vs := []) (z := (0 : Int32)) ⟨by decide +kernel, by decide +kernel⟩ (by decide) (by decide) (g := (mkF m 9 #[.val (.ref a1), .val (.ref a2), .val (.int (0 : Int32)), .val (.int (0 : Int32)), .val .null, .unset] [(.ref a1)])) rfl (hb hby d2_9) (n := 0) (by decide +kernel) (by decide) (by decide) (by decide)
  have k179 : Rch p e below S0 T178 (mkF m 11 #[.val (.ref a1), .val (.ref a2), .val (.int (0 : Int32)), .val (.int (0 : Int32)), .val .null, .unset] [(.ref a178), (.ref a1)]) := fun t h => k177 t (st178 t h)
  replace sf_a1 := hR178.safe E_a1.lt sf_a1
  have hC180 := hR178.1
  have rC180 := rC0.trans hR178
  have O181 := O0.ext E178
  have K182 := K0.ext E178
  replace E_a1 := E_a1.ext E178
  replace F_a1_value := F_a1_value.ext E178
  replace F_a1_coder := F_a1_coder.ext E178
  have ne_a1_a178 : a1 ≠ a178 := (sfa178 a1 sf_a1).1
  have ne_a1_t178 : a1 ≠ t178 := (sfa178 a1 sf_a1).2
  obtain ⟨T183, X183, e183, st183⟩ := getF X178 hx hZ178 hown178 (host := "") (Or.inl (hw _ (List.mem_of_getElem? (i := 21) rfl))) Via.refl e178 Va178 (g := (mkF m 11 #[.val (.ref a1), .val (.ref a2), .val (.int (0 : Int32)), .val (.int (0 : Int32)), .val .null, .unset] [(.ref a178), (.ref a1)])) rfl rfl (hb hby d2_11)
  have k184 : Rch p e below S0 T183 (mkF m 14 #[.val (.ref a1), .val (.ref a2), .val (.int (0 : Int32)), .val (.int (0 : Int32)), .val .null, .unset] [(.ref t178), (.ref a1)]) := fun t h => k179 t (st183 t h)
  obtain ⟨T185, h185, X185, e185, W185, st185⟩ := putF X183 hx hZ178 hown178 (host := "") (Or.inl (hw _ (List.mem_of_getElem? (i := 21) rfl))) Via.refl e183 F_a1_value E_a1 (Or.inr ⟨(hw _ (List.mem_of_getElem? (i := 17) rfl)), rfl, hnm⟩) (hw _ (List.mem_of_getElem? (i := 3) rfl)) (ty := (.array .byte)) (by decide) rfl rfl (g := (mkF m 14 #[.val (.ref a1), .val (.ref a2), .val (.int (0 : Int32)), .val (.int (0 : Int32)), .val .null, .unset] [(.ref t178), (.ref a1)])) rfl rfl (hb hby d2_14)
  have k186 : Rch p e below S0 T185 (mkF m 17 #[.val (.ref a1), .val (.ref a2), .val (.int (0 : Int32)), .val (.int (0 : Int32)), .val .null, .unset] []) := fun t h => k184 t (st185 t h)
  have N185 := Fr.snoc X185 N0 ge_a1
  replace F_a1_value := F_a1_value.same W185
  have hC187 := hC180.wr W185 sf_a1
  have rC187 := rC180.trans (CHr.wr W185 sf_a1 hC180)
  replace sf_a1 := Safe.wr W185 sf_a1 hC180 sf_a1
  have O188 := O181.wr W185 ge_a1
  have K189 := K182.wr W185 (Or.inl (List.mem_of_getElem? (i := 0) rfl))
  replace E_a1 := E_a1.wr W185
  replace F_a1_coder := F_a1_coder.other W185 (Or.inr (slot_ne (Or.inr (hw _ (List.mem_of_getElem? (i := 18) rfl))) (Or.inr (hw _ (List.mem_of_getElem? (i := 17) rfl))) (by decide) (t := .byte) (t' := (.array .byte)) (by decide) (by decide)))
  replace Ea178 := Ea178.wr W185
  replace Ca178 := Ca178.other W185 (Or.inl (Ne.symm ne_a1_a178))
  replace Va178 := Va178.other W185 (Or.inl (Ne.symm ne_a1_a178))
  replace At178 := At178.other W185 (Ne.symm ne_a1_t178)
  have hkk190 := Nat.le_trans hk178 (Keep.of_wr W185).1
  have k191 : Rch p e below S0 T185 (mkF m 18 #[.val (.ref a1), .val (.ref a2), .val (.int (0 : Int32)), .val (.int (0 : Int32)), .val .null, .unset] [(.ref a1)]) := fun t h => k186 t (by
      show Steps p.tables e below (T185.setTop (mkF m 17 #[.val (.ref a1), .val (.ref a2), .val (.int (0 : Int32)), .val (.int (0 : Int32)), .val .null, .unset] [])) _
      refine XS.aloadN X185.here hx rfl (hb hby d2_17) rfl rfl ?_
      show Steps p.tables e below (T185.setTop (mkF m 18 #[.val (.ref a1), .val (.ref a2), .val (.int (0 : Int32)), .val (.int (0 : Int32)), .val .null, .unset] [(.ref a1)])) _
      exact h)
  obtain ⟨a192, T192, h192, kk192, t192, kt192, X192, e192, E192, hS192, hk192, hZ192, hown192, Ea192, Ca192, Va192, At192, la192, lt192, hR192, hL192, sfa192, st192⟩ := ldcCH X185 hx hZ178 hown178 (hw _ (List.mem_of_getElem? (i := 15) rfl)) hwS e185 hS178 hkk190 hEL (by decide +kernel) hC187 (vs := []) (z := (0 : Int32)) ⟨by decide +kernel, by decide +kernel⟩ (by decide) (by decide) (g := (mkF m 18 #[.val (.ref a1), .val (.ref a2), .val (.int (0 : Int32)), .val (.int (0 : Int32)), .val .null, .unset] [(.ref a1)])) rfl (hb hby d2_18) (n := 0) (by decide +kernel) (by decide) (by decide) (by decide)
  have k193 : Rch p e below S0 T192 (mkF m 20 #[.val (.ref a1), .val (.ref a2), .val (.int (0 : Int32)), .val (.int (0 : Int32)), .val .null, .unset] [(.ref a192), (.ref a1)]) := fun t h => k191 t (st192 t h)
  replace sf_a1 := hR192.safe E_a1.lt sf_a1
  have hC194 := hR192.1
  have rC194 := rC187.trans hR192
  have O195 := O188.ext E192
  have K196 := K189.ext E192
  replace E_a1 := E_a1.ext E192
  replace F_a1_coder := F_a1_coder.ext E192
  replace F_a1_value := F_a1_value.ext E192
  replace Ea178 := Ea178.ext E192
  replace Ca178 := Ca178.ext E192
  replace Va178 := Va178.ext E192
  replace At178 := At178.ext E192
  have ne_a1_a192 : a1 ≠ a192 := (sfa192 a1 sf_a1).1
  have ne_a1_t192 : a1 ≠ t192 := (sfa192 a1 sf_a1).2
  obtain ⟨T197, X197, e197, st197⟩ := getF X192 hx hZ192 hown192 (host := "") (Or.inl (hw _ (List.mem_of_getElem? (i := 22) rfl))) Via.refl e192 Ca192 (g := (mkF m 20 #[.val (.ref a1), .val (.ref a2), .val (.int (0 : Int32)), .val (.int (0 : Int32)), .val .null, .unset] [(.ref a192), (.ref a1)])) rfl rfl (hb hby d2_20)
  have k198 : Rch p e below S0 T197 (mkF m 23 #[.val (.ref a1), .val (.ref a2), .val (.int (0 : Int32)), .val (.int (0 : Int32)), .val .null, .unset] [(.int (0 : Int32)), (.ref a1)]) := fun t h => k193 t (st197 t h)
  obtain ⟨T199, h199, X199, e199, W199, st199⟩ := putFN X197 hx hZ192 hown192 (hw _ (List.mem_of_getElem? (i := 22) rfl)) Via.refl e197 F_a1_coder E_a1 (Or.inr ⟨(hw _ (List.mem_of_getElem? (i := 18) rfl)), rfl, hnm⟩) (hw _ (List.mem_of_getElem? (i := 3) rfl)) (ty := .byte) (v' := (.int (0 : Int32))) (by decide) (by decide) (by decide) (g := (mkF m 23 #[.val (.ref a1), .val (.ref a2), .val (.int (0 : Int32)), .val (.int (0 : Int32)), .val .null, .unset] [(.int (0 : Int32)), (.ref a1)])) rfl rfl (hb hby d2_23)
  have k200 : Rch p e below S0 T199 (mkF m 26 #[.val (.ref a1), .val (.ref a2), .val (.int (0 : Int32)), .val (.int (0 : Int32)), .val .null, .unset] []) := fun t h => k198 t (st199 t h)
  have N199 := Fr.snoc X199 N185 ge_a1
  replace F_a1_coder := F_a1_coder.same W199
  have hC201 := hC194.wr W199 sf_a1
  have rC201 := rC194.trans (CHr.wr W199 sf_a1 hC194)
  replace sf_a1 := Safe.wr W199 sf_a1 hC194 sf_a1
  have O202 := O195.wr W199 ge_a1
  have K203 := K196.wr W199 (Or.inl (List.mem_of_getElem? (i := 0) rfl))
  replace E_a1 := E_a1.wr W199
  replace F_a1_value := F_a1_value.other W199 (Or.inr (slot_ne (Or.inr (hw _ (List.mem_of_getElem? (i := 17) rfl))) (Or.inr (hw _ (List.mem_of_getElem? (i := 18) rfl))) (by decide) (t := (.array .byte)) (t' := .byte) (by decide) (by decide)))
  replace Ea178 := Ea178.wr W199
  replace Ca178 := Ca178.other W199 (Or.inl (Ne.symm ne_a1_a178))
  replace Va178 := Va178.other W199 (Or.inl (Ne.symm ne_a1_a178))
  replace At178 := At178.other W199 (Ne.symm ne_a1_t178)
  replace Ea192 := Ea192.wr W199
  replace Ca192 := Ca192.other W199 (Or.inl (Ne.symm ne_a1_a192))
  replace Va192 := Va192.other W199 (Or.inl (Ne.symm ne_a1_a192))
  replace At192 := At192.other W199 (Ne.symm ne_a1_t192)
  have hkk204 := Nat.le_trans hk192 (Keep.of_wr W199).1
  obtain ⟨fs, hr, hrun, hended, hfin⟩ := X199.leaveW hS192 (by rw [e199]; exact hkk204) (v := none) (fun _ => rfl)
  refine ⟨_, _, ?_, hrun, hended, _, _, rfl, ?_, (by rw [hh]; have q := own_chr rC201 (CHv.at X199 hZ192 hEL hC201) e199; exact q), hfin.1, hfin.2.1, hfin.2.2.1, hfin.2.2.2.mono (by decide) (by decide)⟩
  · rw [← hS0]
    refine k200 _ ?_
    show Steps p.tables e below (T199.setTop (mkF m 26 #[.val (.ref a1), .val (.ref a2), .val (.int (0 : Int32)), .val (.int (0 : Int32)), .val .null, .unset] [])) _
    exact X199.returnOut hx Bd.returns (hb hby d2_26) hr
  · show Q_rmS4 Z a1 h0 n0 _ T199.heap _
    rw [e199]
    exact ⟨rfl, N199, K203, _, _, F_a1_value, F_a1_coder, At178⟩
def Q_rmS0 (Z : State) (a1 : Addr) (h0 : Heap) (n0 : Nat) (v : Option Value) (h : Heap) (L : List Loc) : Prop := v = none ∧ Fr n0 L ∧ Keep h0 h [a1] ∧ ∃ t kt, Fld Z h a1 "java/lang/String" "value" "[B" (.ref t) ∧ Fld Z h a1 "java/lang/String" "coder" "B" (.int (0 : Int32)) ∧ Arv Z h t kt .byte (0 : Int32) [] (.int (0 : Int32))
set_option maxRecDepth 65536 in
set_option maxHeartbeats 40000000 in
theorem rmS0 (l : Launch) (Z : State) (a0 : Array Value) (hw : ∀ d ∈ tables_1, d.before a0 Z = true) (ws : List Jvm.Cond) (a1 : Addr) (a2 : Addr) (ka : ClassId) (h0 : Heap) (n0 : Nat) (O0 : Old Z n0 h0) (ge_a1 : n0 ≤ a1) (E_a1 : Exa Z h0 a1 "java/lang/String") (F_a1_value : Fld Z h0 a1 "java/lang/String" "value" "[B" .null) (F_a1_coder : Fld Z h0 a1 "java/lang/String" "coder" "B" (.int (0 : Int32))) (Va : Arv Z h0 a2 ka .char (0 : Int32) [] (.int (0 : Int32))) :
    MetFree l (⟨"java/lang/String", "<init>", "([C)V"⟩ : MethodName) (head1 (Jvm.Cond.code (⟨"java/lang/String", "<init>", "([C)V"⟩ : MethodName) jdk_42_method_3_code 2 none :: ws) ({ frames := 2, cells := 4, slots := 8, locals := 48 } : Room)) (fun a U => a = #[(.ref a1), (.ref a2)] ∧ Z.Warmed39 U.vm ∧ U.heap = h0 ∧ CHv Z consts_1 U.vm h0) (fun _ _ _ _ _ => True) (fun _ U o U' => ∃ v L, o = .returned v ∧ Q_rmS0 Z a1 h0 n0 v U'.heap L ∧ CHr Z consts_1 U.vm U.heap U'.vm U'.heap ∧ ReturnedEndW U o U' L ({ frames := 2, cells := 4, slots := 8, locals := 48 } : Room).cells ({ frames := 2, cells := 4, slots := 8, locals := 48 } : Room).slots) := by
  refine MetFree.of_bodySF (plainFor_of_name pn_String) hisR ?_
  intro p e s m args below meth c s₁ Bd hml0 hP hK
  obtain ⟨rfl, hZ, hh, hC0⟩ := hP
  have hx := Bd.exec
  have hby := Bd.bytes
  have hml : c.maxLocals = 2 := hml0
  have hown : s.vm.findClass "java/lang/String" = some m.cls := findClass_of_methodNamed Bd.named
  have hnm := (name_of_methodNamed Bd.named Bd.method).1
  have X0 : Stand p l e ({ frames := 2, cells := 4, slots := 8, locals := 48 } : Room) (s.setVm s.vm) m #[(.ref a1), (.ref a2)] below meth c s₁ [] 0 0 := Stand.of_body Bd
  have e0 : s₁.heap = h0 := by rw [← hh, Bd.state]; rfl
  have N0 := Fr.nil n0
  obtain ⟨S0, hS0⟩ : ∃ z, z = s₁.setTop (entryFrame m #[(.ref a1), (.ref a2)] 2) := ⟨_, rfl⟩
  have k0 : Rch p e below S0 s₁ (mkF m 0 #[.val (.ref a1), .val (.ref a2)] []) := fun t kq => hS0 ▸ castTop (ef_1 m a1 a2) kq
  have K0 : Keep h0 h0 [a1] := Keep.refl h0 _
  have hS : s.Since s.vm s.heap.size := (State.WarmedH.refl s).since _
  have hk : s.heap.size ≤ h0.size := by rw [← hh]; exact Nat.le_refl _
  have hwS : ∀ d ∈ Bundle.stringAtoms, d.before a0 Z = true := fun d hd => hw d ((by decide +kernel : ∀ d ∈ Bundle.stringAtoms, d ∈ tables_1) d hd)
  have rC0 : CHr Z consts_1 s.vm h0 s.vm h0 := CHr.refl hC0
  have hEL : EW Z a0 consts_1 := (EW.cons (hw _ (List.mem_of_getElem? (i := 27) rfl)) (by decide +kernel) (EW.cons (hw _ (List.mem_of_getElem? (i := 15) rfl)) (by decide +kernel) EW.nil))
  have sf_a1 : Safe Z consts_1 s.vm h0 a1 := own_safe_null hZ.alike E_a1 F_a1_value (hw _ (List.mem_of_getElem? (i := 3) rfl))
  have k206 : Rch p e below S0 s₁ (mkF m 4 #[.val (.ref a1), .val (.ref a2)] [(.ref a2), (.int (0 : Int32)), (.ref a2), (.ref a1)]) := fun t h => k0 t (by
      show Steps p.tables e below (s₁.setTop (mkF m 0 #[.val (.ref a1), .val (.ref a2)] [])) _
      refine XS.aloadN X0.here hx rfl (hb hby d1_0) rfl rfl ?_
      show Steps p.tables e below (s₁.setTop (mkF m 1 #[.val (.ref a1), .val (.ref a2)] [(.ref a1)])) _
      refine XS.aloadN X0.here hx rfl (hb hby d1_1) rfl rfl ?_
      show Steps p.tables e below (s₁.setTop (mkF m 2 #[.val (.ref a1), .val (.ref a2)] [(.ref a2), (.ref a1)])) _
      refine XS.iconst X0.here hx rfl (hb hby d1_2) ?_
      show Steps p.tables e below (s₁.setTop (mkF m 3 #[.val (.ref a1), .val (.ref a2)] [(.int (0 : Int32)), (.ref a2), (.ref a1)])) _
      refine XS.aloadN X0.here hx rfl (hb hby d1_3) rfl rfl ?_
      show Steps p.tables e below (s₁.setTop (mkF m 4 #[.val (.ref a1), .val (.ref a2)] [(.ref a2), (.int (0 : Int32)), (.ref a2), (.ref a1)])) _
      exact h)
  obtain ⟨cl205, Ar205, q205, Sz205, Ng205, Hs205, G205⟩ := id Va
  have k207 : Rch p e below S0 s₁ (mkF m 6 #[.val (.ref a1), .val (.ref a2)] [.null, (.int (0 : Int32)), (.int (0 : Int32)), (.ref a2), (.ref a1)]) := fun t h => k206 t (by
      show Steps p.tables e below (s₁.setTop (mkF m 4 #[.val (.ref a1), .val (.ref a2)] [(.ref a2), (.int (0 : Int32)), (.ref a2), (.ref a1)])) _
      refine X0.arraylength hx (by rw [e0]; exact Ar205.1) (State.isArrayOf_alike hZ.alike Ar205.2.1) (g := (mkF m 4 #[.val (.ref a1), .val (.ref a2)] [(.ref a2), (.int (0 : Int32)), (.ref a2), (.ref a1)])) rfl rfl (hb hby d1_4) _ ?_
      rw [len_of Sz205 Ng205]
      show Steps p.tables e below (s₁.setTop (mkF m 5 #[.val (.ref a1), .val (.ref a2)] [(.int (0 : Int32)), (.int (0 : Int32)), (.ref a2), (.ref a1)])) _
      refine XS.aconstNull X0.here hx rfl (hb hby d1_5) ?_
      show Steps p.tables e below (s₁.setTop (mkF m 6 #[.val (.ref a1), .val (.ref a2)] [.null, (.int (0 : Int32)), (.int (0 : Int32)), (.ref a2), (.ref a1)])) _
      exact h)
  obtain ⟨_, _, ⟨T208, L208, kk208, n208⟩, -, X208, hS208, gr208, ⟨Lc208, hQ208, l208, y208, z208, hR208⟩, st208⟩ := X0.specialBackS hx (y := (⟨"java/lang/String", "<init>", "([CIILjava/lang/Void;)V"⟩ : MethodName)) rfl hown (mvT hZ (hw _ (List.mem_of_getElem? (i := 8) rfl))) (mvT hZ (hw _ (List.mem_of_getElem? (i := 9) rfl))) (mvT hZ (hw _ (List.mem_of_getElem? (i := 11) rfl))) (by decide) (backOfSH (W := 0) (rmS4 l Z a0 hw [] a1 a2  h0 n0 O0 ge_a1 E_a1 F_a1_value F_a1_coder) hZ (hw _ (List.mem_of_getElem? (i := 11) rfl)) (hw _ (List.mem_of_getElem? (i := 4) rfl)) (by decide) (by decide) hEL hC0) (g := (mkF m 6 #[.val (.ref a1), .val (.ref a2)] [.null, (.int (0 : Int32)), (.int (0 : Int32)), (.ref a2), (.ref a1)])) rfl (by rw [hml]; rfl) (Steps.refl _) (a := a1) (argsL := [(.ref a2), (.int (0 : Int32)), (.int (0 : Int32)), .null]) (rest := []) (lenOf pd_1 rfl) rfl (by show 2 * 0 + _ ≤ _; exact Nat.le_of_eq rfl) (hb hby d1_6) (fun _ _ => ⟨rfl, e0, (by decide : 0 + 4 ≤ _), (by decide : 0 + 8 ≤ _)⟩)
  dsimp only [Pt.U, Pt.locs, Pt.cells, Pt.slots] at X208 l208 y208 z208 st208 hQ208 hS208 gr208 hR208
  subst l208 y208 z208
  have hZ208 : Z.Warmed39 (s.setVm T208.vm).vm := State.Warmed39.trans (t := (s.setVm s.vm)) hZ hS208.1
  have hown208 : (s.setVm T208.vm).vm.findClass "java/lang/String" = some m.cls := by rw [show (s.setVm T208.vm).vm = T208.vm from rfl, hS208.1.alike.findClass]; exact hown
  replace hS208 := foldS hS (by rw [e0]; exact hk) hS208 gr208
  have hk208 := Nat.le_refl T208.heap.size
  replace X208 : Stand p l e ({ frames := 2, cells := 4, slots := 8, locals := 48 } : Room) (s.setVm T208.vm) m #[(.ref a1), (.ref a2)] below meth c T208 _ _ _ := X208
  obtain ⟨rfl, Nq208, K208, t208, kt208, Fv208, Fc208, At208⟩ := hQ208
  have N208 := Fr.app N0 Nq208
  have k209 : Rch p e below S0 T208 (mkF m 9 #[.val (.ref a1), .val (.ref a2)] []) := fun t h => k207 t (st208.trans h)
  have hC210 := hR208.1
  have rC210 := rC0.trans hR208
  have O211 := O0.keep K208 (allS ge_a1 all0)
  have K212 := K0.trans K208 (allS (Or.inl (List.mem_of_getElem? (i := 0) rfl)) all0)
  replace E_a1 := E_a1.keep K208
  obtain ⟨fs, hr, hrun, hended, hfin⟩ := X208.leaveW hS208 (by exact hk208) (v := none) (fun _ => rfl)
  refine ⟨_, _, ?_, hrun, hended, _, _, rfl, ?_, (by rw [hh]; have q := own_chr rC210 (CHv.at X208 hZ208 hEL hC210) rfl; exact q), hfin.1, hfin.2.1, hfin.2.2.1, hfin.2.2.2.mono (by decide) (by decide)⟩
  · rw [← hS0]
    refine k209 _ ?_
    show Steps p.tables e below (T208.setTop (mkF m 9 #[.val (.ref a1), .val (.ref a2)] [])) _
    exact X208.returnOut hx Bd.returns (hb hby d1_9) hr
  · show Q_rmS0 Z a1 h0 n0 _ T208.heap _
    exact ⟨rfl, N208, K212, _, _, Fv208, Fc208, At208⟩
def Q_rmCO (Z : State) (cd : Int32) (h0 : Heap) (n0 : Nat) (v : Option Value) (h : Heap) (L : List Loc) : Prop := v = some (.int (nar .byte cd)) ∧ Fr n0 L ∧ h = h0
theorem ef_7 (m : MethodId) (x0 : Addr) : entryFrame m #[(.ref x0)] 1 = mkF m 0 #[.val (.ref x0)] [] := by first | (simp [entryFrame, mkF, argsToLocals, Value.category]; done) | rfl
theorem d7_0 : decode jdk_42_method_152_code 0 = .ok (.getstatic 38, 3) := by decide +kernel
theorem d7_3 : decode jdk_42_method_152_code 3 = .ok (.ifCond .eq 10, 3) := by decide +kernel
theorem d7_6 : decode jdk_42_method_152_code 6 = .ok (.aload_n 0, 1) := by decide +kernel
theorem d7_7 : decode jdk_42_method_152_code 7 = .ok (.getfield 15, 3) := by decide +kernel
theorem d7_10 : decode jdk_42_method_152_code 10 = .ok (.goto 4, 3) := by decide +kernel
theorem d7_14 : decode jdk_42_method_152_code 14 = .ok (.ireturn, 1) := by decide +kernel
set_option maxRecDepth 65536 in
set_option maxHeartbeats 40000000 in
theorem rmCO (l : Launch) (Z : State) (a0 : Array Value) (hw : ∀ d ∈ tables_1, d.before a0 Z = true) (ws : List Jvm.Cond) (a1 : Addr) (cd : Int32) (zC : Int32) (h0 : Heap) (n0 : Nat) (O0 : Old Z n0 h0) (SC : Sta Z Z.heap "java/lang/String" "COMPACT_STRINGS" "Z" (.int zC)) (hzC : ¬ zC = 0) (Fc : Fld Z h0 a1 "java/lang/String" "coder" "B" (.int cd)) :
    MetFree l (⟨"java/lang/String", "coder", "()B"⟩ : MethodName) (head1 (Jvm.Cond.code (⟨"java/lang/String", "coder", "()B"⟩ : MethodName) jdk_42_method_152_code 1 (some .byte) :: ws) ({ frames := 0, cells := 0, slots := 0, locals := 0 } : Room)) (fun a U => a = #[(.ref a1)] ∧ Z.Warmed39 U.vm ∧ U.heap = h0) (fun _ _ _ _ _ => True) (fun _ U o U' => ∃ v L, o = .returned v ∧ Q_rmCO Z cd h0 n0 v U'.heap L ∧ FrameEnd U o U' L ({ frames := 0, cells := 0, slots := 0, locals := 0 } : Room).cells ({ frames := 0, cells := 0, slots := 0, locals := 0 } : Room).slots) := by
  refine MetFree.of_bodySF (plainFor_of_name pn_String) hisR ?_
  intro p e s m args below meth c s₁ Bd hml0 hP hK
  obtain ⟨rfl, hZ, hh⟩ := hP
  have hx := Bd.exec
  have hby := Bd.bytes
  have hml : c.maxLocals = 1 := hml0
  have hown : s.vm.findClass "java/lang/String" = some m.cls := findClass_of_methodNamed Bd.named
  have hnm := (name_of_methodNamed Bd.named Bd.method).1
  have X0 : Stand p l e ({ frames := 0, cells := 0, slots := 0, locals := 0 } : Room) s m #[(.ref a1)] below meth c s₁ [] 0 0 := Stand.of_body Bd
  have e0 : s₁.heap = h0 := by rw [← hh, Bd.state]; rfl
  have N0 := Fr.nil n0
  obtain ⟨S0, hS0⟩ : ∃ z, z = s₁.setTop (entryFrame m #[(.ref a1)] 1) := ⟨_, rfl⟩
  have k0 : Rch p e below S0 s₁ (mkF m 0 #[.val (.ref a1)] []) := fun t kq => hS0 ▸ castTop (ef_7 m a1) kq
  obtain ⟨T213, X213, e213, st213⟩ := getS2 X0 hx hZ hown (host := "") (Or.inl (hw _ (List.mem_of_getElem? (i := 42) rfl))) Via.refl e0 (SC.ext O0.2) (g := (mkF m 0 #[.val (.ref a1)] [])) rfl (hb hby d7_0)
  have k214 : Rch p e below S0 T213 (mkF m 3 #[.val (.ref a1)] [(.int zC)]) := fun t h => k0 t (st213 t h)
  have k216 : Rch p e below S0 T213 (mkF m 7 #[.val (.ref a1)] [(.ref a1)]) := fun t h => k214 t (by
      show Steps p.tables e below (T213.setTop (mkF m 3 #[.val (.ref a1)] [(.int zC)])) _
      refine XS.ifNo X213.here hx rfl (hb hby d7_3) rfl ((if0 _ _).trans (feq (hzC : ¬ (zC = (0 : Int32)))).1) ?_
      show Steps p.tables e below (T213.setTop (mkF m 6 #[.val (.ref a1)] [])) _
      refine XS.aloadN X213.here hx rfl (hb hby d7_6) rfl rfl ?_
      show Steps p.tables e below (T213.setTop (mkF m 7 #[.val (.ref a1)] [(.ref a1)])) _
      exact h)
  obtain ⟨T215, X215, e215, st215⟩ := getF X213 hx hZ hown (host := "") (Or.inl (hw _ (List.mem_of_getElem? (i := 22) rfl))) Via.refl e213 Fc (g := (mkF m 7 #[.val (.ref a1)] [(.ref a1)])) rfl rfl (hb hby d7_7)
  have k217 : Rch p e below S0 T215 (mkF m 10 #[.val (.ref a1)] [(.int cd)]) := fun t h => k216 t (st215 t h)
  have k218 : Rch p e below S0 T215 (mkF m 14 #[.val (.ref a1)] [(.int cd)]) := fun t h => k217 t (by
      show Steps p.tables e below (T215.setTop (mkF m 10 #[.val (.ref a1)] [(.int cd)])) _
      refine XS.goto X215.here hx rfl (pc0 := 10) (pc' := 14) rfl (hb hby d7_10) (by decide) (by decide) ?_
      show Steps p.tables e below (T215.setTop (mkF m 14 #[.val (.ref a1)] [(.int cd)])) _
      exact h)
  obtain ⟨fs, hr, hrun, hended, hW, hsame⟩ := X215.leave (v := (some (.int (nar .byte cd)))) (fun h => by rw [Bd.returns] at h; cases h)
  refine ⟨_, _, ?_, hrun, hended, _, _, rfl, ?_, ⟨_, rfl⟩, hW, hsame.mono (by decide) (by decide)⟩
  · rw [← hS0]
    refine k218 _ ?_
    show Steps p.tables e below (T215.setTop (mkF m 14 #[.val (.ref a1)] [(.int cd)])) _
    exact retN X215 hx (t := .byte) Bd.returns (by simp) (hb hby d7_14) hr
  · show Q_rmCO Z cd h0 n0 _ T215.heap _
    rw [e215]
    exact ⟨rfl, N0, rfl⟩
def Q_rmLE (Z : State) (LN : Int32) (h0 : Heap) (n0 : Nat) (v : Option Value) (h : Heap) (L : List Loc) : Prop := v = some (.int LN) ∧ Fr n0 L ∧ h = h0
theorem ef_6 (m : MethodId) (x0 : Addr) : entryFrame m #[(.ref x0)] 1 = mkF m 0 #[.val (.ref x0)] [] := by first | (simp [entryFrame, mkF, argsToLocals, Value.category]; done) | rfl
theorem d6_0 : decode jdk_42_method_54_code 0 = .ok (.aload_n 0, 1) := by decide +kernel
theorem d6_1 : decode jdk_42_method_54_code 1 = .ok (.getfield 9, 3) := by decide +kernel
theorem d6_4 : decode jdk_42_method_54_code 4 = .ok (.arraylength, 1) := by decide +kernel
theorem d6_5 : decode jdk_42_method_54_code 5 = .ok (.aload_n 0, 1) := by decide +kernel
theorem pd_6 : parseMethodDescriptor "()B" = some ⟨[], some .byte⟩ := by decide +kernel
theorem d6_6 : decode jdk_42_method_54_code 6 = .ok (.invokevirtual 335, 3) := by decide +kernel
theorem d6_9 : decode jdk_42_method_54_code 9 = .ok (.ishr, 1) := by decide +kernel
theorem d6_10 : decode jdk_42_method_54_code 10 = .ok (.ireturn, 1) := by decide +kernel
set_option maxRecDepth 65536 in
set_option maxHeartbeats 40000000 in
theorem rmLE (l : Launch) (Z : State) (a0 : Array Value) (hw : ∀ d ∈ tables_1, d.before a0 Z = true) (ws : List Jvm.Cond) (a1 : Addr) (tt : Addr) (kt : ClassId) (N2 : Int32) (vs : List Value) (cd : Int32) (zC : Int32) (LN : Int32) (h0 : Heap) (n0 : Nat) (O0 : Old Z n0 h0) (SC : Sta Z Z.heap "java/lang/String" "COMPACT_STRINGS" "Z" (.int zC)) (hzC : ¬ zC = 0) (Ex : Exa Z h0 a1 "java/lang/String") (Fv : Fld Z h0 a1 "java/lang/String" "value" "[B" (.ref tt)) (Fc : Fld Z h0 a1 "java/lang/String" "coder" "B" (.int cd)) (Vt : Arv Z h0 tt kt .byte N2 vs (.int (0 : Int32))) (hL : (N2 >>> (nar .byte cd &&& 31)) = LN) :
    MetFree l (⟨"java/lang/String", "length", "()I"⟩ : MethodName) (head1 (Jvm.Cond.code (⟨"java/lang/String", "length", "()I"⟩ : MethodName) jdk_42_method_54_code 1 (some .int) :: ws) ({ frames := 1, cells := 0, slots := 0, locals := 20 } : Room)) (fun a U => a = #[(.ref a1)] ∧ Z.Warmed39 U.vm ∧ U.heap = h0) (fun _ _ _ _ _ => True) (fun _ U o U' => ∃ v L, o = .returned v ∧ Q_rmLE Z LN h0 n0 v U'.heap L ∧ FrameEnd U o U' L ({ frames := 1, cells := 0, slots := 0, locals := 20 } : Room).cells ({ frames := 1, cells := 0, slots := 0, locals := 20 } : Room).slots) := by
  refine MetFree.of_bodySF (plainFor_of_name pn_String) hisR ?_
  intro p e s m args below meth c s₁ Bd hml0 hP hK
  obtain ⟨rfl, hZ, hh⟩ := hP
  have hx := Bd.exec
  have hby := Bd.bytes
  have hml : c.maxLocals = 1 := hml0
  have hown : s.vm.findClass "java/lang/String" = some m.cls := findClass_of_methodNamed Bd.named
  have hnm := (name_of_methodNamed Bd.named Bd.method).1
  have X0 : Stand p l e ({ frames := 1, cells := 0, slots := 0, locals := 20 } : Room) s m #[(.ref a1)] below meth c s₁ [] 0 0 := Stand.of_body Bd
  have e0 : s₁.heap = h0 := by rw [← hh, Bd.state]; rfl
  have N0 := Fr.nil n0
  obtain ⟨S0, hS0⟩ : ∃ z, z = s₁.setTop (entryFrame m #[(.ref a1)] 1) := ⟨_, rfl⟩
  have k0 : Rch p e below S0 s₁ (mkF m 0 #[.val (.ref a1)] []) := fun t kq => hS0 ▸ castTop (ef_6 m a1) kq
  have k220 : Rch p e below S0 s₁ (mkF m 1 #[.val (.ref a1)] [(.ref a1)]) := fun t h => k0 t (by
      show Steps p.tables e below (s₁.setTop (mkF m 0 #[.val (.ref a1)] [])) _
      refine XS.aloadN X0.here hx rfl (hb hby d6_0) rfl rfl ?_
      show Steps p.tables e below (s₁.setTop (mkF m 1 #[.val (.ref a1)] [(.ref a1)])) _
      exact h)
  obtain ⟨T219, X219, e219, st219⟩ := getF X0 hx hZ hown (host := "") (Or.inl (hw _ (List.mem_of_getElem? (i := 21) rfl))) Via.refl e0 Fv (g := (mkF m 1 #[.val (.ref a1)] [(.ref a1)])) rfl rfl (hb hby d6_1)
  have k221 : Rch p e below S0 T219 (mkF m 4 #[.val (.ref a1)] [(.ref tt)]) := fun t h => k220 t (st219 t h)
  obtain ⟨cl222, Ar222, q222, Sz222, Ng222, Hs222, G222⟩ := id Vt
  have k223 : Rch p e below S0 T219 (mkF m 6 #[.val (.ref a1)] [(.ref a1), (.int N2)]) := fun t h => k221 t (by
      show Steps p.tables e below (T219.setTop (mkF m 4 #[.val (.ref a1)] [(.ref tt)])) _
      refine X219.arraylength hx (by rw [e219]; exact Ar222.1) (State.isArrayOf_alike hZ.alike Ar222.2.1) (g := (mkF m 4 #[.val (.ref a1)] [(.ref tt)])) rfl rfl (hb hby d6_4) _ ?_
      rw [len_of Sz222 Ng222]
      show Steps p.tables e below (T219.setTop (mkF m 5 #[.val (.ref a1)] [(.int N2)])) _
      refine XS.aloadN X219.here hx rfl (hb hby d6_5) rfl rfl ?_
      show Steps p.tables e below (T219.setTop (mkF m 6 #[.val (.ref a1)] [(.ref a1), (.int N2)])) _
      exact h)
  obtain ⟨cq224, kq224, q224a, q224b, q224c⟩ := isOf hZ e219 Ex
  obtain ⟨_, _, ⟨T224, L224, kk224, n224⟩, -, X224, ⟨Lc224, hQ224, l224, y224, z224⟩, st224⟩ := X219.virtualBack hx (y := (⟨"java/lang/String", "coder", "()B"⟩ : MethodName)) (z := (⟨"java/lang/String", "coder", "()B"⟩ : MethodName)) hown (mvT hZ (hw _ (List.mem_of_getElem? (i := 37) rfl))) (mvT hZ (hw _ (List.mem_of_getElem? (i := 38) rfl))) (notFace_of_selects (args := #[]) (mvT hZ (hw _ (List.mem_of_getElem? (i := 40) rfl)))) (mvT hZ (hw _ (List.mem_of_getElem? (i := 40) rfl))) (mvT hZ (hw _ (List.mem_of_getElem? (i := 39) rfl))) (by decide) (backOf (W := 1) (rmCO l Z a0 hw [] a1 cd zC h0 n0 O0 SC hzC Fc) hZ (hw _ (List.mem_of_getElem? (i := 41) rfl)) (hw _ (List.mem_of_getElem? (i := 4) rfl)) (by decide) (by decide)) q224a q224c (g := (mkF m 6 #[.val (.ref a1)] [(.ref a1), (.int N2)])) rfl (by rw [hml]; rfl) (Steps.refl _) (argsL := []) (rest := [(.int N2)]) (lenOf pd_6 rfl) rfl (by show 2 * 0 + _ ≤ _; exact Nat.le_of_eq rfl) (hb hby d6_6) (fun _ _ => ⟨rfl, e219, (by decide : 0 + 0 ≤ _), (by decide : 0 + 0 ≤ _)⟩)
  dsimp only [Pt.U, Pt.locs, Pt.cells, Pt.slots] at X224 l224 y224 z224 st224 hQ224
  subst l224 y224 z224
  obtain ⟨rfl, Nq224, hh224⟩ := hQ224
  have N224 := Fr.app N0 Nq224
  have k225 : Rch p e below S0 T224 (mkF m 9 #[.val (.ref a1)] [(.int (nar .byte cd)), (.int N2)]) := fun t h => k223 t (st224.trans h)
  have k226 : Rch p e below S0 T224 (mkF m 10 #[.val (.ref a1)] [(.int LN)]) := fun t h => k225 t (by
      show Steps p.tables e below (T224.setTop (mkF m 9 #[.val (.ref a1)] [(.int (nar .byte cd)), (.int N2)])) _
      refine XS.ishr X224.here hx rfl (hb hby d6_9) rfl ?_
      rw [hL]
      show Steps p.tables e below (T224.setTop (mkF m 10 #[.val (.ref a1)] [(.int LN)])) _
      exact h)
  obtain ⟨fs, hr, hrun, hended, hW, hsame⟩ := X224.leave (v := (some (.int LN))) (fun h => by rw [Bd.returns] at h; cases h)
  refine ⟨_, _, ?_, hrun, hended, _, _, rfl, ?_, ⟨_, rfl⟩, hW, hsame.mono (by decide) (by decide)⟩
  · rw [← hS0]
    refine k226 _ ?_
    show Steps p.tables e below (T224.setTop (mkF m 10 #[.val (.ref a1)] [(.int LN)])) _
    exact retI X224 hx Bd.returns (hb hby d6_10) hr
  · show Q_rmLE Z LN h0 n0 _ T224.heap _
    rw [hh224]
    exact ⟨rfl, N224, rfl⟩
theorem own_i2cr (x : Int32) : ¬ x.toUInt32.toUInt16.toUInt32.toInt32 < 0 ∧ ¬ (65535 : Int32) < x.toUInt32.toUInt16.toUInt32.toInt32 := by
  have q := c_i2c x
  have h0 : (0 : Int32).toInt = 0 := by decide
  have h1 : (65535 : Int32).toInt = 65535 := by decide
  constructor <;> rw [Int32.lt_iff_toInt_lt] <;> omega
theorem own_pred {n : Nat} (h : 0 < n) (hn : n ≤ 4000) : Int32.ofNat n - 1 = Int32.ofNat (n - 1) := by
  apply Int32.toInt_inj.mp
  have a := c_isub (Int32.ofNat n) 1
  have e : (1 : Int32).toInt = 1 := by decide
  rw [(own_tn (by omega)).2, e] at a
  rw [(own_tn (by omega)).2]
  have r := rng32 (Int32.ofNat n - 1)
  omega
theorem own_sh0 (x : Int32) : x >>> (nar .byte 0 &&& 31) = x := by
  apply Int32.toInt_inj.mp
  have a := c_ishr x (nar .byte 0) 0 (by decide)
  rw [a]; omega
theorem own_sh1 {n : Nat} (hn : n ≤ 4000) : Int32.ofNat (2 * n) >>> (nar .byte 1 &&& 31) = Int32.ofNat n := by
  apply Int32.toInt_inj.mp
  have a := c_ishr (Int32.ofNat (2 * n)) (nar .byte 1) 1 (by decide)
  rw [a, (own_tn (by omega)).2, (own_tn (by omega)).2]; omega
def own_cs (n p : Nat) (x y z : Int32) : List Int32 := (((List.replicate n (0 : Int32)).set 0 (nar .char x)).set (n - 1) (nar .char y)).set p (nar .char z)
theorem own_cs_len (n p : Nat) (x y z : Int32) : (own_cs n p x y z).length = n := by simp [own_cs]
theorem own_cs_in (n p : Nat) (x y z : Int32) : ∀ c ∈ own_cs n p x y z, ¬ c < 0 ∧ ¬ (65535 : Int32) < c := by
  intro c hc
  rcases List.mem_or_eq_of_mem_set hc with hc | rfl
  · rcases List.mem_or_eq_of_mem_set hc with hc | rfl
    · rcases List.mem_or_eq_of_mem_set hc with hc | rfl
      · rw [(List.mem_replicate.mp hc).2]; decide
      · exact own_i2cr x
    · exact own_i2cr y
  · exact own_i2cr z
theorem own_cs_map (n p : Nat) (x y z : Int32) : (own_cs n p x y z).map Value.int = (((List.replicate n (Value.int 0)).set 0 (.int (nar .char x))).set (n - 1) (.int (nar .char y))).set p (.int (nar .char z)) := by
  simp [own_cs, List.map_set]
def Q_rmRN (Z : State) (a1 : Addr) (h0 : Heap) (n0 : Nat) (v : Option Value) (h : Heap) (L : List Loc) : Prop := v = some (.ref a1) ∧ Fr n0 L ∧ h = h0
theorem ef_5 (m : MethodId) (x0 : Addr) (x1 : Addr) : entryFrame m #[(.ref x0), (.ref x1)] 2 = mkF m 0 #[.val (.ref x0), .val (.ref x1)] [] := by first | (simp [entryFrame, mkF, argsToLocals, Value.category]; done) | rfl
theorem pn_Objects : plainName "java/util/Objects" = true := by first | (simp [plainName, overriddenIn]; done) | decide +kernel
theorem d5_0 : decode jdk_31_method_11_code 0 = .ok (.aload_n 0, 1) := by decide +kernel
theorem d5_1 : decode jdk_31_method_11_code 1 = .ok (.ifnonnull 12, 3) := by decide +kernel
theorem d5_13 : decode jdk_31_method_11_code 13 = .ok (.aload_n 0, 1) := by decide +kernel
theorem d5_14 : decode jdk_31_method_11_code 14 = .ok (.areturn, 1) := by decide +kernel
set_option maxRecDepth 65536 in
set_option maxHeartbeats 40000000 in
theorem rmRN (l : Launch) (Z : State) (a0 : Array Value) (hw : ∀ d ∈ tables_1, d.before a0 Z = true) (ws : List Jvm.Cond) (a1 : Addr) (a2 : Addr) (h0 : Heap) (n0 : Nat) (O0 : Old Z n0 h0) :
    MetFree l (⟨"java/util/Objects", "requireNonNull", "(Ljava/lang/Object;Ljava/lang/String;)Ljava/lang/Object;"⟩ : MethodName) (head1 (Jvm.Cond.code (⟨"java/util/Objects", "requireNonNull", "(Ljava/lang/Object;Ljava/lang/String;)Ljava/lang/Object;"⟩ : MethodName) jdk_31_method_11_code 2 (some (.object "java/lang/Object")) :: ws) ({ frames := 0, cells := 0, slots := 0, locals := 0 } : Room)) (fun a U => a = #[(.ref a1), (.ref a2)] ∧ Z.Warmed39 U.vm ∧ U.heap = h0) (fun _ _ _ _ _ => True) (fun _ U o U' => ∃ v L, o = .returned v ∧ Q_rmRN Z a1 h0 n0 v U'.heap L ∧ FrameEnd U o U' L ({ frames := 0, cells := 0, slots := 0, locals := 0 } : Room).cells ({ frames := 0, cells := 0, slots := 0, locals := 0 } : Room).slots) := by
  refine MetFree.of_bodySF (plainFor_of_name pn_Objects) hisR ?_
  intro p e s m args below meth c s₁ Bd hml0 hP hK
  obtain ⟨rfl, hZ, hh⟩ := hP
  have hx := Bd.exec
  have hby := Bd.bytes
  have hml : c.maxLocals = 2 := hml0
  have hown : s.vm.findClass "java/util/Objects" = some m.cls := findClass_of_methodNamed Bd.named
  have hnm := (name_of_methodNamed Bd.named Bd.method).1
  have X0 : Stand p l e ({ frames := 0, cells := 0, slots := 0, locals := 0 } : Room) s m #[(.ref a1), (.ref a2)] below meth c s₁ [] 0 0 := Stand.of_body Bd
  have e0 : s₁.heap = h0 := by rw [← hh, Bd.state]; rfl
  have N0 := Fr.nil n0
  obtain ⟨S0, hS0⟩ : ∃ z, z = s₁.setTop (entryFrame m #[(.ref a1), (.ref a2)] 2) := ⟨_, rfl⟩
  have k0 : Rch p e below S0 s₁ (mkF m 0 #[.val (.ref a1), .val (.ref a2)] []) := fun t kq => hS0 ▸ castTop (ef_5 m a1 a2) kq
  have k227 : Rch p e below S0 s₁ (mkF m 14 #[.val (.ref a1), .val (.ref a2)] [(.ref a1)]) := fun t h => k0 t (by
      show Steps p.tables e below (s₁.setTop (mkF m 0 #[.val (.ref a1), .val (.ref a2)] [])) _
      refine XS.aloadN X0.here hx rfl (hb hby d5_0) rfl rfl ?_
      show Steps p.tables e below (s₁.setTop (mkF m 1 #[.val (.ref a1), .val (.ref a2)] [(.ref a1)])) _
      refine XS.ifnonnullYes X0.here hx rfl (pc0 := 1) (pc' := 13) rfl (hb hby d5_1) rfl (by decide) (by decide) ?_
      show Steps p.tables e below (s₁.setTop (mkF m 13 #[.val (.ref a1), .val (.ref a2)] [])) _
      refine XS.aloadN X0.here hx rfl (hb hby d5_13) rfl rfl ?_
      show Steps p.tables e below (s₁.setTop (mkF m 14 #[.val (.ref a1), .val (.ref a2)] [(.ref a1)])) _
      exact h)
  obtain ⟨fs, hr, hrun, hended, hW, hsame⟩ := X0.leave (v := (some (.ref a1))) (fun h => by rw [Bd.returns] at h; cases h)
  refine ⟨_, _, ?_, hrun, hended, _, _, rfl, ?_, ⟨_, rfl⟩, hW, hsame.mono (by decide) (by decide)⟩
  · rw [← hS0]
    refine k227 _ ?_
    show Steps p.tables e below (s₁.setTop (mkF m 14 #[.val (.ref a1), .val (.ref a2)] [(.ref a1)])) _
    jvm_step X0.here [X0.here.top, hx, (hb hby d5_14), X0.method', Bd.returns, Value.isRef, FieldType.isReference]
    first | (intro acts; rw [hr _ acts rfl rfl rfl]) | rw [hr _ _ rfl rfl rfl]
    exact Steps.refl _
  · show Q_rmRN Z a1 h0 n0 _ s₁.heap _
    rw [e0]
    exact ⟨rfl, N0, rfl⟩
def Q_rmH (Z : State) (a1 : Addr) (h0 : Heap) (n0 : Nat) (v : Option Value) (h : Heap) (L : List Loc) : Prop := v = some (.ref a1) ∧ Fr n0 L ∧ Ext h0 h
theorem ef_4 (m : MethodId) (x0 : Addr) : entryFrame m #[(.ref x0)] 1 = mkF m 0 #[.val (.ref x0)] [] := by first | (simp [entryFrame, mkF, argsToLocals, Value.category]; done) | rfl
theorem pn_SettingTable : plainName "com/example/remodel/remodel/SettingTable" = true := by first | (simp [plainName, overriddenIn]; done) | decide +kernel
theorem d4_0 : decode prog_23_method_3_code 0 = .ok (.aload_n 0, 1) := by decide +kernel
theorem d4_1 : decode prog_23_method_3_code 1 = .ok (.ldc 122, 2) := by decide +kernel
theorem pd_4 : parseMethodDescriptor "(Ljava/lang/Object;Ljava/lang/String;)Ljava/lang/Object;" = some ⟨[(.object "java/lang/Object"), (.object "java/lang/String")], some (.object "java/lang/Object")⟩ := by decide +kernel
theorem d4_3 : decode prog_23_method_3_code 3 = .ok (.invokestatic 109, 3) := by decide +kernel
theorem d4_6 : decode prog_23_method_3_code 6 = .ok (.pop, 1) := by decide +kernel
theorem d4_7 : decode prog_23_method_3_code 7 = .ok (.aload_n 0, 1) := by decide +kernel
theorem pd_5 : parseMethodDescriptor "()I" = some ⟨[], some .int⟩ := by decide +kernel
theorem d4_8 : decode prog_23_method_3_code 8 = .ok (.invokevirtual 124, 3) := by decide +kernel
theorem d4_11 : decode prog_23_method_3_code 11 = .ok (.sipush 4000, 3) := by decide +kernel
theorem d4_14 : decode prog_23_method_3_code 14 = .ok (.if_icmp .le 20, 3) := by decide +kernel
theorem d4_34 : decode prog_23_method_3_code 34 = .ok (.aload_n 0, 1) := by decide +kernel
theorem d4_35 : decode prog_23_method_3_code 35 = .ok (.areturn, 1) := by decide +kernel
set_option maxRecDepth 65536 in
set_option maxHeartbeats 40000000 in
theorem rmH (l : Launch) (Z : State) (a0 : Array Value) (hw : ∀ d ∈ tables_1, d.before a0 Z = true) (ws : List Jvm.Cond) (a1 : Addr) (tt : Addr) (kt : ClassId) (N2 : Int32) (vs : List Value) (cd : Int32) (zC : Int32) (LN : Int32) (h0 : Heap) (n0 : Nat) (O0 : Old Z n0 h0) (SC : Sta Z Z.heap "java/lang/String" "COMPACT_STRINGS" "Z" (.int zC)) (hzC : ¬ zC = 0) (Ex : Exa Z h0 a1 "java/lang/String") (Fv : Fld Z h0 a1 "java/lang/String" "value" "[B" (.ref tt)) (Fc : Fld Z h0 a1 "java/lang/String" "coder" "B" (.int cd)) (Vt : Arv Z h0 tt kt .byte N2 vs (.int (0 : Int32))) (hL : (N2 >>> (nar .byte cd &&& 31)) = LN) (hm : ¬ ((4000 : Int32) < LN)) :
    MetFree l (⟨"com/example/remodel/remodel/SettingTable", "checkValue", "(Ljava/lang/String;)Ljava/lang/String;"⟩ : MethodName) (head1 (Jvm.Cond.code (⟨"com/example/remodel/remodel/SettingTable", "checkValue", "(Ljava/lang/String;)Ljava/lang/String;"⟩ : MethodName) prog_23_method_3_code 1 (some (.object "java/lang/String")) :: ws) ({ frames := 3, cells := 2, slots := 24, locals := 60 } : Room)) (fun a U => a = #[(.ref a1)] ∧ Z.Warmed39 U.vm ∧ U.heap = h0 ∧ CHv Z consts_1 U.vm h0) (fun _ _ _ _ _ => True) (fun _ U o U' => ∃ v L, o = .returned v ∧ Q_rmH Z a1 h0 n0 v U'.heap L ∧ CHr Z consts_1 U.vm U.heap U'.vm U'.heap ∧ ReturnedEndW U o U' L ({ frames := 3, cells := 2, slots := 24, locals := 60 } : Room).cells ({ frames := 3, cells := 2, slots := 24, locals := 60 } : Room).slots) := by
  refine MetFree.of_bodySF (plainFor_of_name pn_SettingTable) hisR ?_
  intro p e s m args below meth c s₁ Bd hml0 hP hK
  obtain ⟨rfl, hZ, hh, hC0⟩ := hP
  have hx := Bd.exec
  have hby := Bd.bytes
  have hml : c.maxLocals = 1 := hml0
  have hown : s.vm.findClass "com/example/remodel/remodel/SettingTable" = some m.cls := findClass_of_methodNamed Bd.named
  have hnm := (name_of_methodNamed Bd.named Bd.method).1
  have X0 : Stand p l e ({ frames := 3, cells := 2, slots := 24, locals := 60 } : Room) (s.setVm s.vm) m #[(.ref a1)] below meth c s₁ [] 0 0 := Stand.of_body Bd
  have e0 : s₁.heap = h0 := by rw [← hh, Bd.state]; rfl
  have N0 := Fr.nil n0
  obtain ⟨S0, hS0⟩ : ∃ z, z = s₁.setTop (entryFrame m #[(.ref a1)] 1) := ⟨_, rfl⟩
  have k0 : Rch p e below S0 s₁ (mkF m 0 #[.val (.ref a1)] []) := fun t kq => hS0 ▸ castTop (ef_4 m a1) kq
  have K0 : Keep h0 h0 [] := Keep.refl h0 _
  have hS : s.Since s.vm s.heap.size := (State.WarmedH.refl s).since _
  have hk : s.heap.size ≤ h0.size := by rw [← hh]; exact Nat.le_refl _
  have hwS : ∀ d ∈ Bundle.stringAtoms, d.before a0 Z = true := fun d hd => hw d ((by decide +kernel : ∀ d ∈ Bundle.stringAtoms, d ∈ tables_1) d hd)
  have rC0 : CHr Z consts_1 s.vm h0 s.vm h0 := CHr.refl hC0
  have hEL : EW Z a0 consts_1 := (EW.cons (hw _ (List.mem_of_getElem? (i := 27) rfl)) (by decide +kernel) (EW.cons (hw _ (List.mem_of_getElem? (i := 15) rfl)) (by decide +kernel) EW.nil))
  have k228 : Rch p e below S0 s₁ (mkF m 1 #[.val (.ref a1)] [(.ref a1)]) := fun t h => k0 t (by
      show Steps p.tables e below (s₁.setTop (mkF m 0 #[.val (.ref a1)] [])) _
      refine XS.aloadN X0.here hx rfl (hb hby d4_0) rfl rfl ?_
      show Steps p.tables e below (s₁.setTop (mkF m 1 #[.val (.ref a1)] [(.ref a1)])) _
      exact h)
  obtain ⟨a229, T229, h229, kk229, t229, kt229, X229, e229, E229, hS229, hk229, hZ229, hown229, Ea229, Ca229, Va229, At229, la229, lt229, hR229, hL229, sfa229, st229⟩ := ldcCH X0 hx hZ hown (hw _ (List.mem_of_getElem? (i := 27) rfl)) hwS e0 hS hk hEL (by decide +kernel) hC0 (vs := [(.int (118 : Int32)), (.int (97 : Int32)), (.int (108 : Int32)), (.int (117 : Int32)), (.int (101 : Int32))]) (z := (5 : Int32)) ⟨by decide +kernel, by decide +kernel⟩ (by decide) (by decide) (g := (mkF m 1 #[.val (.ref a1)] [(.ref a1)])) rfl (hb hby d4_1) (n := 20) (by decide +kernel) (by decide) (by decide) (by decide)
  have k230 : Rch p e below S0 T229 (mkF m 3 #[.val (.ref a1)] [(.ref a229), (.ref a1)]) := fun t h => k228 t (st229 t h)
  have hC231 := hR229.1
  have rC231 := rC0.trans hR229
  have O232 := O0.ext E229
  have K233 := K0.ext E229
  replace Ex := Ex.ext E229
  replace Fv := Fv.ext E229
  replace Fc := Fc.ext E229
  replace Vt := Vt.ext E229
  obtain ⟨_, _, ⟨T234, L234, kk234, n234⟩, -, X234, ⟨Lc234, hQ234, l234, y234, z234⟩, st234⟩ := Jvm.LawKit.callS X229 hx (y := (⟨"java/util/Objects", "requireNonNull", "(Ljava/lang/Object;Ljava/lang/String;)Ljava/lang/Object;"⟩ : MethodName)) hown229 (mvT hZ229 (hw _ (List.mem_of_getElem? (i := 28) rfl))) (mvT hZ229 (hw _ (List.mem_of_getElem? (i := 29) rfl))) (mvT hZ229 (hw _ (List.mem_of_getElem? (i := 30) rfl))) (mvT hZ229 (hw _ (List.mem_of_getElem? (i := 31) rfl))) (by decide) (backOf (W := 0) (rmRN l Z a0 hw [] a1 a229  h229 n0 O232 ) hZ229 (hw _ (List.mem_of_getElem? (i := 31) rfl)) (hw _ (List.mem_of_getElem? (i := 30) rfl)) (by decide) (by decide)) (g := (mkF m 3 #[.val (.ref a1)] [(.ref a229), (.ref a1)])) rfl (by rw [hml]; rfl) (argsL := [(.ref a1), (.ref a229)]) (rest := []) (lenOf pd_4 rfl) rfl (by show 2 * 0 + _ ≤ _; exact Nat.le_of_eq rfl) (hb hby d4_3) (fun _ _ => ⟨rfl, e229, (by decide : 2 + 0 ≤ _), (by decide : 24 + 0 ≤ _)⟩)
  dsimp only [Pt.U, Pt.locs, Pt.cells, Pt.slots] at X234 l234 y234 z234 st234 hQ234
  subst l234 y234 z234
  obtain ⟨rfl, Nq234, hh234⟩ := hQ234
  have N234 := Fr.app N0 Nq234
  have k235 : Rch p e below S0 T234 (mkF m 6 #[.val (.ref a1)] [(.ref a1)]) := fun t h => k230 t (st234 t h)
  have k236 : Rch p e below S0 T234 (mkF m 8 #[.val (.ref a1)] [(.ref a1)]) := fun t h => k235 t (by
      show Steps p.tables e below (T234.setTop (mkF m 6 #[.val (.ref a1)] [(.ref a1)])) _
      refine XS.pop X234.here hx rfl (hb hby d4_6) rfl rfl ?_
      show Steps p.tables e below (T234.setTop (mkF m 7 #[.val (.ref a1)] [])) _
      refine XS.aloadN X234.here hx rfl (hb hby d4_7) rfl rfl ?_
      show Steps p.tables e below (T234.setTop (mkF m 8 #[.val (.ref a1)] [(.ref a1)])) _
      exact h)
  obtain ⟨cq237, kq237, q237a, q237b, q237c⟩ := isOf hZ229 hh234 Ex
  obtain ⟨_, _, ⟨T237, L237, kk237, n237⟩, -, X237, ⟨Lc237, hQ237, l237, y237, z237⟩, st237⟩ := X234.virtualBack hx (y := (⟨"java/lang/String", "length", "()I"⟩ : MethodName)) (z := (⟨"java/lang/String", "length", "()I"⟩ : MethodName)) hown229 (mvT hZ229 (hw _ (List.mem_of_getElem? (i := 32) rfl))) (mvT hZ229 (hw _ (List.mem_of_getElem? (i := 33) rfl))) (notFace_of_selects (args := #[]) (mvT hZ229 (hw _ (List.mem_of_getElem? (i := 35) rfl)))) (mvT hZ229 (hw _ (List.mem_of_getElem? (i := 35) rfl))) (mvT hZ229 (hw _ (List.mem_of_getElem? (i := 34) rfl))) (by decide) (backOf (W := 0) (rmLE l Z a0 hw [] a1 tt kt N2 vs cd zC LN h229 n0 O232 SC hzC Ex Fv Fc Vt hL) hZ229 (hw _ (List.mem_of_getElem? (i := 36) rfl)) (hw _ (List.mem_of_getElem? (i := 4) rfl)) (by decide) (by decide)) q237a q237c (g := (mkF m 8 #[.val (.ref a1)] [(.ref a1)])) rfl (by rw [hml]; rfl) (Steps.refl _) (argsL := []) (rest := []) (lenOf pd_5 rfl) rfl (by show 2 * 0 + _ ≤ _; exact Nat.le_of_eq rfl) (hb hby d4_8) (fun _ _ => ⟨rfl, hh234, (by decide : 2 + 0 ≤ _), (by decide : 24 + 0 ≤ _)⟩)
  dsimp only [Pt.U, Pt.locs, Pt.cells, Pt.slots] at X237 l237 y237 z237 st237 hQ237
  subst l237 y237 z237
  obtain ⟨rfl, Nq237, hh237⟩ := hQ237
  have N237 := Fr.app N234 Nq237
  have k238 : Rch p e below S0 T237 (mkF m 11 #[.val (.ref a1)] [(.int LN)]) := fun t h => k236 t (st237.trans h)
  have k239 : Rch p e below S0 T237 (mkF m 35 #[.val (.ref a1)] [(.ref a1)]) := fun t h => k238 t (by
      show Steps p.tables e below (T237.setTop (mkF m 11 #[.val (.ref a1)] [(.int LN)])) _
      refine XS.sipush X237.here hx rfl (hb hby d4_11) ?_
      show Steps p.tables e below (T237.setTop (mkF m 14 #[.val (.ref a1)] [(.int (4000 : Int32)), (.int LN)])) _
      refine XS.icmpYes X237.here hx rfl (pc0 := 14) (pc' := 34) rfl (hb hby d4_14) rfl (flt (hm : ¬ ((4000 : Int32) < LN))).2.2.2 (by decide) (by decide) ?_
      show Steps p.tables e below (T237.setTop (mkF m 34 #[.val (.ref a1)] [])) _
      refine XS.aloadN X237.here hx rfl (hb hby d4_34) rfl rfl ?_
      show Steps p.tables e below (T237.setTop (mkF m 35 #[.val (.ref a1)] [(.ref a1)])) _
      exact h)
  obtain ⟨fs, hr, hrun, hended, hfin⟩ := X237.leaveW hS229 (by rw [hh237]; exact hk229) (v := (some (.ref a1))) (fun h => by rw [Bd.returns] at h; cases h)
  refine ⟨_, _, ?_, hrun, hended, _, _, rfl, ?_, (by rw [hh]; have q := own_chr rC231 (CHv.at X237 hZ229 hEL hC231) hh237; exact q), hfin.1, hfin.2.1, hfin.2.2.1, hfin.2.2.2.mono (by decide) (by decide)⟩
  · rw [← hS0]
    refine k239 _ ?_
    show Steps p.tables e below (T237.setTop (mkF m 35 #[.val (.ref a1)] [(.ref a1)])) _
    jvm_step X237.here [X237.here.top, hx, (hb hby d4_35), X237.method', Bd.returns, Value.isRef, FieldType.isReference]
    first | (intro acts; rw [hr _ acts rfl rfl rfl]) | rw [hr _ _ rfl rfl rfl]
    exact Steps.refl _
  · show Q_rmH Z a1 h0 n0 _ T237.heap _
    rw [hh237]
    exact ⟨rfl, N237, own_ext K233⟩
def Q_rm0_A0 (Z : State)  (h0 : Heap) (n0 : Nat) (v : Option Value) (h : Heap) (L : List Loc) : Prop := v = some (.int (1 : Int32)) ∧ Fr n0 L
theorem ef_0 (m : MethodId) (x0 : Int32) (x1 : Int32) (x2 : Int32) (x3 : Int32) : entryFrame m #[(.int x0), (.int x1), (.int x2), (.int x3)] maxLocals = mkF m 0 #[.val (.int x0), .val (.int x1), .val (.int x2), .val (.int x3), .unset, .unset, .unset, .unset] [] := by first | (simp [entryFrame, mkF, argsToLocals, Value.category, maxLocals]; done) | rfl
theorem pn_SettingTableCheckValuePinLaw : plainName "com/example/remodel/remodel/SettingTableCheckValuePinLaw" = true := by first | (simp [plainName, overriddenIn]; done) | decide +kernel
theorem pd_0 : parseMethodDescriptor "([C)V" = some ⟨[(.array .char)], none⟩ := by decide +kernel
theorem pd_3 : parseMethodDescriptor "(Ljava/lang/String;)Ljava/lang/String;" = some ⟨[(.object "java/lang/String")], some (.object "java/lang/String")⟩ := by decide +kernel
set_option maxRecDepth 65536 in
set_option maxHeartbeats 40000000 in
theorem rm0_A0 (l : Launch) (Z : State) (a0 : Array Value) (hw : ∀ d ∈ tables_1, d.before a0 Z = true) (ws : List Jvm.Cond) (p1 : Int32) (p2 : Int32) (p3 : Int32) (p4 : Int32) (zC : Int32) (h0 : Heap) (n0 : Nat) (O0 : Old Z n0 h0) (SAs : Sta Z Z.heap "java/lang/StringUTF16" "$assertionsDisabled" "Z" (.int (1 : Int32))) (SHi : Sta Z Z.heap "java/lang/StringUTF16" "HI_BYTE_SHIFT" "I" (.int (0 : Int32))) (SLo : Sta Z Z.heap "java/lang/StringUTF16" "LO_BYTE_SHIFT" "I" (.int (8 : Int32))) (SC : Sta Z Z.heap "java/lang/String" "COMPACT_STRINGS" "Z" (.int zC)) (hzC : ¬ zC = 0) (hc : ¬ (p1 &&& 1 = 0)) (he : ((4000 : Int32) - (((p1.toUInt32 >>> ((1 : Int32) &&& 31).toUInt32).toInt32) &&& (3 : Int32))) = (0 : Int32)) :
    MetFree l x (head1 (Jvm.Cond.code x code maxLocals ret :: ws) room_1) (fun a U => a = #[(.int p1), (.int p2), (.int p3), (.int p4)] ∧ Z.Warmed39 U.vm ∧ U.heap = h0 ∧ CHv Z consts_1 U.vm h0) (fun _ _ _ _ _ => True) (fun _ U o U' => ∃ v L, o = .returned v ∧ Q_rm0_A0 Z  h0 n0 v U'.heap L ∧ CHr Z consts_1 U.vm U.heap U'.vm U'.heap ∧ ReturnedEndW U o U' L room_1.cells room_1.slots) := by
  refine MetFree.of_bodySF (plainFor_of_name pn_SettingTableCheckValuePinLaw) hisR ?_
  intro p e s m args below meth c s₁ Bd hml0 hP hK
  obtain ⟨rfl, hZ, hh, hC0⟩ := hP
  have hx := Bd.exec
  have hby := Bd.bytes
  have hml : c.maxLocals = 8 := hml0
  have hown : s.vm.findClass "com/example/remodel/remodel/SettingTableCheckValuePinLaw" = some m.cls := findClass_of_methodNamed Bd.named
  have hnm := (name_of_methodNamed Bd.named Bd.method).1
  have X0 : Stand p l e room_1 (s.setVm s.vm) m #[(.int p1), (.int p2), (.int p3), (.int p4)] below meth c s₁ [] 0 0 := Stand.of_body Bd
  have e0 : s₁.heap = h0 := by rw [← hh, Bd.state]; rfl
  have N0 := Fr.nil n0
  obtain ⟨S0, hS0⟩ : ∃ z, z = s₁.setTop (entryFrame m #[(.int p1), (.int p2), (.int p3), (.int p4)] maxLocals) := ⟨_, rfl⟩
  have k0 : Rch p e below S0 s₁ (mkF m 0 #[.val (.int p1), .val (.int p2), .val (.int p3), .val (.int p4), .unset, .unset, .unset, .unset] []) := fun t kq => hS0 ▸ castTop (ef_0 m p1 p2 p3 p4) kq
  have hS : s.Since s.vm s.heap.size := (State.WarmedH.refl s).since _
  have hk : s.heap.size ≤ h0.size := by rw [← hh]; exact Nat.le_refl _
  have hwS : ∀ d ∈ Bundle.stringAtoms, d.before a0 Z = true := fun d hd => hw d ((by decide +kernel : ∀ d ∈ Bundle.stringAtoms, d ∈ tables_1) d hd)
  have rC0 : CHr Z consts_1 s.vm h0 s.vm h0 := CHr.refl hC0
  have hEL : EW Z a0 consts_1 := (EW.cons (hw _ (List.mem_of_getElem? (i := 27) rfl)) (by decide +kernel) (EW.cons (hw _ (List.mem_of_getElem? (i := 15) rfl)) (by decide +kernel) EW.nil))
  have k241 : Rch p e below S0 s₁ (mkF m 34 #[.val (.int p1), .val (.int p2), .val (.int p3), .val (.int p4), .val (.int (0 : Int32)), .unset, .unset, .unset] [(.int (0 : Int32))]) := fun t h => k0 t (by
      show Steps p.tables e below (s₁.setTop (mkF m 0 #[.val (.int p1), .val (.int p2), .val (.int p3), .val (.int p4), .unset, .unset, .unset, .unset] [])) _
      refine XS.iloadN X0.here hx rfl (hb hby at_0) rfl ?_
      show Steps p.tables e below (s₁.setTop (mkF m 1 #[.val (.int p1), .val (.int p2), .val (.int p3), .val (.int p4), .unset, .unset, .unset, .unset] [(.int p1)])) _
      refine XS.iconst X0.here hx rfl (hb hby at_1) ?_
      show Steps p.tables e below (s₁.setTop (mkF m 2 #[.val (.int p1), .val (.int p2), .val (.int p3), .val (.int p4), .unset, .unset, .unset, .unset] [(.int (1 : Int32)), (.int p1)])) _
      refine XS.iand X0.here hx rfl (hb hby at_2) rfl ?_
      show Steps p.tables e below (s₁.setTop (mkF m 3 #[.val (.int p1), .val (.int p2), .val (.int p3), .val (.int p4), .unset, .unset, .unset, .unset] [(.int (p1 &&& (1 : Int32)))])) _
      refine XS.ifNo X0.here hx rfl (hb hby at_3) rfl ((if0 _ _).trans (feq (hc : ¬ ((p1 &&& (1 : Int32)) = (0 : Int32)))).1) ?_
      show Steps p.tables e below (s₁.setTop (mkF m 6 #[.val (.int p1), .val (.int p2), .val (.int p3), .val (.int p4), .unset, .unset, .unset, .unset] [])) _
      refine XS.sipush X0.here hx rfl (hb hby at_6) ?_
      show Steps p.tables e below (s₁.setTop (mkF m 9 #[.val (.int p1), .val (.int p2), .val (.int p3), .val (.int p4), .unset, .unset, .unset, .unset] [(.int (4000 : Int32))])) _
      refine XS.iloadN X0.here hx rfl (hb hby at_9) rfl ?_
      show Steps p.tables e below (s₁.setTop (mkF m 10 #[.val (.int p1), .val (.int p2), .val (.int p3), .val (.int p4), .unset, .unset, .unset, .unset] [(.int p1), (.int (4000 : Int32))])) _
      refine XS.iconst X0.here hx rfl (hb hby at_10) ?_
      show Steps p.tables e below (s₁.setTop (mkF m 11 #[.val (.int p1), .val (.int p2), .val (.int p3), .val (.int p4), .unset, .unset, .unset, .unset] [(.int (1 : Int32)), (.int p1), (.int (4000 : Int32))])) _
      refine XS.iushr X0.here hx rfl (hb hby at_11) rfl ?_
      show Steps p.tables e below (s₁.setTop (mkF m 12 #[.val (.int p1), .val (.int p2), .val (.int p3), .val (.int p4), .unset, .unset, .unset, .unset] [(.int ((p1.toUInt32 >>> ((1 : Int32) &&& 31).toUInt32).toInt32)), (.int (4000 : Int32))])) _
      refine XS.iconst X0.here hx rfl (hb hby at_12) ?_
      show Steps p.tables e below (s₁.setTop (mkF m 13 #[.val (.int p1), .val (.int p2), .val (.int p3), .val (.int p4), .unset, .unset, .unset, .unset] [(.int (3 : Int32)), (.int ((p1.toUInt32 >>> ((1 : Int32) &&& 31).toUInt32).toInt32)), (.int (4000 : Int32))])) _
      refine XS.iand X0.here hx rfl (hb hby at_13) rfl ?_
      show Steps p.tables e below (s₁.setTop (mkF m 14 #[.val (.int p1), .val (.int p2), .val (.int p3), .val (.int p4), .unset, .unset, .unset, .unset] [(.int (((p1.toUInt32 >>> ((1 : Int32) &&& 31).toUInt32).toInt32) &&& (3 : Int32))), (.int (4000 : Int32))])) _
      refine XS.isub X0.here hx rfl (hb hby at_14) rfl ?_
      rw [he]
      show Steps p.tables e below (s₁.setTop (mkF m 15 #[.val (.int p1), .val (.int p2), .val (.int p3), .val (.int p4), .unset, .unset, .unset, .unset] [(.int (0 : Int32))])) _
      refine XS.istore X0.here hx rfl (hb hby at_15) rfl (l' := #[.val (.int p1), .val (.int p2), .val (.int p3), .val (.int p4), .val (.int (0 : Int32)), .unset, .unset, .unset]) rfl ?_
      show Steps p.tables e below (s₁.setTop (mkF m 17 #[.val (.int p1), .val (.int p2), .val (.int p3), .val (.int p4), .val (.int (0 : Int32)), .unset, .unset, .unset] [])) _
      refine XS.goto X0.here hx rfl (pc0 := 17) (pc' := 32) rfl (hb hby at_17) (by decide) (by decide) ?_
      show Steps p.tables e below (s₁.setTop (mkF m 32 #[.val (.int p1), .val (.int p2), .val (.int p3), .val (.int p4), .val (.int (0 : Int32)), .unset, .unset, .unset] [])) _
      refine XS.iload X0.here hx rfl (hb hby at_32) rfl ?_
      show Steps p.tables e below (s₁.setTop (mkF m 34 #[.val (.int p1), .val (.int p2), .val (.int p3), .val (.int p4), .val (.int (0 : Int32)), .unset, .unset, .unset] [(.int (0 : Int32))])) _
      exact h)
  obtain ⟨T240, h240, k240, X240, e240, E240, A240, st240⟩ := newP X0 hx hZ (hw _ (List.mem_of_getElem? (i := 1) rfl)) e0 (g := (mkF m 34 #[.val (.int p1), .val (.int p2), .val (.int p3), .val (.int p4), .val (.int (0 : Int32)), .unset, .unset, .unset] [(.int (0 : Int32))])) rfl (hb hby at_34) rfl (by decide) (cap := 0) (by decide) (by decide) (by decide) (by decide)
  obtain ⟨b240, g240⟩ : ∃ z, z = h0.size := ⟨_, rfl⟩
  rw [← g240] at A240 st240
  have k242 : Rch p e below S0 T240 (mkF m 36 #[.val (.int p1), .val (.int p2), .val (.int p3), .val (.int p4), .val (.int (0 : Int32)), .unset, .unset, .unset] [(.ref b240)]) := fun t h => k241 t (st240 t h)
  have ge_b240 : n0 ≤ b240 := own_ge O0 (Nat.le_of_eq g240.symm)
  have sf_b240 : Safe Z consts_1 s.vm h0 b240 := Safe.new (Nat.le_of_eq g240.symm)
  replace sf_b240 := Safe.ext E240 hC0 sf_b240
  have hC243 := hC0.ext E240
  have rC243 := rC0.trans (CHr.ext E240 hC0)
  have O244 := O0.ext E240
  have hkk245 := Nat.le_trans hk E240.1
  have V_b240 : Arv Z h240 b240 k240 .char (0 : Int32) [] (.int (0 : Int32)) := (Arv.new A240 (by decide)).pad (pad_rep [] (.int (0 : Int32)) 0)
  have k247 : Rch p e below S0 T240 (mkF m 76 #[.val (.int p1), .val (.int p2), .val (.int p3), .val (.int p4), .val (.int (0 : Int32)), .val (.ref b240), .unset, .unset] []) := fun t h => k242 t (by
      show Steps p.tables e below (T240.setTop (mkF m 36 #[.val (.int p1), .val (.int p2), .val (.int p3), .val (.int p4), .val (.int (0 : Int32)), .unset, .unset, .unset] [(.ref b240)])) _
      refine XS.astore X240.here hx rfl (hb hby at_36) rfl rfl (l' := #[.val (.int p1), .val (.int p2), .val (.int p3), .val (.int p4), .val (.int (0 : Int32)), .val (.ref b240), .unset, .unset]) rfl ?_
      show Steps p.tables e below (T240.setTop (mkF m 38 #[.val (.int p1), .val (.int p2), .val (.int p3), .val (.int p4), .val (.int (0 : Int32)), .val (.ref b240), .unset, .unset] [])) _
      refine XS.iload X240.here hx rfl (hb hby at_38) rfl ?_
      show Steps p.tables e below (T240.setTop (mkF m 40 #[.val (.int p1), .val (.int p2), .val (.int p3), .val (.int p4), .val (.int (0 : Int32)), .val (.ref b240), .unset, .unset] [(.int (0 : Int32))])) _
      refine XS.ifYes X240.here hx rfl (pc0 := 40) (pc' := 76) rfl (hb hby at_40) rfl ((if0 _ _).trans (flt (by decide : ¬ ((0 : Int32) < (0 : Int32)))).2.2.2) (by decide) (by decide) ?_
      show Steps p.tables e below (T240.setTop (mkF m 76 #[.val (.int p1), .val (.int p2), .val (.int p3), .val (.int p4), .val (.int (0 : Int32)), .val (.ref b240), .unset, .unset] [])) _
      exact h)
  obtain ⟨T246, h246, X246, e246, E246, A246, D246, -, st246⟩ := newO X240 hx hZ hown (hw _ (List.mem_of_getElem? (i := 2) rfl)) (hw _ (List.mem_of_getElem? (i := 3) rfl)) (hw _ (List.mem_of_getElem? (i := 4) rfl)) e240 (g := (mkF m 76 #[.val (.int p1), .val (.int p2), .val (.int p3), .val (.int p4), .val (.int (0 : Int32)), .val (.ref b240), .unset, .unset] [])) rfl (hb hby at_76) (by decide) (by decide)
  obtain ⟨b246, g246⟩ : ∃ z, z = h240.size := ⟨_, rfl⟩
  rw [← g246] at A246 D246 st246
  have k248 : Rch p e below S0 T246 (mkF m 79 #[.val (.int p1), .val (.int p2), .val (.int p3), .val (.int p4), .val (.int (0 : Int32)), .val (.ref b240), .unset, .unset] [(.ref b246)]) := fun t h => k247 t (st246 t h)
  have ne_b240_b246 : b240 ≠ b246 := own_ne V_b240.lt (Nat.le_of_eq g246.symm)
  have ge_b246 : n0 ≤ b246 := own_ge O244 (Nat.le_of_eq g246.symm)
  have sf_b246 : Safe Z consts_1 s.vm h240 b246 := Safe.new (Nat.le_of_eq g246.symm)
  replace sf_b240 := Safe.ext E246 hC243 sf_b240
  replace sf_b246 := Safe.ext E246 hC243 sf_b246
  have hC249 := hC243.ext E246
  have rC249 := rC243.trans (CHr.ext E246 hC243)
  have O250 := O244.ext E246
  replace V_b240 := V_b240.ext E246
  have hkk251 := Nat.le_trans hkk245 E246.1
  have E_b246 := A246
  have F_b246_value : Fld Z h246 b246 "java/lang/String" "value" "[B" .null := D246 (Or.inr (hw _ (List.mem_of_getElem? (i := 17) rfl))) (ty := (.array .byte)) (by decide)
  have F_b246_coder : Fld Z h246 b246 "java/lang/String" "coder" "B" (.int (0 : Int32)) := D246 (Or.inr (hw _ (List.mem_of_getElem? (i := 18) rfl))) (ty := .byte) (by decide)
  have k252 : Rch p e below S0 T246 (mkF m 82 #[.val (.int p1), .val (.int p2), .val (.int p3), .val (.int p4), .val (.int (0 : Int32)), .val (.ref b240), .unset, .unset] [(.ref b240), (.ref b246), (.ref b246)]) := fun t h => k248 t (by
      show Steps p.tables e below (T246.setTop (mkF m 79 #[.val (.int p1), .val (.int p2), .val (.int p3), .val (.int p4), .val (.int (0 : Int32)), .val (.ref b240), .unset, .unset] [(.ref b246)])) _
      refine XS.dup X246.here hx rfl (hb hby at_79) rfl rfl ?_
      show Steps p.tables e below (T246.setTop (mkF m 80 #[.val (.int p1), .val (.int p2), .val (.int p3), .val (.int p4), .val (.int (0 : Int32)), .val (.ref b240), .unset, .unset] [(.ref b246), (.ref b246)])) _
      refine XS.aload X246.here hx rfl (hb hby at_80) rfl rfl ?_
      show Steps p.tables e below (T246.setTop (mkF m 82 #[.val (.int p1), .val (.int p2), .val (.int p3), .val (.int p4), .val (.int (0 : Int32)), .val (.ref b240), .unset, .unset] [(.ref b240), (.ref b246), (.ref b246)])) _
      exact h)
  obtain ⟨_, _, ⟨T253, L253, kk253, n253⟩, -, X253, hS253, gr253, ⟨Lc253, hQ253, l253, y253, z253, hR253⟩, st253⟩ := X246.specialBackS hx (y := (⟨"java/lang/String", "<init>", "([C)V"⟩ : MethodName)) rfl hown (mvT hZ (hw _ (List.mem_of_getElem? (i := 5) rfl))) (mvT hZ (hw _ (List.mem_of_getElem? (i := 6) rfl))) (mvT hZ (hw _ (List.mem_of_getElem? (i := 7) rfl))) (by decide) (backOfSH (W := 1) (rmS0 l Z a0 hw [] b246 b240 k240 h246 n0 O250 ge_b246 E_b246 F_b246_value F_b246_coder V_b240) hZ (hw _ (List.mem_of_getElem? (i := 7) rfl)) (hw _ (List.mem_of_getElem? (i := 4) rfl)) (by decide) (by decide) hEL hC249) (g := (mkF m 82 #[.val (.int p1), .val (.int p2), .val (.int p3), .val (.int p4), .val (.int (0 : Int32)), .val (.ref b240), .unset, .unset] [(.ref b240), (.ref b246), (.ref b246)])) rfl (by rw [hml]; rfl) (Steps.refl _) (a := b246) (argsL := [(.ref b240)]) (rest := [(.ref b246)]) (lenOf pd_0 rfl) rfl (by show 2 * 0 + _ ≤ _; exact Nat.le_of_eq rfl) (hb hby at_82) (fun _ _ => ⟨rfl, e246, (by decide : 2 + 4 ≤ _), (by decide : 4 + 8 ≤ _)⟩)
  dsimp only [Pt.U, Pt.locs, Pt.cells, Pt.slots] at X253 l253 y253 z253 st253 hQ253 hS253 gr253 hR253
  subst l253 y253 z253
  have hZ253 : Z.Warmed39 (s.setVm T253.vm).vm := State.Warmed39.trans (t := (s.setVm s.vm)) hZ hS253.1
  have hown253 : (s.setVm T253.vm).vm.findClass "com/example/remodel/remodel/SettingTableCheckValuePinLaw" = some m.cls := by rw [show (s.setVm T253.vm).vm = T253.vm from rfl, hS253.1.alike.findClass]; exact hown
  replace hS253 := foldS hS (by rw [e246]; exact hkk251) hS253 gr253
  have hk253 := Nat.le_refl T253.heap.size
  replace X253 : Stand p l e room_1 (s.setVm T253.vm) m #[(.int p1), (.int p2), (.int p3), (.int p4)] below meth c T253 _ _ _ := X253
  obtain ⟨rfl, Nq253, K253, t253, kt253, Fv253, Fc253, At253⟩ := hQ253
  have N253 := Fr.app N0 Nq253
  have k254 : Rch p e below S0 T253 (mkF m 85 #[.val (.int p1), .val (.int p2), .val (.int p3), .val (.int p4), .val (.int (0 : Int32)), .val (.ref b240), .unset, .unset] [(.ref b246)]) := fun t h => k252 t (st253.trans h)
  replace sf_b240 := hR253.safe V_b240.lt sf_b240
  replace sf_b246 := hR253.safe E_b246.lt sf_b246
  have hC255 := hR253.1
  have rC255 := rC249.trans hR253
  have O256 := O250.keep K253 (allS ge_b246 all0)
  replace V_b240 := V_b240.keep K253 (ninS ne_b240_b246 nin0)
  replace E_b246 := E_b246.keep K253
  have k257 : Rch p e below S0 T253 (mkF m 89 #[.val (.int p1), .val (.int p2), .val (.int p3), .val (.int p4), .val (.int (0 : Int32)), .val (.ref b240), .val (.ref b246), .unset] [(.ref b246)]) := fun t h => k254 t (by
      show Steps p.tables e below (T253.setTop (mkF m 85 #[.val (.int p1), .val (.int p2), .val (.int p3), .val (.int p4), .val (.int (0 : Int32)), .val (.ref b240), .unset, .unset] [(.ref b246)])) _
      refine XS.astore X253.here hx rfl (hb hby at_85) rfl rfl (l' := #[.val (.int p1), .val (.int p2), .val (.int p3), .val (.int p4), .val (.int (0 : Int32)), .val (.ref b240), .val (.ref b246), .unset]) rfl ?_
      show Steps p.tables e below (T253.setTop (mkF m 87 #[.val (.int p1), .val (.int p2), .val (.int p3), .val (.int p4), .val (.int (0 : Int32)), .val (.ref b240), .val (.ref b246), .unset] [])) _
      refine XS.aload X253.here hx rfl (hb hby at_87) rfl rfl ?_
      show Steps p.tables e below (T253.setTop (mkF m 89 #[.val (.int p1), .val (.int p2), .val (.int p3), .val (.int p4), .val (.int (0 : Int32)), .val (.ref b240), .val (.ref b246), .unset] [(.ref b246)])) _
      exact h)
  have hLL : ((0 : Int32) >>> (nar .byte (0 : Int32) &&& 31)) = (0 : Int32) := by decide
  obtain ⟨_, _, ⟨T258, L258, kk258, n258⟩, -, X258, hS258, gr258, ⟨Lc258, hQ258, l258, y258, z258, hR258⟩, st258⟩ := callSS X253 hx (y := (⟨"com/example/remodel/remodel/SettingTable", "checkValue", "(Ljava/lang/String;)Ljava/lang/String;"⟩ : MethodName)) hown253 (mvT hZ253 (hw _ (List.mem_of_getElem? (i := 23) rfl))) (mvT hZ253 (hw _ (List.mem_of_getElem? (i := 24) rfl))) (mvT hZ253 (hw _ (List.mem_of_getElem? (i := 25) rfl))) (mvT hZ253 (hw _ (List.mem_of_getElem? (i := 26) rfl))) (by decide) (backOfSH (W := 0) (rmH l Z a0 hw [] b246 t253 kt253 (0 : Int32) [] (0 : Int32) zC (0 : Int32) T253.heap n0 O256 SC hzC E_b246 Fv253 Fc253 At253 hLL (by decide)) hZ253 (hw _ (List.mem_of_getElem? (i := 26) rfl)) (hw _ (List.mem_of_getElem? (i := 25) rfl)) (by decide) (by decide) hEL hC255) (g := (mkF m 89 #[.val (.int p1), .val (.int p2), .val (.int p3), .val (.int p4), .val (.int (0 : Int32)), .val (.ref b240), .val (.ref b246), .unset] [(.ref b246)])) rfl (by rw [hml]; rfl) (argsL := [(.ref b246)]) (rest := []) (lenOf pd_3 rfl) rfl (by show 2 * 0 + _ ≤ _; exact Nat.le_of_eq rfl) (hb hby at_89) (fun _ _ => ⟨rfl, rfl, (by decide : 6 + 2 ≤ _), (by decide : 12 + 24 ≤ _)⟩)
  dsimp only [Pt.U, Pt.locs, Pt.cells, Pt.slots] at X258 l258 y258 z258 st258 hQ258 hS258 gr258 hR258
  subst l258 y258 z258
  have hZ258 : Z.Warmed39 (s.setVm T258.vm).vm := State.Warmed39.trans (t := (s.setVm T253.vm)) hZ253 hS258.1
  have hown258 : (s.setVm T258.vm).vm.findClass "com/example/remodel/remodel/SettingTableCheckValuePinLaw" = some m.cls := by rw [show (s.setVm T258.vm).vm = T258.vm from rfl, hS258.1.alike.findClass]; exact hown253
  replace hS258 := foldS hS253 (by exact hk253) hS258 gr258
  have hk258 := Nat.le_refl T258.heap.size
  replace X258 : Stand p l e room_1 (s.setVm T258.vm) m #[(.int p1), (.int p2), (.int p3), (.int p4)] below meth c T258 _ _ _ := X258
  obtain ⟨rfl, Nq258, E258⟩ := hQ258
  have N258 := Fr.app N253 Nq258
  have k259 : Rch p e below S0 T258 (mkF m 92 #[.val (.int p1), .val (.int p2), .val (.int p3), .val (.int p4), .val (.int (0 : Int32)), .val (.ref b240), .val (.ref b246), .unset] [(.ref b246)]) := fun t h => k257 t (st258.trans h)
  replace sf_b240 := hR258.safe V_b240.lt sf_b240
  replace sf_b246 := hR258.safe E_b246.lt sf_b246
  have hC260 := hR258.1
  have rC260 := rC255.trans hR258
  have O261 := O256.ext E258
  replace V_b240 := V_b240.ext E258
  replace E_b246 := E_b246.ext E258
  replace Fv253 := Fv253.ext E258
  replace Fc253 := Fc253.ext E258
  replace At253 := At253.ext E258
  have k262 : Rch p e below S0 T258 (mkF m 103 #[.val (.int p1), .val (.int p2), .val (.int p3), .val (.int p4), .val (.int (0 : Int32)), .val (.ref b240), .val (.ref b246), .val (.ref b246)] [(.ref b246)]) := fun t h => k259 t (by
      show Steps p.tables e below (T258.setTop (mkF m 92 #[.val (.int p1), .val (.int p2), .val (.int p3), .val (.int p4), .val (.int (0 : Int32)), .val (.ref b240), .val (.ref b246), .unset] [(.ref b246)])) _
      refine XS.astore X258.here hx rfl (hb hby at_92) rfl rfl (l' := #[.val (.int p1), .val (.int p2), .val (.int p3), .val (.int p4), .val (.int (0 : Int32)), .val (.ref b240), .val (.ref b246), .val (.ref b246)]) rfl ?_
      show Steps p.tables e below (T258.setTop (mkF m 94 #[.val (.int p1), .val (.int p2), .val (.int p3), .val (.int p4), .val (.int (0 : Int32)), .val (.ref b240), .val (.ref b246), .val (.ref b246)] [])) _
      refine XS.aload X258.here hx rfl (hb hby at_94) rfl rfl ?_
      show Steps p.tables e below (T258.setTop (mkF m 96 #[.val (.int p1), .val (.int p2), .val (.int p3), .val (.int p4), .val (.int (0 : Int32)), .val (.ref b240), .val (.ref b246), .val (.ref b246)] [(.ref b246)])) _
      refine XS.aload X258.here hx rfl (hb hby at_96) rfl rfl ?_
      show Steps p.tables e below (T258.setTop (mkF m 98 #[.val (.int p1), .val (.int p2), .val (.int p3), .val (.int p4), .val (.int (0 : Int32)), .val (.ref b240), .val (.ref b246), .val (.ref b246)] [(.ref b246), (.ref b246)])) _
      refine Jvm.RoadKit.acmp (g := (mkF m 98 #[.val (.int p1), .val (.int p2), .val (.int p3), .val (.int p4), .val (.int (0 : Int32)), .val (.ref b240), .val (.ref b246), .val (.ref b246)] [(.ref b246), (.ref b246)])) X258 hx rfl rfl rfl (pc0 := 98) (pc' := 101) (same := true) rfl (hb hby at_98) rfl (decide_eq_true rfl) (by decide) (by decide) ?_
      show Steps p.tables e below (T258.setTop (mkF m 101 #[.val (.int p1), .val (.int p2), .val (.int p3), .val (.int p4), .val (.int (0 : Int32)), .val (.ref b240), .val (.ref b246), .val (.ref b246)] [])) _
      refine XS.aload X258.here hx rfl (hb hby at_101) rfl rfl ?_
      show Steps p.tables e below (T258.setTop (mkF m 103 #[.val (.int p1), .val (.int p2), .val (.int p3), .val (.int p4), .val (.int (0 : Int32)), .val (.ref b240), .val (.ref b246), .val (.ref b246)] [(.ref b246)])) _
      exact h)
  obtain ⟨cq263, kq263, q263a, q263b, q263c⟩ := isOf hZ258 rfl E_b246
  obtain ⟨_, _, ⟨T263, L263, kk263, n263⟩, -, X263, ⟨Lc263, hQ263, l263, y263, z263⟩, st263⟩ := X258.virtualBack hx (y := (⟨"java/lang/String", "length", "()I"⟩ : MethodName)) (z := (⟨"java/lang/String", "length", "()I"⟩ : MethodName)) hown258 (mvT hZ258 (hw _ (List.mem_of_getElem? (i := 43) rfl))) (mvT hZ258 (hw _ (List.mem_of_getElem? (i := 33) rfl))) (notFace_of_selects (args := #[]) (mvT hZ258 (hw _ (List.mem_of_getElem? (i := 35) rfl)))) (mvT hZ258 (hw _ (List.mem_of_getElem? (i := 35) rfl))) (mvT hZ258 (hw _ (List.mem_of_getElem? (i := 34) rfl))) (by decide) (backOf (W := 0) (rmLE l Z a0 hw [] b246 t253 kt253 (0 : Int32) [] (0 : Int32) zC (0 : Int32) T258.heap n0 O261 SC hzC E_b246 Fv253 Fc253 At253 hLL) hZ258 (hw _ (List.mem_of_getElem? (i := 36) rfl)) (hw _ (List.mem_of_getElem? (i := 4) rfl)) (by decide) (by decide)) q263a q263c (g := (mkF m 103 #[.val (.int p1), .val (.int p2), .val (.int p3), .val (.int p4), .val (.int (0 : Int32)), .val (.ref b240), .val (.ref b246), .val (.ref b246)] [(.ref b246)])) rfl (by rw [hml]; rfl) (Steps.refl _) (argsL := []) (rest := []) (lenOf pd_5 rfl) rfl (by show 2 * 0 + _ ≤ _; exact Nat.le_of_eq rfl) (hb hby at_103) (fun _ _ => ⟨rfl, rfl, (by decide : 8 + 0 ≤ _), (by decide : 36 + 0 ≤ _)⟩)
  dsimp only [Pt.U, Pt.locs, Pt.cells, Pt.slots] at X263 l263 y263 z263 st263 hQ263
  subst l263 y263 z263
  obtain ⟨rfl, Nq263, hh263⟩ := hQ263
  have N263 := Fr.app N258 Nq263
  have k264 : Rch p e below S0 T263 (mkF m 106 #[.val (.int p1), .val (.int p2), .val (.int p3), .val (.int p4), .val (.int (0 : Int32)), .val (.ref b240), .val (.ref b246), .val (.ref b246)] [(.int (0 : Int32))]) := fun t h => k262 t (st263.trans h)
  have k265 : Rch p e below S0 T263 (mkF m 116 #[.val (.int p1), .val (.int p2), .val (.int p3), .val (.int p4), .val (.int (0 : Int32)), .val (.ref b240), .val (.ref b246), .val (.ref b246)] [(.int (1 : Int32))]) := fun t h => k264 t (by
      show Steps p.tables e below (T263.setTop (mkF m 106 #[.val (.int p1), .val (.int p2), .val (.int p3), .val (.int p4), .val (.int (0 : Int32)), .val (.ref b240), .val (.ref b246), .val (.ref b246)] [(.int (0 : Int32))])) _
      refine XS.iload X263.here hx rfl (hb hby at_106) rfl ?_
      show Steps p.tables e below (T263.setTop (mkF m 108 #[.val (.int p1), .val (.int p2), .val (.int p3), .val (.int p4), .val (.int (0 : Int32)), .val (.ref b240), .val (.ref b246), .val (.ref b246)] [(.int (0 : Int32)), (.int (0 : Int32))])) _
      refine XS.icmpNo X263.here hx rfl (hb hby at_108) rfl (teq (by decide : (0 : Int32) = (0 : Int32))).2 ?_
      show Steps p.tables e below (T263.setTop (mkF m 111 #[.val (.int p1), .val (.int p2), .val (.int p3), .val (.int p4), .val (.int (0 : Int32)), .val (.ref b240), .val (.ref b246), .val (.ref b246)] [])) _
      refine XS.iconst X263.here hx rfl (hb hby at_111) ?_
      show Steps p.tables e below (T263.setTop (mkF m 112 #[.val (.int p1), .val (.int p2), .val (.int p3), .val (.int p4), .val (.int (0 : Int32)), .val (.ref b240), .val (.ref b246), .val (.ref b246)] [(.int (1 : Int32))])) _
      refine XS.goto X263.here hx rfl (pc0 := 112) (pc' := 116) rfl (hb hby at_112) (by decide) (by decide) ?_
      show Steps p.tables e below (T263.setTop (mkF m 116 #[.val (.int p1), .val (.int p2), .val (.int p3), .val (.int p4), .val (.int (0 : Int32)), .val (.ref b240), .val (.ref b246), .val (.ref b246)] [(.int (1 : Int32))])) _
      exact h)
  obtain ⟨fs, hr, hrun, hended, hfin⟩ := X263.leaveW hS258 (by rw [hh263]; exact hk258) (v := (some (.int (1 : Int32)))) (fun h => by rw [Bd.returns] at h; cases h)
  refine ⟨_, _, ?_, hrun, hended, _, _, rfl, ?_, (by rw [hh]; have q := own_chr rC260 (CHv.at X263 hZ258 hEL hC260) hh263; exact q), hfin.1, hfin.2.1, hfin.2.2.1, hfin.2.2.2.mono (by decide) (by decide)⟩
  · rw [← hS0]
    refine k265 _ ?_
    show Steps p.tables e below (T263.setTop (mkF m 116 #[.val (.int p1), .val (.int p2), .val (.int p3), .val (.int p4), .val (.int (0 : Int32)), .val (.ref b240), .val (.ref b246), .val (.ref b246)] [(.int (1 : Int32))])) _
    exact retN X263 hx (t := .boolean) Bd.returns (by simp) (hb hby at_116) hr
  · show Q_rm0_A0 Z  h0 n0 _ T263.heap _
    rw [hh263]
    exact ⟨rfl, N263⟩
def Q_rm0_Al (Z : State)  (h0 : Heap) (n0 : Nat) (v : Option Value) (h : Heap) (L : List Loc) : Prop := v = some (.int (1 : Int32)) ∧ Fr n0 L
set_option maxRecDepth 65536 in
set_option maxHeartbeats 40000000 in
theorem rm0_Al (l : Launch) (Z : State) (a0 : Array Value) (hw : ∀ d ∈ tables_1, d.before a0 Z = true) (ws : List Jvm.Cond) (p1 : Int32) (p2 : Int32) (p3 : Int32) (p4 : Int32) (zC : Int32) (nn : Nat) (pp : Nat) (h0 : Heap) (n0 : Nat) (O0 : Old Z n0 h0) (SAs : Sta Z Z.heap "java/lang/StringUTF16" "$assertionsDisabled" "Z" (.int (1 : Int32))) (SHi : Sta Z Z.heap "java/lang/StringUTF16" "HI_BYTE_SHIFT" "I" (.int (0 : Int32))) (SLo : Sta Z Z.heap "java/lang/StringUTF16" "LO_BYTE_SHIFT" "I" (.int (8 : Int32))) (SC : Sta Z Z.heap "java/lang/String" "COMPACT_STRINGS" "Z" (.int zC)) (hzC : ¬ zC = 0) (hc : ¬ (p1 &&& 1 = 0)) (he : ((4000 : Int32) - (((p1.toUInt32 >>> ((1 : Int32) &&& 31).toUInt32).toInt32) &&& (3 : Int32))) = (Int32.ofNat nn)) (hn1 : 0 < nn) (hn2 : nn ≤ 4000) (hp1 : pp < nn) (hpe : ((p4 &&& (2147483647 : Int32)) % (Int32.ofNat nn)) = (Int32.ofNat pp)) (hlow : ∀ i, i < nn → ¬ (255 : Int32) < (own_cs nn pp (p2.toUInt32.toUInt16.toUInt32.toInt32) (p3.toUInt32.toUInt16.toUInt32.toInt32) ((p2 ^^^ p3).toUInt32.toUInt16.toUInt32.toInt32)).getD i 0) :
    MetFree l x (head1 (Jvm.Cond.code x code maxLocals ret :: ws) room_1) (fun a U => a = #[(.int p1), (.int p2), (.int p3), (.int p4)] ∧ Z.Warmed39 U.vm ∧ U.heap = h0 ∧ CHv Z consts_1 U.vm h0) (fun _ _ _ _ _ => True) (fun _ U o U' => ∃ v L, o = .returned v ∧ Q_rm0_Al Z  h0 n0 v U'.heap L ∧ CHr Z consts_1 U.vm U.heap U'.vm U'.heap ∧ ReturnedEndW U o U' L room_1.cells room_1.slots) := by
  refine MetFree.of_bodySF (plainFor_of_name pn_SettingTableCheckValuePinLaw) hisR ?_
  intro p e s m args below meth c s₁ Bd hml0 hP hK
  obtain ⟨rfl, hZ, hh, hC0⟩ := hP
  have hx := Bd.exec
  have hby := Bd.bytes
  have hml : c.maxLocals = 8 := hml0
  have hown : s.vm.findClass "com/example/remodel/remodel/SettingTableCheckValuePinLaw" = some m.cls := findClass_of_methodNamed Bd.named
  have hnm := (name_of_methodNamed Bd.named Bd.method).1
  have X0 : Stand p l e room_1 (s.setVm s.vm) m #[(.int p1), (.int p2), (.int p3), (.int p4)] below meth c s₁ [] 0 0 := Stand.of_body Bd
  have e0 : s₁.heap = h0 := by rw [← hh, Bd.state]; rfl
  have N0 := Fr.nil n0
  obtain ⟨S0, hS0⟩ : ∃ z, z = s₁.setTop (entryFrame m #[(.int p1), (.int p2), (.int p3), (.int p4)] maxLocals) := ⟨_, rfl⟩
  have k0 : Rch p e below S0 s₁ (mkF m 0 #[.val (.int p1), .val (.int p2), .val (.int p3), .val (.int p4), .unset, .unset, .unset, .unset] []) := fun t kq => hS0 ▸ castTop (ef_0 m p1 p2 p3 p4) kq
  have hS : s.Since s.vm s.heap.size := (State.WarmedH.refl s).since _
  have hk : s.heap.size ≤ h0.size := by rw [← hh]; exact Nat.le_refl _
  have hwS : ∀ d ∈ Bundle.stringAtoms, d.before a0 Z = true := fun d hd => hw d ((by decide +kernel : ∀ d ∈ Bundle.stringAtoms, d ∈ tables_1) d hd)
  have rC0 : CHr Z consts_1 s.vm h0 s.vm h0 := CHr.refl hC0
  have hEL : EW Z a0 consts_1 := (EW.cons (hw _ (List.mem_of_getElem? (i := 27) rfl)) (by decide +kernel) (EW.cons (hw _ (List.mem_of_getElem? (i := 15) rfl)) (by decide +kernel) EW.nil))
  have k267 : Rch p e below S0 s₁ (mkF m 34 #[.val (.int p1), .val (.int p2), .val (.int p3), .val (.int p4), .val (.int (Int32.ofNat nn)), .unset, .unset, .unset] [(.int (Int32.ofNat nn))]) := fun t h => k0 t (by
      show Steps p.tables e below (s₁.setTop (mkF m 0 #[.val (.int p1), .val (.int p2), .val (.int p3), .val (.int p4), .unset, .unset, .unset, .unset] [])) _
      refine XS.iloadN X0.here hx rfl (hb hby at_0) rfl ?_
      show Steps p.tables e below (s₁.setTop (mkF m 1 #[.val (.int p1), .val (.int p2), .val (.int p3), .val (.int p4), .unset, .unset, .unset, .unset] [(.int p1)])) _
      refine XS.iconst X0.here hx rfl (hb hby at_1) ?_
      show Steps p.tables e below (s₁.setTop (mkF m 2 #[.val (.int p1), .val (.int p2), .val (.int p3), .val (.int p4), .unset, .unset, .unset, .unset] [(.int (1 : Int32)), (.int p1)])) _
      refine XS.iand X0.here hx rfl (hb hby at_2) rfl ?_
      show Steps p.tables e below (s₁.setTop (mkF m 3 #[.val (.int p1), .val (.int p2), .val (.int p3), .val (.int p4), .unset, .unset, .unset, .unset] [(.int (p1 &&& (1 : Int32)))])) _
      refine XS.ifNo X0.here hx rfl (hb hby at_3) rfl ((if0 _ _).trans (feq (hc : ¬ ((p1 &&& (1 : Int32)) = (0 : Int32)))).1) ?_
      show Steps p.tables e below (s₁.setTop (mkF m 6 #[.val (.int p1), .val (.int p2), .val (.int p3), .val (.int p4), .unset, .unset, .unset, .unset] [])) _
      refine XS.sipush X0.here hx rfl (hb hby at_6) ?_
      show Steps p.tables e below (s₁.setTop (mkF m 9 #[.val (.int p1), .val (.int p2), .val (.int p3), .val (.int p4), .unset, .unset, .unset, .unset] [(.int (4000 : Int32))])) _
      refine XS.iloadN X0.here hx rfl (hb hby at_9) rfl ?_
      show Steps p.tables e below (s₁.setTop (mkF m 10 #[.val (.int p1), .val (.int p2), .val (.int p3), .val (.int p4), .unset, .unset, .unset, .unset] [(.int p1), (.int (4000 : Int32))])) _
      refine XS.iconst X0.here hx rfl (hb hby at_10) ?_
      show Steps p.tables e below (s₁.setTop (mkF m 11 #[.val (.int p1), .val (.int p2), .val (.int p3), .val (.int p4), .unset, .unset, .unset, .unset] [(.int (1 : Int32)), (.int p1), (.int (4000 : Int32))])) _
      refine XS.iushr X0.here hx rfl (hb hby at_11) rfl ?_
      show Steps p.tables e below (s₁.setTop (mkF m 12 #[.val (.int p1), .val (.int p2), .val (.int p3), .val (.int p4), .unset, .unset, .unset, .unset] [(.int ((p1.toUInt32 >>> ((1 : Int32) &&& 31).toUInt32).toInt32)), (.int (4000 : Int32))])) _
      refine XS.iconst X0.here hx rfl (hb hby at_12) ?_
      show Steps p.tables e below (s₁.setTop (mkF m 13 #[.val (.int p1), .val (.int p2), .val (.int p3), .val (.int p4), .unset, .unset, .unset, .unset] [(.int (3 : Int32)), (.int ((p1.toUInt32 >>> ((1 : Int32) &&& 31).toUInt32).toInt32)), (.int (4000 : Int32))])) _
      refine XS.iand X0.here hx rfl (hb hby at_13) rfl ?_
      show Steps p.tables e below (s₁.setTop (mkF m 14 #[.val (.int p1), .val (.int p2), .val (.int p3), .val (.int p4), .unset, .unset, .unset, .unset] [(.int (((p1.toUInt32 >>> ((1 : Int32) &&& 31).toUInt32).toInt32) &&& (3 : Int32))), (.int (4000 : Int32))])) _
      refine XS.isub X0.here hx rfl (hb hby at_14) rfl ?_
      rw [he]
      show Steps p.tables e below (s₁.setTop (mkF m 15 #[.val (.int p1), .val (.int p2), .val (.int p3), .val (.int p4), .unset, .unset, .unset, .unset] [(.int (Int32.ofNat nn))])) _
      refine XS.istore X0.here hx rfl (hb hby at_15) rfl (l' := #[.val (.int p1), .val (.int p2), .val (.int p3), .val (.int p4), .val (.int (Int32.ofNat nn)), .unset, .unset, .unset]) rfl ?_
      show Steps p.tables e below (s₁.setTop (mkF m 17 #[.val (.int p1), .val (.int p2), .val (.int p3), .val (.int p4), .val (.int (Int32.ofNat nn)), .unset, .unset, .unset] [])) _
      refine XS.goto X0.here hx rfl (pc0 := 17) (pc' := 32) rfl (hb hby at_17) (by decide) (by decide) ?_
      show Steps p.tables e below (s₁.setTop (mkF m 32 #[.val (.int p1), .val (.int p2), .val (.int p3), .val (.int p4), .val (.int (Int32.ofNat nn)), .unset, .unset, .unset] [])) _
      refine XS.iload X0.here hx rfl (hb hby at_32) rfl ?_
      show Steps p.tables e below (s₁.setTop (mkF m 34 #[.val (.int p1), .val (.int p2), .val (.int p3), .val (.int p4), .val (.int (Int32.ofNat nn)), .unset, .unset, .unset] [(.int (Int32.ofNat nn))])) _
      exact h)
  obtain ⟨T266, h266, k266, X266, e266, E266, A266, st266⟩ := newP X0 hx hZ (hw _ (List.mem_of_getElem? (i := 1) rfl)) e0 (g := (mkF m 34 #[.val (.int p1), .val (.int p2), .val (.int p3), .val (.int p4), .val (.int (Int32.ofNat nn)), .unset, .unset, .unset] [(.int (Int32.ofNat nn))])) rfl (hb hby at_34) rfl (own_on0 (by omega)) (cap := 4000) (by rw [(own_tn (by omega)).1]; omega) (by decide) (by decide) (by decide)
  obtain ⟨b266, g266⟩ : ∃ z, z = h0.size := ⟨_, rfl⟩
  rw [← g266] at A266 st266
  have k268 : Rch p e below S0 T266 (mkF m 36 #[.val (.int p1), .val (.int p2), .val (.int p3), .val (.int p4), .val (.int (Int32.ofNat nn)), .unset, .unset, .unset] [(.ref b266)]) := fun t h => k267 t (st266 t h)
  have ge_b266 : n0 ≤ b266 := own_ge O0 (Nat.le_of_eq g266.symm)
  have sf_b266 : Safe Z consts_1 s.vm h0 b266 := Safe.new (Nat.le_of_eq g266.symm)
  replace sf_b266 := Safe.ext E266 hC0 sf_b266
  have hC269 := hC0.ext E266
  have rC269 := rC0.trans (CHr.ext E266 hC0)
  have O270 := O0.ext E266
  have hkk271 := Nat.le_trans hk E266.1
  have V_b266 : Arv Z h266 b266 k266 .char (Int32.ofNat nn) [] (.int (0 : Int32)) := Arv.new A266 (own_on0 (by omega))
  have k272 : Rch p e below S0 T266 (mkF m 43 #[.val (.int p1), .val (.int p2), .val (.int p3), .val (.int p4), .val (.int (Int32.ofNat nn)), .val (.ref b266), .unset, .unset] []) := fun t h => k268 t (by
      show Steps p.tables e below (T266.setTop (mkF m 36 #[.val (.int p1), .val (.int p2), .val (.int p3), .val (.int p4), .val (.int (Int32.ofNat nn)), .unset, .unset, .unset] [(.ref b266)])) _
      refine XS.astore X266.here hx rfl (hb hby at_36) rfl rfl (l' := #[.val (.int p1), .val (.int p2), .val (.int p3), .val (.int p4), .val (.int (Int32.ofNat nn)), .val (.ref b266), .unset, .unset]) rfl ?_
      show Steps p.tables e below (T266.setTop (mkF m 38 #[.val (.int p1), .val (.int p2), .val (.int p3), .val (.int p4), .val (.int (Int32.ofNat nn)), .val (.ref b266), .unset, .unset] [])) _
      refine XS.iload X266.here hx rfl (hb hby at_38) rfl ?_
      show Steps p.tables e below (T266.setTop (mkF m 40 #[.val (.int p1), .val (.int p2), .val (.int p3), .val (.int p4), .val (.int (Int32.ofNat nn)), .val (.ref b266), .unset, .unset] [(.int (Int32.ofNat nn))])) _
      refine XS.ifNo X266.here hx rfl (hb hby at_40) rfl ((if0 _ _).trans (tlt ((by rw [Int32.lt_iff_toInt_lt, (own_tn (by omega)).2, show (0 : Int32).toInt = 0 from by decide]; omega) : (0 : Int32) < (Int32.ofNat nn))).2.2.2) ?_
      show Steps p.tables e below (T266.setTop (mkF m 43 #[.val (.int p1), .val (.int p2), .val (.int p3), .val (.int p4), .val (.int (Int32.ofNat nn)), .val (.ref b266), .unset, .unset] [])) _
      exact h)
  replace V_b266 : Arv Z h266 b266 k266 .char (Int32.ofNat nn) (List.replicate nn (Value.int 0)) (.int (0 : Int32)) := by
    have q := V_b266.pad (pad_rep [] (.int (0 : Int32)) nn)
    rwa [List.nil_append] at q
  have k274 : Rch p e below S0 T266 (mkF m 48 #[.val (.int p1), .val (.int p2), .val (.int p3), .val (.int p4), .val (.int (Int32.ofNat nn)), .val (.ref b266), .unset, .unset] [(.int (p2.toUInt32.toUInt16.toUInt32.toInt32)), (.int (0 : Int32)), (.ref b266)]) := fun t h => k272 t (by
      show Steps p.tables e below (T266.setTop (mkF m 43 #[.val (.int p1), .val (.int p2), .val (.int p3), .val (.int p4), .val (.int (Int32.ofNat nn)), .val (.ref b266), .unset, .unset] [])) _
      refine XS.aload X266.here hx rfl (hb hby at_43) rfl rfl ?_
      show Steps p.tables e below (T266.setTop (mkF m 45 #[.val (.int p1), .val (.int p2), .val (.int p3), .val (.int p4), .val (.int (Int32.ofNat nn)), .val (.ref b266), .unset, .unset] [(.ref b266)])) _
      refine XS.iconst X266.here hx rfl (hb hby at_45) ?_
      show Steps p.tables e below (T266.setTop (mkF m 46 #[.val (.int p1), .val (.int p2), .val (.int p3), .val (.int p4), .val (.int (Int32.ofNat nn)), .val (.ref b266), .unset, .unset] [(.int (0 : Int32)), (.ref b266)])) _
      refine XS.iloadN X266.here hx rfl (hb hby at_46) rfl ?_
      show Steps p.tables e below (T266.setTop (mkF m 47 #[.val (.int p1), .val (.int p2), .val (.int p3), .val (.int p4), .val (.int (Int32.ofNat nn)), .val (.ref b266), .unset, .unset] [(.int p2), (.int (0 : Int32)), (.ref b266)])) _
      refine XS.i2c X266.here hx rfl (hb hby at_47) rfl ?_
      show Steps p.tables e below (T266.setTop (mkF m 48 #[.val (.int p1), .val (.int p2), .val (.int p3), .val (.int p4), .val (.int (Int32.ofNat nn)), .val (.ref b266), .unset, .unset] [(.int (p2.toUInt32.toUInt16.toUInt32.toInt32)), (.int (0 : Int32)), (.ref b266)])) _
      exact h)
  obtain ⟨cl273, Ar273, q273, Sz273, Ng273, Hs273, G273⟩ := id V_b266
  have hin273 : ¬ ((0 : Int32) < 0 ∨ cl273.slots.size ≤ ((0 : Int32)).toNatClampNeg) := inb_of Sz273 ⟨by decide, by rw [Int32.lt_iff_toInt_lt, (own_tn (by omega)).2, show (0 : Int32).toInt = 0 from by decide]; omega⟩
  obtain ⟨T273, h273, X273, e273, W273, st273⟩ := stC X266 hx hZ e266 Ar273 (j := (0 : Int32)) hin273 (g := (mkF m 48 #[.val (.int p1), .val (.int p2), .val (.int p3), .val (.int p4), .val (.int (Int32.ofNat nn)), .val (.ref b266), .unset, .unset] [(.int (p2.toUInt32.toUInt16.toUInt32.toInt32)), (.int (0 : Int32)), (.ref b266)])) rfl rfl (hb hby at_48)
  have k275 : Rch p e below S0 T273 (mkF m 49 #[.val (.int p1), .val (.int p2), .val (.int p3), .val (.int p4), .val (.int (Int32.ofNat nn)), .val (.ref b266), .unset, .unset] []) := fun t h => k274 t (st273 t h)
  have N273 := Fr.snoc X273 N0 ge_b266
  have V_b266' := Arv.set Ar273 q273 Sz273 Ng273 Hs273 G273 (fits_nar_char _) W273 0 rfl (by rw [List.length_replicate]; omega)
  replace V_b266 := V_b266'
  have hC276 := hC269.wr W273 sf_b266
  have rC276 := rC269.trans (CHr.wr W273 sf_b266 hC269)
  replace sf_b266 := Safe.wr W273 sf_b266 hC269 sf_b266
  have O277 := O270.wr W273 ge_b266
  have hkk278 := Nat.le_trans hkk271 (Keep.of_wr W273).1
  have k280 : Rch p e below S0 T273 (mkF m 57 #[.val (.int p1), .val (.int p2), .val (.int p3), .val (.int p4), .val (.int (Int32.ofNat nn)), .val (.ref b266), .unset, .unset] [(.int (p3.toUInt32.toUInt16.toUInt32.toInt32)), (.int (Int32.ofNat (nn - 1))), (.ref b266)]) := fun t h => k275 t (by
      show Steps p.tables e below (T273.setTop (mkF m 49 #[.val (.int p1), .val (.int p2), .val (.int p3), .val (.int p4), .val (.int (Int32.ofNat nn)), .val (.ref b266), .unset, .unset] [])) _
      refine XS.aload X273.here hx rfl (hb hby at_49) rfl rfl ?_
      show Steps p.tables e below (T273.setTop (mkF m 51 #[.val (.int p1), .val (.int p2), .val (.int p3), .val (.int p4), .val (.int (Int32.ofNat nn)), .val (.ref b266), .unset, .unset] [(.ref b266)])) _
      refine XS.iload X273.here hx rfl (hb hby at_51) rfl ?_
      show Steps p.tables e below (T273.setTop (mkF m 53 #[.val (.int p1), .val (.int p2), .val (.int p3), .val (.int p4), .val (.int (Int32.ofNat nn)), .val (.ref b266), .unset, .unset] [(.int (Int32.ofNat nn)), (.ref b266)])) _
      refine XS.iconst X273.here hx rfl (hb hby at_53) ?_
      show Steps p.tables e below (T273.setTop (mkF m 54 #[.val (.int p1), .val (.int p2), .val (.int p3), .val (.int p4), .val (.int (Int32.ofNat nn)), .val (.ref b266), .unset, .unset] [(.int (1 : Int32)), (.int (Int32.ofNat nn)), (.ref b266)])) _
      refine XS.isub X273.here hx rfl (hb hby at_54) rfl ?_
      rw [own_pred hn1 hn2]
      show Steps p.tables e below (T273.setTop (mkF m 55 #[.val (.int p1), .val (.int p2), .val (.int p3), .val (.int p4), .val (.int (Int32.ofNat nn)), .val (.ref b266), .unset, .unset] [(.int (Int32.ofNat (nn - 1))), (.ref b266)])) _
      refine XS.iloadN X273.here hx rfl (hb hby at_55) rfl ?_
      show Steps p.tables e below (T273.setTop (mkF m 56 #[.val (.int p1), .val (.int p2), .val (.int p3), .val (.int p4), .val (.int (Int32.ofNat nn)), .val (.ref b266), .unset, .unset] [(.int p3), (.int (Int32.ofNat (nn - 1))), (.ref b266)])) _
      refine XS.i2c X273.here hx rfl (hb hby at_56) rfl ?_
      show Steps p.tables e below (T273.setTop (mkF m 57 #[.val (.int p1), .val (.int p2), .val (.int p3), .val (.int p4), .val (.int (Int32.ofNat nn)), .val (.ref b266), .unset, .unset] [(.int (p3.toUInt32.toUInt16.toUInt32.toInt32)), (.int (Int32.ofNat (nn - 1))), (.ref b266)])) _
      exact h)
  obtain ⟨cl279, Ar279, q279, Sz279, Ng279, Hs279, G279⟩ := id V_b266
  have hin279 : ¬ ((Int32.ofNat (nn - 1)) < 0 ∨ cl279.slots.size ≤ ((Int32.ofNat (nn - 1))).toNatClampNeg) := inb_of Sz279 (own_inb (by omega) (by omega))
  obtain ⟨T279, h279, X279, e279, W279, st279⟩ := stC X273 hx hZ e273 Ar279 (j := (Int32.ofNat (nn - 1))) hin279 (g := (mkF m 57 #[.val (.int p1), .val (.int p2), .val (.int p3), .val (.int p4), .val (.int (Int32.ofNat nn)), .val (.ref b266), .unset, .unset] [(.int (p3.toUInt32.toUInt16.toUInt32.toInt32)), (.int (Int32.ofNat (nn - 1))), (.ref b266)])) rfl rfl (hb hby at_57)
  have k281 : Rch p e below S0 T279 (mkF m 58 #[.val (.int p1), .val (.int p2), .val (.int p3), .val (.int p4), .val (.int (Int32.ofNat nn)), .val (.ref b266), .unset, .unset] []) := fun t h => k280 t (st279 t h)
  have N279 := Fr.snoc X279 N273 ge_b266
  have V_b266' := Arv.set Ar279 q279 Sz279 Ng279 Hs279 G279 (fits_nar_char _) W279 (nn - 1) (own_tn (by omega)).1 (by rw [List.length_set, List.length_replicate]; omega)
  replace V_b266 := V_b266'
  have hC282 := hC276.wr W279 sf_b266
  have rC282 := rC276.trans (CHr.wr W279 sf_b266 hC276)
  replace sf_b266 := Safe.wr W279 sf_b266 hC276 sf_b266
  have O283 := O277.wr W279 ge_b266
  have hkk284 := Nat.le_trans hkk278 (Keep.of_wr W279).1
  have k286 : Rch p e below S0 T279 (mkF m 75 #[.val (.int p1), .val (.int p2), .val (.int p3), .val (.int p4), .val (.int (Int32.ofNat nn)), .val (.ref b266), .val (.int (Int32.ofNat pp)), .unset] [(.int ((p2 ^^^ p3).toUInt32.toUInt16.toUInt32.toInt32)), (.int (Int32.ofNat pp)), (.ref b266)]) := fun t h => k281 t (by
      show Steps p.tables e below (T279.setTop (mkF m 58 #[.val (.int p1), .val (.int p2), .val (.int p3), .val (.int p4), .val (.int (Int32.ofNat nn)), .val (.ref b266), .unset, .unset] [])) _
      refine XS.iloadN X279.here hx rfl (hb hby at_58) rfl ?_
      show Steps p.tables e below (T279.setTop (mkF m 59 #[.val (.int p1), .val (.int p2), .val (.int p3), .val (.int p4), .val (.int (Int32.ofNat nn)), .val (.ref b266), .unset, .unset] [(.int p4)])) _
      refine X279.ldcInt hx hown (mvT hZ (hw _ (List.mem_of_getElem? (i := 44) rfl))) (g := (mkF m 59 #[.val (.int p1), .val (.int p2), .val (.int p3), .val (.int p4), .val (.int (Int32.ofNat nn)), .val (.ref b266), .unset, .unset] [(.int p4)])) rfl (hb hby at_59) _ ?_
      show Steps p.tables e below (T279.setTop (mkF m 61 #[.val (.int p1), .val (.int p2), .val (.int p3), .val (.int p4), .val (.int (Int32.ofNat nn)), .val (.ref b266), .unset, .unset] [(.int (2147483647 : Int32)), (.int p4)])) _
      refine XS.iand X279.here hx rfl (hb hby at_61) rfl ?_
      show Steps p.tables e below (T279.setTop (mkF m 62 #[.val (.int p1), .val (.int p2), .val (.int p3), .val (.int p4), .val (.int (Int32.ofNat nn)), .val (.ref b266), .unset, .unset] [(.int (p4 &&& (2147483647 : Int32)))])) _
      refine XS.iload X279.here hx rfl (hb hby at_62) rfl ?_
      show Steps p.tables e below (T279.setTop (mkF m 64 #[.val (.int p1), .val (.int p2), .val (.int p3), .val (.int p4), .val (.int (Int32.ofNat nn)), .val (.ref b266), .unset, .unset] [(.int (Int32.ofNat nn)), (.int (p4 &&& (2147483647 : Int32)))])) _
      refine iremM X279 hx rfl (hb hby at_64) rfl (fun q => by have := congrArg Int32.toInt q; rw [(own_tn (by omega)).2, show (0 : Int32).toInt = 0 from by decide] at this; omega) ?_
      rw [hpe]
      show Steps p.tables e below (T279.setTop (mkF m 65 #[.val (.int p1), .val (.int p2), .val (.int p3), .val (.int p4), .val (.int (Int32.ofNat nn)), .val (.ref b266), .unset, .unset] [(.int (Int32.ofNat pp))])) _
      refine XS.istore X279.here hx rfl (hb hby at_65) rfl (l' := #[.val (.int p1), .val (.int p2), .val (.int p3), .val (.int p4), .val (.int (Int32.ofNat nn)), .val (.ref b266), .val (.int (Int32.ofNat pp)), .unset]) rfl ?_
      show Steps p.tables e below (T279.setTop (mkF m 67 #[.val (.int p1), .val (.int p2), .val (.int p3), .val (.int p4), .val (.int (Int32.ofNat nn)), .val (.ref b266), .val (.int (Int32.ofNat pp)), .unset] [])) _
      refine XS.aload X279.here hx rfl (hb hby at_67) rfl rfl ?_
      show Steps p.tables e below (T279.setTop (mkF m 69 #[.val (.int p1), .val (.int p2), .val (.int p3), .val (.int p4), .val (.int (Int32.ofNat nn)), .val (.ref b266), .val (.int (Int32.ofNat pp)), .unset] [(.ref b266)])) _
      refine XS.iload X279.here hx rfl (hb hby at_69) rfl ?_
      show Steps p.tables e below (T279.setTop (mkF m 71 #[.val (.int p1), .val (.int p2), .val (.int p3), .val (.int p4), .val (.int (Int32.ofNat nn)), .val (.ref b266), .val (.int (Int32.ofNat pp)), .unset] [(.int (Int32.ofNat pp)), (.ref b266)])) _
      refine XS.iloadN X279.here hx rfl (hb hby at_71) rfl ?_
      show Steps p.tables e below (T279.setTop (mkF m 72 #[.val (.int p1), .val (.int p2), .val (.int p3), .val (.int p4), .val (.int (Int32.ofNat nn)), .val (.ref b266), .val (.int (Int32.ofNat pp)), .unset] [(.int p2), (.int (Int32.ofNat pp)), (.ref b266)])) _
      refine XS.iloadN X279.here hx rfl (hb hby at_72) rfl ?_
      show Steps p.tables e below (T279.setTop (mkF m 73 #[.val (.int p1), .val (.int p2), .val (.int p3), .val (.int p4), .val (.int (Int32.ofNat nn)), .val (.ref b266), .val (.int (Int32.ofNat pp)), .unset] [(.int p3), (.int p2), (.int (Int32.ofNat pp)), (.ref b266)])) _
      refine XS.ixor X279.here hx rfl (hb hby at_73) rfl ?_
      show Steps p.tables e below (T279.setTop (mkF m 74 #[.val (.int p1), .val (.int p2), .val (.int p3), .val (.int p4), .val (.int (Int32.ofNat nn)), .val (.ref b266), .val (.int (Int32.ofNat pp)), .unset] [(.int (p2 ^^^ p3)), (.int (Int32.ofNat pp)), (.ref b266)])) _
      refine XS.i2c X279.here hx rfl (hb hby at_74) rfl ?_
      show Steps p.tables e below (T279.setTop (mkF m 75 #[.val (.int p1), .val (.int p2), .val (.int p3), .val (.int p4), .val (.int (Int32.ofNat nn)), .val (.ref b266), .val (.int (Int32.ofNat pp)), .unset] [(.int ((p2 ^^^ p3).toUInt32.toUInt16.toUInt32.toInt32)), (.int (Int32.ofNat pp)), (.ref b266)])) _
      exact h)
  obtain ⟨cl285, Ar285, q285, Sz285, Ng285, Hs285, G285⟩ := id V_b266
  have hin285 : ¬ ((Int32.ofNat pp) < 0 ∨ cl285.slots.size ≤ ((Int32.ofNat pp)).toNatClampNeg) := inb_of Sz285 (own_inb (by omega) (by omega))
  obtain ⟨T285, h285, X285, e285, W285, st285⟩ := stC X279 hx hZ e279 Ar285 (j := (Int32.ofNat pp)) hin285 (g := (mkF m 75 #[.val (.int p1), .val (.int p2), .val (.int p3), .val (.int p4), .val (.int (Int32.ofNat nn)), .val (.ref b266), .val (.int (Int32.ofNat pp)), .unset] [(.int ((p2 ^^^ p3).toUInt32.toUInt16.toUInt32.toInt32)), (.int (Int32.ofNat pp)), (.ref b266)])) rfl rfl (hb hby at_75)
  have k287 : Rch p e below S0 T285 (mkF m 76 #[.val (.int p1), .val (.int p2), .val (.int p3), .val (.int p4), .val (.int (Int32.ofNat nn)), .val (.ref b266), .val (.int (Int32.ofNat pp)), .unset] []) := fun t h => k286 t (st285 t h)
  have N285 := Fr.snoc X285 N279 ge_b266
  have V_b266' := Arv.set Ar285 q285 Sz285 Ng285 Hs285 G285 (fits_nar_char _) W285 pp (own_tn (by omega)).1 (by rw [List.length_set, List.length_set, List.length_replicate]; omega)
  replace V_b266 := V_b266'
  have hC288 := hC282.wr W285 sf_b266
  have rC288 := rC282.trans (CHr.wr W285 sf_b266 hC282)
  replace sf_b266 := Safe.wr W285 sf_b266 hC282 sf_b266
  have O289 := O283.wr W285 ge_b266
  have hkk290 := Nat.le_trans hkk284 (Keep.of_wr W285).1
  rw [← own_cs_map] at V_b266
  obtain ⟨T291, h291, X291, e291, E291, A291, D291, -, st291⟩ := newO X285 hx hZ hown (hw _ (List.mem_of_getElem? (i := 2) rfl)) (hw _ (List.mem_of_getElem? (i := 3) rfl)) (hw _ (List.mem_of_getElem? (i := 4) rfl)) e285 (g := (mkF m 76 #[.val (.int p1), .val (.int p2), .val (.int p3), .val (.int p4), .val (.int (Int32.ofNat nn)), .val (.ref b266), .val (.int (Int32.ofNat pp)), .unset] [])) rfl (hb hby at_76) (by decide) (by decide)
  obtain ⟨b291, g291⟩ : ∃ z, z = h285.size := ⟨_, rfl⟩
  rw [← g291] at A291 D291 st291
  have k292 : Rch p e below S0 T291 (mkF m 79 #[.val (.int p1), .val (.int p2), .val (.int p3), .val (.int p4), .val (.int (Int32.ofNat nn)), .val (.ref b266), .val (.int (Int32.ofNat pp)), .unset] [(.ref b291)]) := fun t h => k287 t (st291 t h)
  have ne_b266_b291 : b266 ≠ b291 := own_ne V_b266.lt (Nat.le_of_eq g291.symm)
  have ge_b291 : n0 ≤ b291 := own_ge O289 (Nat.le_of_eq g291.symm)
  have sf_b291 : Safe Z consts_1 s.vm h285 b291 := Safe.new (Nat.le_of_eq g291.symm)
  replace sf_b266 := Safe.ext E291 hC288 sf_b266
  replace sf_b291 := Safe.ext E291 hC288 sf_b291
  have hC293 := hC288.ext E291
  have rC293 := rC288.trans (CHr.ext E291 hC288)
  have O294 := O289.ext E291
  replace V_b266 := V_b266.ext E291
  have hkk295 := Nat.le_trans hkk290 E291.1
  have E_b291 := A291
  have F_b291_value : Fld Z h291 b291 "java/lang/String" "value" "[B" .null := D291 (Or.inr (hw _ (List.mem_of_getElem? (i := 17) rfl))) (ty := (.array .byte)) (by decide)
  have F_b291_coder : Fld Z h291 b291 "java/lang/String" "coder" "B" (.int (0 : Int32)) := D291 (Or.inr (hw _ (List.mem_of_getElem? (i := 18) rfl))) (ty := .byte) (by decide)
  have k296 : Rch p e below S0 T291 (mkF m 82 #[.val (.int p1), .val (.int p2), .val (.int p3), .val (.int p4), .val (.int (Int32.ofNat nn)), .val (.ref b266), .val (.int (Int32.ofNat pp)), .unset] [(.ref b266), (.ref b291), (.ref b291)]) := fun t h => k292 t (by
      show Steps p.tables e below (T291.setTop (mkF m 79 #[.val (.int p1), .val (.int p2), .val (.int p3), .val (.int p4), .val (.int (Int32.ofNat nn)), .val (.ref b266), .val (.int (Int32.ofNat pp)), .unset] [(.ref b291)])) _
      refine XS.dup X291.here hx rfl (hb hby at_79) rfl rfl ?_
      show Steps p.tables e below (T291.setTop (mkF m 80 #[.val (.int p1), .val (.int p2), .val (.int p3), .val (.int p4), .val (.int (Int32.ofNat nn)), .val (.ref b266), .val (.int (Int32.ofNat pp)), .unset] [(.ref b291), (.ref b291)])) _
      refine XS.aload X291.here hx rfl (hb hby at_80) rfl rfl ?_
      show Steps p.tables e below (T291.setTop (mkF m 82 #[.val (.int p1), .val (.int p2), .val (.int p3), .val (.int p4), .val (.int (Int32.ofNat nn)), .val (.ref b266), .val (.int (Int32.ofNat pp)), .unset] [(.ref b266), (.ref b291), (.ref b291)])) _
      exact h)
  obtain ⟨_, _, ⟨T297, L297, kk297, n297⟩, -, X297, ⟨Lc297, hQ297, l297, y297, z297⟩, st297⟩ := X291.specialBack hx (y := (⟨"java/lang/String", "<init>", "([C)V"⟩ : MethodName)) rfl hown (mvT hZ (hw _ (List.mem_of_getElem? (i := 5) rfl))) (mvT hZ (hw _ (List.mem_of_getElem? (i := 6) rfl))) (mvT hZ (hw _ (List.mem_of_getElem? (i := 7) rfl))) (by decide) (backOf (W := 1) (rmL1 l Z a0 hw [] b291 b266 k266 nn ((own_cs nn pp (p2.toUInt32.toUInt16.toUInt32.toInt32) (p3.toUInt32.toUInt16.toUInt32.toInt32) ((p2 ^^^ p3).toUInt32.toUInt16.toUInt32.toInt32))) zC h291 n0 O294 SC hzC hn2 (own_cs_len _ _ _ _ _) hlow hn1 ge_b291 E_b291 F_b291_value F_b291_coder ne_b266_b291 V_b266) hZ (hw _ (List.mem_of_getElem? (i := 7) rfl)) (hw _ (List.mem_of_getElem? (i := 4) rfl)) (by decide) (by decide)) (g := (mkF m 82 #[.val (.int p1), .val (.int p2), .val (.int p3), .val (.int p4), .val (.int (Int32.ofNat nn)), .val (.ref b266), .val (.int (Int32.ofNat pp)), .unset] [(.ref b266), (.ref b291), (.ref b291)])) rfl (by rw [hml]; rfl) (Steps.refl _) (a := b291) (argsL := [(.ref b266)]) (rest := [(.ref b291)]) (lenOf pd_0 rfl) rfl (by show 2 * 0 + _ ≤ _; exact Nat.le_of_eq rfl) (hb hby at_82) (fun _ _ => ⟨rfl, e291, (by decide : 2 + 1 ≤ _), (by decide : 4004 + 4000 ≤ _)⟩)
  dsimp only [Pt.U, Pt.locs, Pt.cells, Pt.slots] at X297 l297 y297 z297 st297 hQ297
  subst l297 y297 z297
  obtain ⟨rfl, Nq297, K297, t297, kt297, vs297, Fv297, Fc297, At297⟩ := hQ297
  have N297 := Fr.app N285 Nq297
  have k298 : Rch p e below S0 T297 (mkF m 85 #[.val (.int p1), .val (.int p2), .val (.int p3), .val (.int p4), .val (.int (Int32.ofNat nn)), .val (.ref b266), .val (.int (Int32.ofNat pp)), .unset] [(.ref b291)]) := fun t h => k296 t (st297.trans h)
  have hC299 := hC293.keep K297 (sfS sf_b291 sf0)
  have rC299 := rC293.trans (CHr.keep K297 (sfS sf_b291 sf0) hC293)
  have sfx300 := (sfS sf_b291 sf0)
  replace sf_b266 := Safe.keep K297 sfx300 hC293 sf_b266
  replace sf_b291 := Safe.keep K297 sfx300 hC293 sf_b291
  have O301 := O294.keep K297 (allS ge_b291 all0)
  replace V_b266 := V_b266.keep K297 (ninS ne_b266_b291 nin0)
  replace E_b291 := E_b291.keep K297
  have hkk302 := Nat.le_trans hkk295 K297.1
  have k303 : Rch p e below S0 T297 (mkF m 89 #[.val (.int p1), .val (.int p2), .val (.int p3), .val (.int p4), .val (.int (Int32.ofNat nn)), .val (.ref b266), .val (.ref b291), .unset] [(.ref b291)]) := fun t h => k298 t (by
      show Steps p.tables e below (T297.setTop (mkF m 85 #[.val (.int p1), .val (.int p2), .val (.int p3), .val (.int p4), .val (.int (Int32.ofNat nn)), .val (.ref b266), .val (.int (Int32.ofNat pp)), .unset] [(.ref b291)])) _
      refine XS.astore X297.here hx rfl (hb hby at_85) rfl rfl (l' := #[.val (.int p1), .val (.int p2), .val (.int p3), .val (.int p4), .val (.int (Int32.ofNat nn)), .val (.ref b266), .val (.ref b291), .unset]) rfl ?_
      show Steps p.tables e below (T297.setTop (mkF m 87 #[.val (.int p1), .val (.int p2), .val (.int p3), .val (.int p4), .val (.int (Int32.ofNat nn)), .val (.ref b266), .val (.ref b291), .unset] [])) _
      refine XS.aload X297.here hx rfl (hb hby at_87) rfl rfl ?_
      show Steps p.tables e below (T297.setTop (mkF m 89 #[.val (.int p1), .val (.int p2), .val (.int p3), .val (.int p4), .val (.int (Int32.ofNat nn)), .val (.ref b266), .val (.ref b291), .unset] [(.ref b291)])) _
      exact h)
  have hLL : ((Int32.ofNat nn) >>> (nar .byte (0 : Int32) &&& 31)) = (Int32.ofNat nn) := own_sh0 _
  obtain ⟨_, _, ⟨T304, L304, kk304, n304⟩, -, X304, hS304, gr304, ⟨Lc304, hQ304, l304, y304, z304, hR304⟩, st304⟩ := callSS X297 hx (y := (⟨"com/example/remodel/remodel/SettingTable", "checkValue", "(Ljava/lang/String;)Ljava/lang/String;"⟩ : MethodName)) hown (mvT hZ (hw _ (List.mem_of_getElem? (i := 23) rfl))) (mvT hZ (hw _ (List.mem_of_getElem? (i := 24) rfl))) (mvT hZ (hw _ (List.mem_of_getElem? (i := 25) rfl))) (mvT hZ (hw _ (List.mem_of_getElem? (i := 26) rfl))) (by decide) (backOfSH (W := 0) (rmH l Z a0 hw [] b291 t297 kt297 (Int32.ofNat nn) vs297 (0 : Int32) zC (Int32.ofNat nn) T297.heap n0 O301 SC hzC E_b291 Fv297 Fc297 At297 hLL (fun q => by rw [Int32.lt_iff_toInt_lt, (own_tn (by omega)).2, show (4000 : Int32).toInt = 4000 from by decide] at q; omega)) hZ (hw _ (List.mem_of_getElem? (i := 26) rfl)) (hw _ (List.mem_of_getElem? (i := 25) rfl)) (by decide) (by decide) hEL hC299) (g := (mkF m 89 #[.val (.int p1), .val (.int p2), .val (.int p3), .val (.int p4), .val (.int (Int32.ofNat nn)), .val (.ref b266), .val (.ref b291), .unset] [(.ref b291)])) rfl (by rw [hml]; rfl) (argsL := [(.ref b291)]) (rest := []) (lenOf pd_3 rfl) rfl (by show 2 * 0 + _ ≤ _; exact Nat.le_of_eq rfl) (hb hby at_89) (fun _ _ => ⟨rfl, rfl, (by decide : 3 + 2 ≤ _), (by decide : 8004 + 24 ≤ _)⟩)
  dsimp only [Pt.U, Pt.locs, Pt.cells, Pt.slots] at X304 l304 y304 z304 st304 hQ304 hS304 gr304 hR304
  subst l304 y304 z304
  have hZ304 : Z.Warmed39 (s.setVm T304.vm).vm := State.Warmed39.trans (t := (s.setVm s.vm)) hZ hS304.1
  have hown304 : (s.setVm T304.vm).vm.findClass "com/example/remodel/remodel/SettingTableCheckValuePinLaw" = some m.cls := by rw [show (s.setVm T304.vm).vm = T304.vm from rfl, hS304.1.alike.findClass]; exact hown
  replace hS304 := foldS hS (by exact hkk302) hS304 gr304
  have hk304 := Nat.le_refl T304.heap.size
  replace X304 : Stand p l e room_1 (s.setVm T304.vm) m #[(.int p1), (.int p2), (.int p3), (.int p4)] below meth c T304 _ _ _ := X304
  obtain ⟨rfl, Nq304, E304⟩ := hQ304
  have N304 := Fr.app N297 Nq304
  have k305 : Rch p e below S0 T304 (mkF m 92 #[.val (.int p1), .val (.int p2), .val (.int p3), .val (.int p4), .val (.int (Int32.ofNat nn)), .val (.ref b266), .val (.ref b291), .unset] [(.ref b291)]) := fun t h => k303 t (st304.trans h)
  replace sf_b266 := hR304.safe V_b266.lt sf_b266
  replace sf_b291 := hR304.safe E_b291.lt sf_b291
  have hC306 := hR304.1
  have rC306 := rC299.trans hR304
  have O307 := O301.ext E304
  replace V_b266 := V_b266.ext E304
  replace E_b291 := E_b291.ext E304
  replace Fv297 := Fv297.ext E304
  replace Fc297 := Fc297.ext E304
  replace At297 := At297.ext E304
  have k308 : Rch p e below S0 T304 (mkF m 103 #[.val (.int p1), .val (.int p2), .val (.int p3), .val (.int p4), .val (.int (Int32.ofNat nn)), .val (.ref b266), .val (.ref b291), .val (.ref b291)] [(.ref b291)]) := fun t h => k305 t (by
      show Steps p.tables e below (T304.setTop (mkF m 92 #[.val (.int p1), .val (.int p2), .val (.int p3), .val (.int p4), .val (.int (Int32.ofNat nn)), .val (.ref b266), .val (.ref b291), .unset] [(.ref b291)])) _
      refine XS.astore X304.here hx rfl (hb hby at_92) rfl rfl (l' := #[.val (.int p1), .val (.int p2), .val (.int p3), .val (.int p4), .val (.int (Int32.ofNat nn)), .val (.ref b266), .val (.ref b291), .val (.ref b291)]) rfl ?_
      show Steps p.tables e below (T304.setTop (mkF m 94 #[.val (.int p1), .val (.int p2), .val (.int p3), .val (.int p4), .val (.int (Int32.ofNat nn)), .val (.ref b266), .val (.ref b291), .val (.ref b291)] [])) _
      refine XS.aload X304.here hx rfl (hb hby at_94) rfl rfl ?_
      show Steps p.tables e below (T304.setTop (mkF m 96 #[.val (.int p1), .val (.int p2), .val (.int p3), .val (.int p4), .val (.int (Int32.ofNat nn)), .val (.ref b266), .val (.ref b291), .val (.ref b291)] [(.ref b291)])) _
      refine XS.aload X304.here hx rfl (hb hby at_96) rfl rfl ?_
      show Steps p.tables e below (T304.setTop (mkF m 98 #[.val (.int p1), .val (.int p2), .val (.int p3), .val (.int p4), .val (.int (Int32.ofNat nn)), .val (.ref b266), .val (.ref b291), .val (.ref b291)] [(.ref b291), (.ref b291)])) _
      refine Jvm.RoadKit.acmp (g := (mkF m 98 #[.val (.int p1), .val (.int p2), .val (.int p3), .val (.int p4), .val (.int (Int32.ofNat nn)), .val (.ref b266), .val (.ref b291), .val (.ref b291)] [(.ref b291), (.ref b291)])) X304 hx rfl rfl rfl (pc0 := 98) (pc' := 101) (same := true) rfl (hb hby at_98) rfl (decide_eq_true rfl) (by decide) (by decide) ?_
      show Steps p.tables e below (T304.setTop (mkF m 101 #[.val (.int p1), .val (.int p2), .val (.int p3), .val (.int p4), .val (.int (Int32.ofNat nn)), .val (.ref b266), .val (.ref b291), .val (.ref b291)] [])) _
      refine XS.aload X304.here hx rfl (hb hby at_101) rfl rfl ?_
      show Steps p.tables e below (T304.setTop (mkF m 103 #[.val (.int p1), .val (.int p2), .val (.int p3), .val (.int p4), .val (.int (Int32.ofNat nn)), .val (.ref b266), .val (.ref b291), .val (.ref b291)] [(.ref b291)])) _
      exact h)
  obtain ⟨cq309, kq309, q309a, q309b, q309c⟩ := isOf hZ304 rfl E_b291
  obtain ⟨_, _, ⟨T309, L309, kk309, n309⟩, -, X309, ⟨Lc309, hQ309, l309, y309, z309⟩, st309⟩ := X304.virtualBack hx (y := (⟨"java/lang/String", "length", "()I"⟩ : MethodName)) (z := (⟨"java/lang/String", "length", "()I"⟩ : MethodName)) hown304 (mvT hZ304 (hw _ (List.mem_of_getElem? (i := 43) rfl))) (mvT hZ304 (hw _ (List.mem_of_getElem? (i := 33) rfl))) (notFace_of_selects (args := #[]) (mvT hZ304 (hw _ (List.mem_of_getElem? (i := 35) rfl)))) (mvT hZ304 (hw _ (List.mem_of_getElem? (i := 35) rfl))) (mvT hZ304 (hw _ (List.mem_of_getElem? (i := 34) rfl))) (by decide) (backOf (W := 0) (rmLE l Z a0 hw [] b291 t297 kt297 (Int32.ofNat nn) vs297 (0 : Int32) zC (Int32.ofNat nn) T304.heap n0 O307 SC hzC E_b291 Fv297 Fc297 At297 hLL) hZ304 (hw _ (List.mem_of_getElem? (i := 36) rfl)) (hw _ (List.mem_of_getElem? (i := 4) rfl)) (by decide) (by decide)) q309a q309c (g := (mkF m 103 #[.val (.int p1), .val (.int p2), .val (.int p3), .val (.int p4), .val (.int (Int32.ofNat nn)), .val (.ref b266), .val (.ref b291), .val (.ref b291)] [(.ref b291)])) rfl (by rw [hml]; rfl) (Steps.refl _) (argsL := []) (rest := []) (lenOf pd_5 rfl) rfl (by show 2 * 0 + _ ≤ _; exact Nat.le_of_eq rfl) (hb hby at_103) (fun _ _ => ⟨rfl, rfl, (by decide : 5 + 0 ≤ _), (by decide : 8028 + 0 ≤ _)⟩)
  dsimp only [Pt.U, Pt.locs, Pt.cells, Pt.slots] at X309 l309 y309 z309 st309 hQ309
  subst l309 y309 z309
  obtain ⟨rfl, Nq309, hh309⟩ := hQ309
  have N309 := Fr.app N304 Nq309
  have k310 : Rch p e below S0 T309 (mkF m 106 #[.val (.int p1), .val (.int p2), .val (.int p3), .val (.int p4), .val (.int (Int32.ofNat nn)), .val (.ref b266), .val (.ref b291), .val (.ref b291)] [(.int (Int32.ofNat nn))]) := fun t h => k308 t (st309.trans h)
  have k311 : Rch p e below S0 T309 (mkF m 116 #[.val (.int p1), .val (.int p2), .val (.int p3), .val (.int p4), .val (.int (Int32.ofNat nn)), .val (.ref b266), .val (.ref b291), .val (.ref b291)] [(.int (1 : Int32))]) := fun t h => k310 t (by
      show Steps p.tables e below (T309.setTop (mkF m 106 #[.val (.int p1), .val (.int p2), .val (.int p3), .val (.int p4), .val (.int (Int32.ofNat nn)), .val (.ref b266), .val (.ref b291), .val (.ref b291)] [(.int (Int32.ofNat nn))])) _
      refine XS.iload X309.here hx rfl (hb hby at_106) rfl ?_
      show Steps p.tables e below (T309.setTop (mkF m 108 #[.val (.int p1), .val (.int p2), .val (.int p3), .val (.int p4), .val (.int (Int32.ofNat nn)), .val (.ref b266), .val (.ref b291), .val (.ref b291)] [(.int (Int32.ofNat nn)), (.int (Int32.ofNat nn))])) _
      refine XS.icmpNo X309.here hx rfl (hb hby at_108) rfl (teq (rfl : (Int32.ofNat nn) = (Int32.ofNat nn))).2 ?_
      show Steps p.tables e below (T309.setTop (mkF m 111 #[.val (.int p1), .val (.int p2), .val (.int p3), .val (.int p4), .val (.int (Int32.ofNat nn)), .val (.ref b266), .val (.ref b291), .val (.ref b291)] [])) _
      refine XS.iconst X309.here hx rfl (hb hby at_111) ?_
      show Steps p.tables e below (T309.setTop (mkF m 112 #[.val (.int p1), .val (.int p2), .val (.int p3), .val (.int p4), .val (.int (Int32.ofNat nn)), .val (.ref b266), .val (.ref b291), .val (.ref b291)] [(.int (1 : Int32))])) _
      refine XS.goto X309.here hx rfl (pc0 := 112) (pc' := 116) rfl (hb hby at_112) (by decide) (by decide) ?_
      show Steps p.tables e below (T309.setTop (mkF m 116 #[.val (.int p1), .val (.int p2), .val (.int p3), .val (.int p4), .val (.int (Int32.ofNat nn)), .val (.ref b266), .val (.ref b291), .val (.ref b291)] [(.int (1 : Int32))])) _
      exact h)
  obtain ⟨fs, hr, hrun, hended, hfin⟩ := X309.leaveW hS304 (by rw [hh309]; exact hk304) (v := (some (.int (1 : Int32)))) (fun h => by rw [Bd.returns] at h; cases h)
  refine ⟨_, _, ?_, hrun, hended, _, _, rfl, ?_, (by rw [hh]; have q := own_chr rC306 (CHv.at X309 hZ304 hEL hC306) hh309; exact q), hfin.1, hfin.2.1, hfin.2.2.1, hfin.2.2.2.mono (by decide) (by decide)⟩
  · rw [← hS0]
    refine k311 _ ?_
    show Steps p.tables e below (T309.setTop (mkF m 116 #[.val (.int p1), .val (.int p2), .val (.int p3), .val (.int p4), .val (.int (Int32.ofNat nn)), .val (.ref b266), .val (.ref b291), .val (.ref b291)] [(.int (1 : Int32))])) _
    exact retN X309 hx (t := .boolean) Bd.returns (by simp) (hb hby at_116) hr
  · show Q_rm0_Al Z  h0 n0 _ T309.heap _
    rw [hh309]
    exact ⟨rfl, N309⟩
def Q_rm0_Au (Z : State)  (h0 : Heap) (n0 : Nat) (v : Option Value) (h : Heap) (L : List Loc) : Prop := v = some (.int (1 : Int32)) ∧ Fr n0 L
set_option maxRecDepth 65536 in
set_option maxHeartbeats 40000000 in
theorem rm0_Au (l : Launch) (Z : State) (a0 : Array Value) (hw : ∀ d ∈ tables_1, d.before a0 Z = true) (ws : List Jvm.Cond) (p1 : Int32) (p2 : Int32) (p3 : Int32) (p4 : Int32) (zC : Int32) (nn : Nat) (pp : Nat) (h0 : Heap) (n0 : Nat) (O0 : Old Z n0 h0) (SAs : Sta Z Z.heap "java/lang/StringUTF16" "$assertionsDisabled" "Z" (.int (1 : Int32))) (SHi : Sta Z Z.heap "java/lang/StringUTF16" "HI_BYTE_SHIFT" "I" (.int (0 : Int32))) (SLo : Sta Z Z.heap "java/lang/StringUTF16" "LO_BYTE_SHIFT" "I" (.int (8 : Int32))) (SC : Sta Z Z.heap "java/lang/String" "COMPACT_STRINGS" "Z" (.int zC)) (hzC : ¬ zC = 0) (hc : ¬ (p1 &&& 1 = 0)) (he : ((4000 : Int32) - (((p1.toUInt32 >>> ((1 : Int32) &&& 31).toUInt32).toInt32) &&& (3 : Int32))) = (Int32.ofNat nn)) (hn1 : 0 < nn) (hn2 : nn ≤ 4000) (hp1 : pp < nn) (hpe : ((p4 &&& (2147483647 : Int32)) % (Int32.ofNat nn)) = (Int32.ofNat pp)) (hex : ∃ c ∈ (own_cs nn pp (p2.toUInt32.toUInt16.toUInt32.toInt32) (p3.toUInt32.toUInt16.toUInt32.toInt32) ((p2 ^^^ p3).toUInt32.toUInt16.toUInt32.toInt32)), (255 : Int32) < c) :
    MetFree l x (head1 (Jvm.Cond.code x code maxLocals ret :: ws) room_1) (fun a U => a = #[(.int p1), (.int p2), (.int p3), (.int p4)] ∧ Z.Warmed39 U.vm ∧ U.heap = h0 ∧ CHv Z consts_1 U.vm h0) (fun _ _ _ _ _ => True) (fun _ U o U' => ∃ v L, o = .returned v ∧ Q_rm0_Au Z  h0 n0 v U'.heap L ∧ CHr Z consts_1 U.vm U.heap U'.vm U'.heap ∧ ReturnedEndW U o U' L room_1.cells room_1.slots) := by
  refine MetFree.of_bodySF (plainFor_of_name pn_SettingTableCheckValuePinLaw) hisR ?_
  intro p e s m args below meth c s₁ Bd hml0 hP hK
  obtain ⟨rfl, hZ, hh, hC0⟩ := hP
  have hx := Bd.exec
  have hby := Bd.bytes
  have hml : c.maxLocals = 8 := hml0
  have hown : s.vm.findClass "com/example/remodel/remodel/SettingTableCheckValuePinLaw" = some m.cls := findClass_of_methodNamed Bd.named
  have hnm := (name_of_methodNamed Bd.named Bd.method).1
  have X0 : Stand p l e room_1 (s.setVm s.vm) m #[(.int p1), (.int p2), (.int p3), (.int p4)] below meth c s₁ [] 0 0 := Stand.of_body Bd
  have e0 : s₁.heap = h0 := by rw [← hh, Bd.state]; rfl
  have N0 := Fr.nil n0
  obtain ⟨S0, hS0⟩ : ∃ z, z = s₁.setTop (entryFrame m #[(.int p1), (.int p2), (.int p3), (.int p4)] maxLocals) := ⟨_, rfl⟩
  have k0 : Rch p e below S0 s₁ (mkF m 0 #[.val (.int p1), .val (.int p2), .val (.int p3), .val (.int p4), .unset, .unset, .unset, .unset] []) := fun t kq => hS0 ▸ castTop (ef_0 m p1 p2 p3 p4) kq
  have hS : s.Since s.vm s.heap.size := (State.WarmedH.refl s).since _
  have hk : s.heap.size ≤ h0.size := by rw [← hh]; exact Nat.le_refl _
  have hwS : ∀ d ∈ Bundle.stringAtoms, d.before a0 Z = true := fun d hd => hw d ((by decide +kernel : ∀ d ∈ Bundle.stringAtoms, d ∈ tables_1) d hd)
  have rC0 : CHr Z consts_1 s.vm h0 s.vm h0 := CHr.refl hC0
  have hEL : EW Z a0 consts_1 := (EW.cons (hw _ (List.mem_of_getElem? (i := 27) rfl)) (by decide +kernel) (EW.cons (hw _ (List.mem_of_getElem? (i := 15) rfl)) (by decide +kernel) EW.nil))
  have k313 : Rch p e below S0 s₁ (mkF m 34 #[.val (.int p1), .val (.int p2), .val (.int p3), .val (.int p4), .val (.int (Int32.ofNat nn)), .unset, .unset, .unset] [(.int (Int32.ofNat nn))]) := fun t h => k0 t (by
      show Steps p.tables e below (s₁.setTop (mkF m 0 #[.val (.int p1), .val (.int p2), .val (.int p3), .val (.int p4), .unset, .unset, .unset, .unset] [])) _
      refine XS.iloadN X0.here hx rfl (hb hby at_0) rfl ?_
      show Steps p.tables e below (s₁.setTop (mkF m 1 #[.val (.int p1), .val (.int p2), .val (.int p3), .val (.int p4), .unset, .unset, .unset, .unset] [(.int p1)])) _
      refine XS.iconst X0.here hx rfl (hb hby at_1) ?_
      show Steps p.tables e below (s₁.setTop (mkF m 2 #[.val (.int p1), .val (.int p2), .val (.int p3), .val (.int p4), .unset, .unset, .unset, .unset] [(.int (1 : Int32)), (.int p1)])) _
      refine XS.iand X0.here hx rfl (hb hby at_2) rfl ?_
      show Steps p.tables e below (s₁.setTop (mkF m 3 #[.val (.int p1), .val (.int p2), .val (.int p3), .val (.int p4), .unset, .unset, .unset, .unset] [(.int (p1 &&& (1 : Int32)))])) _
      refine XS.ifNo X0.here hx rfl (hb hby at_3) rfl ((if0 _ _).trans (feq (hc : ¬ ((p1 &&& (1 : Int32)) = (0 : Int32)))).1) ?_
      show Steps p.tables e below (s₁.setTop (mkF m 6 #[.val (.int p1), .val (.int p2), .val (.int p3), .val (.int p4), .unset, .unset, .unset, .unset] [])) _
      refine XS.sipush X0.here hx rfl (hb hby at_6) ?_
      show Steps p.tables e below (s₁.setTop (mkF m 9 #[.val (.int p1), .val (.int p2), .val (.int p3), .val (.int p4), .unset, .unset, .unset, .unset] [(.int (4000 : Int32))])) _
      refine XS.iloadN X0.here hx rfl (hb hby at_9) rfl ?_
      show Steps p.tables e below (s₁.setTop (mkF m 10 #[.val (.int p1), .val (.int p2), .val (.int p3), .val (.int p4), .unset, .unset, .unset, .unset] [(.int p1), (.int (4000 : Int32))])) _
      refine XS.iconst X0.here hx rfl (hb hby at_10) ?_
      show Steps p.tables e below (s₁.setTop (mkF m 11 #[.val (.int p1), .val (.int p2), .val (.int p3), .val (.int p4), .unset, .unset, .unset, .unset] [(.int (1 : Int32)), (.int p1), (.int (4000 : Int32))])) _
      refine XS.iushr X0.here hx rfl (hb hby at_11) rfl ?_
      show Steps p.tables e below (s₁.setTop (mkF m 12 #[.val (.int p1), .val (.int p2), .val (.int p3), .val (.int p4), .unset, .unset, .unset, .unset] [(.int ((p1.toUInt32 >>> ((1 : Int32) &&& 31).toUInt32).toInt32)), (.int (4000 : Int32))])) _
      refine XS.iconst X0.here hx rfl (hb hby at_12) ?_
      show Steps p.tables e below (s₁.setTop (mkF m 13 #[.val (.int p1), .val (.int p2), .val (.int p3), .val (.int p4), .unset, .unset, .unset, .unset] [(.int (3 : Int32)), (.int ((p1.toUInt32 >>> ((1 : Int32) &&& 31).toUInt32).toInt32)), (.int (4000 : Int32))])) _
      refine XS.iand X0.here hx rfl (hb hby at_13) rfl ?_
      show Steps p.tables e below (s₁.setTop (mkF m 14 #[.val (.int p1), .val (.int p2), .val (.int p3), .val (.int p4), .unset, .unset, .unset, .unset] [(.int (((p1.toUInt32 >>> ((1 : Int32) &&& 31).toUInt32).toInt32) &&& (3 : Int32))), (.int (4000 : Int32))])) _
      refine XS.isub X0.here hx rfl (hb hby at_14) rfl ?_
      rw [he]
      show Steps p.tables e below (s₁.setTop (mkF m 15 #[.val (.int p1), .val (.int p2), .val (.int p3), .val (.int p4), .unset, .unset, .unset, .unset] [(.int (Int32.ofNat nn))])) _
      refine XS.istore X0.here hx rfl (hb hby at_15) rfl (l' := #[.val (.int p1), .val (.int p2), .val (.int p3), .val (.int p4), .val (.int (Int32.ofNat nn)), .unset, .unset, .unset]) rfl ?_
      show Steps p.tables e below (s₁.setTop (mkF m 17 #[.val (.int p1), .val (.int p2), .val (.int p3), .val (.int p4), .val (.int (Int32.ofNat nn)), .unset, .unset, .unset] [])) _
      refine XS.goto X0.here hx rfl (pc0 := 17) (pc' := 32) rfl (hb hby at_17) (by decide) (by decide) ?_
      show Steps p.tables e below (s₁.setTop (mkF m 32 #[.val (.int p1), .val (.int p2), .val (.int p3), .val (.int p4), .val (.int (Int32.ofNat nn)), .unset, .unset, .unset] [])) _
      refine XS.iload X0.here hx rfl (hb hby at_32) rfl ?_
      show Steps p.tables e below (s₁.setTop (mkF m 34 #[.val (.int p1), .val (.int p2), .val (.int p3), .val (.int p4), .val (.int (Int32.ofNat nn)), .unset, .unset, .unset] [(.int (Int32.ofNat nn))])) _
      exact h)
  obtain ⟨T312, h312, k312, X312, e312, E312, A312, st312⟩ := newP X0 hx hZ (hw _ (List.mem_of_getElem? (i := 1) rfl)) e0 (g := (mkF m 34 #[.val (.int p1), .val (.int p2), .val (.int p3), .val (.int p4), .val (.int (Int32.ofNat nn)), .unset, .unset, .unset] [(.int (Int32.ofNat nn))])) rfl (hb hby at_34) rfl (own_on0 (by omega)) (cap := 4000) (by rw [(own_tn (by omega)).1]; omega) (by decide) (by decide) (by decide)
  obtain ⟨b312, g312⟩ : ∃ z, z = h0.size := ⟨_, rfl⟩
  rw [← g312] at A312 st312
  have k314 : Rch p e below S0 T312 (mkF m 36 #[.val (.int p1), .val (.int p2), .val (.int p3), .val (.int p4), .val (.int (Int32.ofNat nn)), .unset, .unset, .unset] [(.ref b312)]) := fun t h => k313 t (st312 t h)
  have ge_b312 : n0 ≤ b312 := own_ge O0 (Nat.le_of_eq g312.symm)
  have sf_b312 : Safe Z consts_1 s.vm h0 b312 := Safe.new (Nat.le_of_eq g312.symm)
  replace sf_b312 := Safe.ext E312 hC0 sf_b312
  have hC315 := hC0.ext E312
  have rC315 := rC0.trans (CHr.ext E312 hC0)
  have O316 := O0.ext E312
  have hkk317 := Nat.le_trans hk E312.1
  have V_b312 : Arv Z h312 b312 k312 .char (Int32.ofNat nn) [] (.int (0 : Int32)) := Arv.new A312 (own_on0 (by omega))
  have k318 : Rch p e below S0 T312 (mkF m 43 #[.val (.int p1), .val (.int p2), .val (.int p3), .val (.int p4), .val (.int (Int32.ofNat nn)), .val (.ref b312), .unset, .unset] []) := fun t h => k314 t (by
      show Steps p.tables e below (T312.setTop (mkF m 36 #[.val (.int p1), .val (.int p2), .val (.int p3), .val (.int p4), .val (.int (Int32.ofNat nn)), .unset, .unset, .unset] [(.ref b312)])) _
      refine XS.astore X312.here hx rfl (hb hby at_36) rfl rfl (l' := #[.val (.int p1), .val (.int p2), .val (.int p3), .val (.int p4), .val (.int (Int32.ofNat nn)), .val (.ref b312), .unset, .unset]) rfl ?_
      show Steps p.tables e below (T312.setTop (mkF m 38 #[.val (.int p1), .val (.int p2), .val (.int p3), .val (.int p4), .val (.int (Int32.ofNat nn)), .val (.ref b312), .unset, .unset] [])) _
      refine XS.iload X312.here hx rfl (hb hby at_38) rfl ?_
      show Steps p.tables e below (T312.setTop (mkF m 40 #[.val (.int p1), .val (.int p2), .val (.int p3), .val (.int p4), .val (.int (Int32.ofNat nn)), .val (.ref b312), .unset, .unset] [(.int (Int32.ofNat nn))])) _
      refine XS.ifNo X312.here hx rfl (hb hby at_40) rfl ((if0 _ _).trans (tlt ((by rw [Int32.lt_iff_toInt_lt, (own_tn (by omega)).2, show (0 : Int32).toInt = 0 from by decide]; omega) : (0 : Int32) < (Int32.ofNat nn))).2.2.2) ?_
      show Steps p.tables e below (T312.setTop (mkF m 43 #[.val (.int p1), .val (.int p2), .val (.int p3), .val (.int p4), .val (.int (Int32.ofNat nn)), .val (.ref b312), .unset, .unset] [])) _
      exact h)
  replace V_b312 : Arv Z h312 b312 k312 .char (Int32.ofNat nn) (List.replicate nn (Value.int 0)) (.int (0 : Int32)) := by
    have q := V_b312.pad (pad_rep [] (.int (0 : Int32)) nn)
    rwa [List.nil_append] at q
  have k320 : Rch p e below S0 T312 (mkF m 48 #[.val (.int p1), .val (.int p2), .val (.int p3), .val (.int p4), .val (.int (Int32.ofNat nn)), .val (.ref b312), .unset, .unset] [(.int (p2.toUInt32.toUInt16.toUInt32.toInt32)), (.int (0 : Int32)), (.ref b312)]) := fun t h => k318 t (by
      show Steps p.tables e below (T312.setTop (mkF m 43 #[.val (.int p1), .val (.int p2), .val (.int p3), .val (.int p4), .val (.int (Int32.ofNat nn)), .val (.ref b312), .unset, .unset] [])) _
      refine XS.aload X312.here hx rfl (hb hby at_43) rfl rfl ?_
      show Steps p.tables e below (T312.setTop (mkF m 45 #[.val (.int p1), .val (.int p2), .val (.int p3), .val (.int p4), .val (.int (Int32.ofNat nn)), .val (.ref b312), .unset, .unset] [(.ref b312)])) _
      refine XS.iconst X312.here hx rfl (hb hby at_45) ?_
      show Steps p.tables e below (T312.setTop (mkF m 46 #[.val (.int p1), .val (.int p2), .val (.int p3), .val (.int p4), .val (.int (Int32.ofNat nn)), .val (.ref b312), .unset, .unset] [(.int (0 : Int32)), (.ref b312)])) _
      refine XS.iloadN X312.here hx rfl (hb hby at_46) rfl ?_
      show Steps p.tables e below (T312.setTop (mkF m 47 #[.val (.int p1), .val (.int p2), .val (.int p3), .val (.int p4), .val (.int (Int32.ofNat nn)), .val (.ref b312), .unset, .unset] [(.int p2), (.int (0 : Int32)), (.ref b312)])) _
      refine XS.i2c X312.here hx rfl (hb hby at_47) rfl ?_
      show Steps p.tables e below (T312.setTop (mkF m 48 #[.val (.int p1), .val (.int p2), .val (.int p3), .val (.int p4), .val (.int (Int32.ofNat nn)), .val (.ref b312), .unset, .unset] [(.int (p2.toUInt32.toUInt16.toUInt32.toInt32)), (.int (0 : Int32)), (.ref b312)])) _
      exact h)
  obtain ⟨cl319, Ar319, q319, Sz319, Ng319, Hs319, G319⟩ := id V_b312
  have hin319 : ¬ ((0 : Int32) < 0 ∨ cl319.slots.size ≤ ((0 : Int32)).toNatClampNeg) := inb_of Sz319 ⟨by decide, by rw [Int32.lt_iff_toInt_lt, (own_tn (by omega)).2, show (0 : Int32).toInt = 0 from by decide]; omega⟩
  obtain ⟨T319, h319, X319, e319, W319, st319⟩ := stC X312 hx hZ e312 Ar319 (j := (0 : Int32)) hin319 (g := (mkF m 48 #[.val (.int p1), .val (.int p2), .val (.int p3), .val (.int p4), .val (.int (Int32.ofNat nn)), .val (.ref b312), .unset, .unset] [(.int (p2.toUInt32.toUInt16.toUInt32.toInt32)), (.int (0 : Int32)), (.ref b312)])) rfl rfl (hb hby at_48)
  have k321 : Rch p e below S0 T319 (mkF m 49 #[.val (.int p1), .val (.int p2), .val (.int p3), .val (.int p4), .val (.int (Int32.ofNat nn)), .val (.ref b312), .unset, .unset] []) := fun t h => k320 t (st319 t h)
  have N319 := Fr.snoc X319 N0 ge_b312
  have V_b312' := Arv.set Ar319 q319 Sz319 Ng319 Hs319 G319 (fits_nar_char _) W319 0 rfl (by rw [List.length_replicate]; omega)
  replace V_b312 := V_b312'
  have hC322 := hC315.wr W319 sf_b312
  have rC322 := rC315.trans (CHr.wr W319 sf_b312 hC315)
  replace sf_b312 := Safe.wr W319 sf_b312 hC315 sf_b312
  have O323 := O316.wr W319 ge_b312
  have hkk324 := Nat.le_trans hkk317 (Keep.of_wr W319).1
  have k326 : Rch p e below S0 T319 (mkF m 57 #[.val (.int p1), .val (.int p2), .val (.int p3), .val (.int p4), .val (.int (Int32.ofNat nn)), .val (.ref b312), .unset, .unset] [(.int (p3.toUInt32.toUInt16.toUInt32.toInt32)), (.int (Int32.ofNat (nn - 1))), (.ref b312)]) := fun t h => k321 t (by
      show Steps p.tables e below (T319.setTop (mkF m 49 #[.val (.int p1), .val (.int p2), .val (.int p3), .val (.int p4), .val (.int (Int32.ofNat nn)), .val (.ref b312), .unset, .unset] [])) _
      refine XS.aload X319.here hx rfl (hb hby at_49) rfl rfl ?_
      show Steps p.tables e below (T319.setTop (mkF m 51 #[.val (.int p1), .val (.int p2), .val (.int p3), .val (.int p4), .val (.int (Int32.ofNat nn)), .val (.ref b312), .unset, .unset] [(.ref b312)])) _
      refine XS.iload X319.here hx rfl (hb hby at_51) rfl ?_
      show Steps p.tables e below (T319.setTop (mkF m 53 #[.val (.int p1), .val (.int p2), .val (.int p3), .val (.int p4), .val (.int (Int32.ofNat nn)), .val (.ref b312), .unset, .unset] [(.int (Int32.ofNat nn)), (.ref b312)])) _
      refine XS.iconst X319.here hx rfl (hb hby at_53) ?_
      show Steps p.tables e below (T319.setTop (mkF m 54 #[.val (.int p1), .val (.int p2), .val (.int p3), .val (.int p4), .val (.int (Int32.ofNat nn)), .val (.ref b312), .unset, .unset] [(.int (1 : Int32)), (.int (Int32.ofNat nn)), (.ref b312)])) _
      refine XS.isub X319.here hx rfl (hb hby at_54) rfl ?_
      rw [own_pred hn1 hn2]
      show Steps p.tables e below (T319.setTop (mkF m 55 #[.val (.int p1), .val (.int p2), .val (.int p3), .val (.int p4), .val (.int (Int32.ofNat nn)), .val (.ref b312), .unset, .unset] [(.int (Int32.ofNat (nn - 1))), (.ref b312)])) _
      refine XS.iloadN X319.here hx rfl (hb hby at_55) rfl ?_
      show Steps p.tables e below (T319.setTop (mkF m 56 #[.val (.int p1), .val (.int p2), .val (.int p3), .val (.int p4), .val (.int (Int32.ofNat nn)), .val (.ref b312), .unset, .unset] [(.int p3), (.int (Int32.ofNat (nn - 1))), (.ref b312)])) _
      refine XS.i2c X319.here hx rfl (hb hby at_56) rfl ?_
      show Steps p.tables e below (T319.setTop (mkF m 57 #[.val (.int p1), .val (.int p2), .val (.int p3), .val (.int p4), .val (.int (Int32.ofNat nn)), .val (.ref b312), .unset, .unset] [(.int (p3.toUInt32.toUInt16.toUInt32.toInt32)), (.int (Int32.ofNat (nn - 1))), (.ref b312)])) _
      exact h)
  obtain ⟨cl325, Ar325, q325, Sz325, Ng325, Hs325, G325⟩ := id V_b312
  have hin325 : ¬ ((Int32.ofNat (nn - 1)) < 0 ∨ cl325.slots.size ≤ ((Int32.ofNat (nn - 1))).toNatClampNeg) := inb_of Sz325 (own_inb (by omega) (by omega))
  obtain ⟨T325, h325, X325, e325, W325, st325⟩ := stC X319 hx hZ e319 Ar325 (j := (Int32.ofNat (nn - 1))) hin325 (g := (mkF m 57 #[.val (.int p1), .val (.int p2), .val (.int p3), .val (.int p4), .val (.int (Int32.ofNat nn)), .val (.ref b312), .unset, .unset] [(.int (p3.toUInt32.toUInt16.toUInt32.toInt32)), (.int (Int32.ofNat (nn - 1))), (.ref b312)])) rfl rfl (hb hby at_57)
  have k327 : Rch p e below S0 T325 (mkF m 58 #[.val (.int p1), .val (.int p2), .val (.int p3), .val (.int p4), .val (.int (Int32.ofNat nn)), .val (.ref b312), .unset, .unset] []) := fun t h => k326 t (st325 t h)
  have N325 := Fr.snoc X325 N319 ge_b312
  have V_b312' := Arv.set Ar325 q325 Sz325 Ng325 Hs325 G325 (fits_nar_char _) W325 (nn - 1) (own_tn (by omega)).1 (by rw [List.length_set, List.length_replicate]; omega)
  replace V_b312 := V_b312'
  have hC328 := hC322.wr W325 sf_b312
  have rC328 := rC322.trans (CHr.wr W325 sf_b312 hC322)
  replace sf_b312 := Safe.wr W325 sf_b312 hC322 sf_b312
  have O329 := O323.wr W325 ge_b312
  have hkk330 := Nat.le_trans hkk324 (Keep.of_wr W325).1
  have k332 : Rch p e below S0 T325 (mkF m 75 #[.val (.int p1), .val (.int p2), .val (.int p3), .val (.int p4), .val (.int (Int32.ofNat nn)), .val (.ref b312), .val (.int (Int32.ofNat pp)), .unset] [(.int ((p2 ^^^ p3).toUInt32.toUInt16.toUInt32.toInt32)), (.int (Int32.ofNat pp)), (.ref b312)]) := fun t h => k327 t (by
      show Steps p.tables e below (T325.setTop (mkF m 58 #[.val (.int p1), .val (.int p2), .val (.int p3), .val (.int p4), .val (.int (Int32.ofNat nn)), .val (.ref b312), .unset, .unset] [])) _
      refine XS.iloadN X325.here hx rfl (hb hby at_58) rfl ?_
      show Steps p.tables e below (T325.setTop (mkF m 59 #[.val (.int p1), .val (.int p2), .val (.int p3), .val (.int p4), .val (.int (Int32.ofNat nn)), .val (.ref b312), .unset, .unset] [(.int p4)])) _
      refine X325.ldcInt hx hown (mvT hZ (hw _ (List.mem_of_getElem? (i := 44) rfl))) (g := (mkF m 59 #[.val (.int p1), .val (.int p2), .val (.int p3), .val (.int p4), .val (.int (Int32.ofNat nn)), .val (.ref b312), .unset, .unset] [(.int p4)])) rfl (hb hby at_59) _ ?_
      show Steps p.tables e below (T325.setTop (mkF m 61 #[.val (.int p1), .val (.int p2), .val (.int p3), .val (.int p4), .val (.int (Int32.ofNat nn)), .val (.ref b312), .unset, .unset] [(.int (2147483647 : Int32)), (.int p4)])) _
      refine XS.iand X325.here hx rfl (hb hby at_61) rfl ?_
      show Steps p.tables e below (T325.setTop (mkF m 62 #[.val (.int p1), .val (.int p2), .val (.int p3), .val (.int p4), .val (.int (Int32.ofNat nn)), .val (.ref b312), .unset, .unset] [(.int (p4 &&& (2147483647 : Int32)))])) _
      refine XS.iload X325.here hx rfl (hb hby at_62) rfl ?_
      show Steps p.tables e below (T325.setTop (mkF m 64 #[.val (.int p1), .val (.int p2), .val (.int p3), .val (.int p4), .val (.int (Int32.ofNat nn)), .val (.ref b312), .unset, .unset] [(.int (Int32.ofNat nn)), (.int (p4 &&& (2147483647 : Int32)))])) _
      refine iremM X325 hx rfl (hb hby at_64) rfl (fun q => by have := congrArg Int32.toInt q; rw [(own_tn (by omega)).2, show (0 : Int32).toInt = 0 from by decide] at this; omega) ?_
      rw [hpe]
      show Steps p.tables e below (T325.setTop (mkF m 65 #[.val (.int p1), .val (.int p2), .val (.int p3), .val (.int p4), .val (.int (Int32.ofNat nn)), .val (.ref b312), .unset, .unset] [(.int (Int32.ofNat pp))])) _
      refine XS.istore X325.here hx rfl (hb hby at_65) rfl (l' := #[.val (.int p1), .val (.int p2), .val (.int p3), .val (.int p4), .val (.int (Int32.ofNat nn)), .val (.ref b312), .val (.int (Int32.ofNat pp)), .unset]) rfl ?_
      show Steps p.tables e below (T325.setTop (mkF m 67 #[.val (.int p1), .val (.int p2), .val (.int p3), .val (.int p4), .val (.int (Int32.ofNat nn)), .val (.ref b312), .val (.int (Int32.ofNat pp)), .unset] [])) _
      refine XS.aload X325.here hx rfl (hb hby at_67) rfl rfl ?_
      show Steps p.tables e below (T325.setTop (mkF m 69 #[.val (.int p1), .val (.int p2), .val (.int p3), .val (.int p4), .val (.int (Int32.ofNat nn)), .val (.ref b312), .val (.int (Int32.ofNat pp)), .unset] [(.ref b312)])) _
      refine XS.iload X325.here hx rfl (hb hby at_69) rfl ?_
      show Steps p.tables e below (T325.setTop (mkF m 71 #[.val (.int p1), .val (.int p2), .val (.int p3), .val (.int p4), .val (.int (Int32.ofNat nn)), .val (.ref b312), .val (.int (Int32.ofNat pp)), .unset] [(.int (Int32.ofNat pp)), (.ref b312)])) _
      refine XS.iloadN X325.here hx rfl (hb hby at_71) rfl ?_
      show Steps p.tables e below (T325.setTop (mkF m 72 #[.val (.int p1), .val (.int p2), .val (.int p3), .val (.int p4), .val (.int (Int32.ofNat nn)), .val (.ref b312), .val (.int (Int32.ofNat pp)), .unset] [(.int p2), (.int (Int32.ofNat pp)), (.ref b312)])) _
      refine XS.iloadN X325.here hx rfl (hb hby at_72) rfl ?_
      show Steps p.tables e below (T325.setTop (mkF m 73 #[.val (.int p1), .val (.int p2), .val (.int p3), .val (.int p4), .val (.int (Int32.ofNat nn)), .val (.ref b312), .val (.int (Int32.ofNat pp)), .unset] [(.int p3), (.int p2), (.int (Int32.ofNat pp)), (.ref b312)])) _
      refine XS.ixor X325.here hx rfl (hb hby at_73) rfl ?_
      show Steps p.tables e below (T325.setTop (mkF m 74 #[.val (.int p1), .val (.int p2), .val (.int p3), .val (.int p4), .val (.int (Int32.ofNat nn)), .val (.ref b312), .val (.int (Int32.ofNat pp)), .unset] [(.int (p2 ^^^ p3)), (.int (Int32.ofNat pp)), (.ref b312)])) _
      refine XS.i2c X325.here hx rfl (hb hby at_74) rfl ?_
      show Steps p.tables e below (T325.setTop (mkF m 75 #[.val (.int p1), .val (.int p2), .val (.int p3), .val (.int p4), .val (.int (Int32.ofNat nn)), .val (.ref b312), .val (.int (Int32.ofNat pp)), .unset] [(.int ((p2 ^^^ p3).toUInt32.toUInt16.toUInt32.toInt32)), (.int (Int32.ofNat pp)), (.ref b312)])) _
      exact h)
  obtain ⟨cl331, Ar331, q331, Sz331, Ng331, Hs331, G331⟩ := id V_b312
  have hin331 : ¬ ((Int32.ofNat pp) < 0 ∨ cl331.slots.size ≤ ((Int32.ofNat pp)).toNatClampNeg) := inb_of Sz331 (own_inb (by omega) (by omega))
  obtain ⟨T331, h331, X331, e331, W331, st331⟩ := stC X325 hx hZ e325 Ar331 (j := (Int32.ofNat pp)) hin331 (g := (mkF m 75 #[.val (.int p1), .val (.int p2), .val (.int p3), .val (.int p4), .val (.int (Int32.ofNat nn)), .val (.ref b312), .val (.int (Int32.ofNat pp)), .unset] [(.int ((p2 ^^^ p3).toUInt32.toUInt16.toUInt32.toInt32)), (.int (Int32.ofNat pp)), (.ref b312)])) rfl rfl (hb hby at_75)
  have k333 : Rch p e below S0 T331 (mkF m 76 #[.val (.int p1), .val (.int p2), .val (.int p3), .val (.int p4), .val (.int (Int32.ofNat nn)), .val (.ref b312), .val (.int (Int32.ofNat pp)), .unset] []) := fun t h => k332 t (st331 t h)
  have N331 := Fr.snoc X331 N325 ge_b312
  have V_b312' := Arv.set Ar331 q331 Sz331 Ng331 Hs331 G331 (fits_nar_char _) W331 pp (own_tn (by omega)).1 (by rw [List.length_set, List.length_set, List.length_replicate]; omega)
  replace V_b312 := V_b312'
  have hC334 := hC328.wr W331 sf_b312
  have rC334 := rC328.trans (CHr.wr W331 sf_b312 hC328)
  replace sf_b312 := Safe.wr W331 sf_b312 hC328 sf_b312
  have O335 := O329.wr W331 ge_b312
  have hkk336 := Nat.le_trans hkk330 (Keep.of_wr W331).1
  rw [← own_cs_map] at V_b312
  obtain ⟨kF, hkF, hlowF, hhighF⟩ := own_first _ hex
  rw [own_cs_len] at hkF
  obtain ⟨T337, h337, X337, e337, E337, A337, D337, -, st337⟩ := newO X331 hx hZ hown (hw _ (List.mem_of_getElem? (i := 2) rfl)) (hw _ (List.mem_of_getElem? (i := 3) rfl)) (hw _ (List.mem_of_getElem? (i := 4) rfl)) e331 (g := (mkF m 76 #[.val (.int p1), .val (.int p2), .val (.int p3), .val (.int p4), .val (.int (Int32.ofNat nn)), .val (.ref b312), .val (.int (Int32.ofNat pp)), .unset] [])) rfl (hb hby at_76) (by decide) (by decide)
  obtain ⟨b337, g337⟩ : ∃ z, z = h331.size := ⟨_, rfl⟩
  rw [← g337] at A337 D337 st337
  have k338 : Rch p e below S0 T337 (mkF m 79 #[.val (.int p1), .val (.int p2), .val (.int p3), .val (.int p4), .val (.int (Int32.ofNat nn)), .val (.ref b312), .val (.int (Int32.ofNat pp)), .unset] [(.ref b337)]) := fun t h => k333 t (st337 t h)
  have ne_b312_b337 : b312 ≠ b337 := own_ne V_b312.lt (Nat.le_of_eq g337.symm)
  have ge_b337 : n0 ≤ b337 := own_ge O335 (Nat.le_of_eq g337.symm)
  have sf_b337 : Safe Z consts_1 s.vm h331 b337 := Safe.new (Nat.le_of_eq g337.symm)
  replace sf_b312 := Safe.ext E337 hC334 sf_b312
  replace sf_b337 := Safe.ext E337 hC334 sf_b337
  have hC339 := hC334.ext E337
  have rC339 := rC334.trans (CHr.ext E337 hC334)
  have O340 := O335.ext E337
  replace V_b312 := V_b312.ext E337
  have hkk341 := Nat.le_trans hkk336 E337.1
  have E_b337 := A337
  have F_b337_value : Fld Z h337 b337 "java/lang/String" "value" "[B" .null := D337 (Or.inr (hw _ (List.mem_of_getElem? (i := 17) rfl))) (ty := (.array .byte)) (by decide)
  have F_b337_coder : Fld Z h337 b337 "java/lang/String" "coder" "B" (.int (0 : Int32)) := D337 (Or.inr (hw _ (List.mem_of_getElem? (i := 18) rfl))) (ty := .byte) (by decide)
  have k342 : Rch p e below S0 T337 (mkF m 82 #[.val (.int p1), .val (.int p2), .val (.int p3), .val (.int p4), .val (.int (Int32.ofNat nn)), .val (.ref b312), .val (.int (Int32.ofNat pp)), .unset] [(.ref b312), (.ref b337), (.ref b337)]) := fun t h => k338 t (by
      show Steps p.tables e below (T337.setTop (mkF m 79 #[.val (.int p1), .val (.int p2), .val (.int p3), .val (.int p4), .val (.int (Int32.ofNat nn)), .val (.ref b312), .val (.int (Int32.ofNat pp)), .unset] [(.ref b337)])) _
      refine XS.dup X337.here hx rfl (hb hby at_79) rfl rfl ?_
      show Steps p.tables e below (T337.setTop (mkF m 80 #[.val (.int p1), .val (.int p2), .val (.int p3), .val (.int p4), .val (.int (Int32.ofNat nn)), .val (.ref b312), .val (.int (Int32.ofNat pp)), .unset] [(.ref b337), (.ref b337)])) _
      refine XS.aload X337.here hx rfl (hb hby at_80) rfl rfl ?_
      show Steps p.tables e below (T337.setTop (mkF m 82 #[.val (.int p1), .val (.int p2), .val (.int p3), .val (.int p4), .val (.int (Int32.ofNat nn)), .val (.ref b312), .val (.int (Int32.ofNat pp)), .unset] [(.ref b312), (.ref b337), (.ref b337)])) _
      exact h)
  obtain ⟨_, _, ⟨T343, L343, kk343, n343⟩, -, X343, ⟨Lc343, hQ343, l343, y343, z343⟩, st343⟩ := X337.specialBack hx (y := (⟨"java/lang/String", "<init>", "([C)V"⟩ : MethodName)) rfl hown (mvT hZ (hw _ (List.mem_of_getElem? (i := 5) rfl))) (mvT hZ (hw _ (List.mem_of_getElem? (i := 6) rfl))) (mvT hZ (hw _ (List.mem_of_getElem? (i := 7) rfl))) (by decide) (backOf (W := 1) (rmU1 l Z a0 hw [] b337 b312 k312 nn ((own_cs nn pp (p2.toUInt32.toUInt16.toUInt32.toInt32) (p3.toUInt32.toUInt16.toUInt32.toInt32) ((p2 ^^^ p3).toUInt32.toUInt16.toUInt32.toInt32))) kF zC h337 n0 O340 SAs SHi SLo SC hzC hn2 (own_cs_len _ _ _ _ _) hkF hlowF hhighF (own_cs_in _ _ _ _ _) ge_b337 E_b337 F_b337_value F_b337_coder ne_b312_b337 V_b312) hZ (hw _ (List.mem_of_getElem? (i := 7) rfl)) (hw _ (List.mem_of_getElem? (i := 4) rfl)) (by decide) (by decide)) (g := (mkF m 82 #[.val (.int p1), .val (.int p2), .val (.int p3), .val (.int p4), .val (.int (Int32.ofNat nn)), .val (.ref b312), .val (.int (Int32.ofNat pp)), .unset] [(.ref b312), (.ref b337), (.ref b337)])) rfl (by rw [hml]; rfl) (Steps.refl _) (a := b337) (argsL := [(.ref b312)]) (rest := [(.ref b337)]) (lenOf pd_0 rfl) rfl (by show 2 * 0 + _ ≤ _; exact Nat.le_of_eq rfl) (hb hby at_82) (fun _ _ => ⟨rfl, e337, (by decide : 2 + 2 ≤ _), (by decide : 4004 + 12000 ≤ _)⟩)
  dsimp only [Pt.U, Pt.locs, Pt.cells, Pt.slots] at X343 l343 y343 z343 st343 hQ343
  subst l343 y343 z343
  obtain ⟨rfl, Nq343, K343, t343, kt343, vs343, Fv343, Fc343, At343⟩ := hQ343
  have N343 := Fr.app N331 Nq343
  have k344 : Rch p e below S0 T343 (mkF m 85 #[.val (.int p1), .val (.int p2), .val (.int p3), .val (.int p4), .val (.int (Int32.ofNat nn)), .val (.ref b312), .val (.int (Int32.ofNat pp)), .unset] [(.ref b337)]) := fun t h => k342 t (st343.trans h)
  have hC345 := hC339.keep K343 (sfS sf_b337 sf0)
  have rC345 := rC339.trans (CHr.keep K343 (sfS sf_b337 sf0) hC339)
  have sfx346 := (sfS sf_b337 sf0)
  replace sf_b312 := Safe.keep K343 sfx346 hC339 sf_b312
  replace sf_b337 := Safe.keep K343 sfx346 hC339 sf_b337
  have O347 := O340.keep K343 (allS ge_b337 all0)
  replace V_b312 := V_b312.keep K343 (ninS ne_b312_b337 nin0)
  replace E_b337 := E_b337.keep K343
  have hkk348 := Nat.le_trans hkk341 K343.1
  have k349 : Rch p e below S0 T343 (mkF m 89 #[.val (.int p1), .val (.int p2), .val (.int p3), .val (.int p4), .val (.int (Int32.ofNat nn)), .val (.ref b312), .val (.ref b337), .unset] [(.ref b337)]) := fun t h => k344 t (by
      show Steps p.tables e below (T343.setTop (mkF m 85 #[.val (.int p1), .val (.int p2), .val (.int p3), .val (.int p4), .val (.int (Int32.ofNat nn)), .val (.ref b312), .val (.int (Int32.ofNat pp)), .unset] [(.ref b337)])) _
      refine XS.astore X343.here hx rfl (hb hby at_85) rfl rfl (l' := #[.val (.int p1), .val (.int p2), .val (.int p3), .val (.int p4), .val (.int (Int32.ofNat nn)), .val (.ref b312), .val (.ref b337), .unset]) rfl ?_
      show Steps p.tables e below (T343.setTop (mkF m 87 #[.val (.int p1), .val (.int p2), .val (.int p3), .val (.int p4), .val (.int (Int32.ofNat nn)), .val (.ref b312), .val (.ref b337), .unset] [])) _
      refine XS.aload X343.here hx rfl (hb hby at_87) rfl rfl ?_
      show Steps p.tables e below (T343.setTop (mkF m 89 #[.val (.int p1), .val (.int p2), .val (.int p3), .val (.int p4), .val (.int (Int32.ofNat nn)), .val (.ref b312), .val (.ref b337), .unset] [(.ref b337)])) _
      exact h)
  have hLL : ((Int32.ofNat (2 * nn)) >>> (nar .byte (1 : Int32) &&& 31)) = (Int32.ofNat nn) := own_sh1 hn2
  obtain ⟨_, _, ⟨T350, L350, kk350, n350⟩, -, X350, hS350, gr350, ⟨Lc350, hQ350, l350, y350, z350, hR350⟩, st350⟩ := callSS X343 hx (y := (⟨"com/example/remodel/remodel/SettingTable", "checkValue", "(Ljava/lang/String;)Ljava/lang/String;"⟩ : MethodName)) hown (mvT hZ (hw _ (List.mem_of_getElem? (i := 23) rfl))) (mvT hZ (hw _ (List.mem_of_getElem? (i := 24) rfl))) (mvT hZ (hw _ (List.mem_of_getElem? (i := 25) rfl))) (mvT hZ (hw _ (List.mem_of_getElem? (i := 26) rfl))) (by decide) (backOfSH (W := 0) (rmH l Z a0 hw [] b337 t343 kt343 (Int32.ofNat (2 * nn)) vs343 (1 : Int32) zC (Int32.ofNat nn) T343.heap n0 O347 SC hzC E_b337 Fv343 Fc343 At343 hLL (fun q => by rw [Int32.lt_iff_toInt_lt, (own_tn (by omega)).2, show (4000 : Int32).toInt = 4000 from by decide] at q; omega)) hZ (hw _ (List.mem_of_getElem? (i := 26) rfl)) (hw _ (List.mem_of_getElem? (i := 25) rfl)) (by decide) (by decide) hEL hC345) (g := (mkF m 89 #[.val (.int p1), .val (.int p2), .val (.int p3), .val (.int p4), .val (.int (Int32.ofNat nn)), .val (.ref b312), .val (.ref b337), .unset] [(.ref b337)])) rfl (by rw [hml]; rfl) (argsL := [(.ref b337)]) (rest := []) (lenOf pd_3 rfl) rfl (by show 2 * 0 + _ ≤ _; exact Nat.le_of_eq rfl) (hb hby at_89) (fun _ _ => ⟨rfl, rfl, (by decide : 4 + 2 ≤ _), (by decide : 16004 + 24 ≤ _)⟩)
  dsimp only [Pt.U, Pt.locs, Pt.cells, Pt.slots] at X350 l350 y350 z350 st350 hQ350 hS350 gr350 hR350
  subst l350 y350 z350
  have hZ350 : Z.Warmed39 (s.setVm T350.vm).vm := State.Warmed39.trans (t := (s.setVm s.vm)) hZ hS350.1
  have hown350 : (s.setVm T350.vm).vm.findClass "com/example/remodel/remodel/SettingTableCheckValuePinLaw" = some m.cls := by rw [show (s.setVm T350.vm).vm = T350.vm from rfl, hS350.1.alike.findClass]; exact hown
  replace hS350 := foldS hS (by exact hkk348) hS350 gr350
  have hk350 := Nat.le_refl T350.heap.size
  replace X350 : Stand p l e room_1 (s.setVm T350.vm) m #[(.int p1), (.int p2), (.int p3), (.int p4)] below meth c T350 _ _ _ := X350
  obtain ⟨rfl, Nq350, E350⟩ := hQ350
  have N350 := Fr.app N343 Nq350
  have k351 : Rch p e below S0 T350 (mkF m 92 #[.val (.int p1), .val (.int p2), .val (.int p3), .val (.int p4), .val (.int (Int32.ofNat nn)), .val (.ref b312), .val (.ref b337), .unset] [(.ref b337)]) := fun t h => k349 t (st350.trans h)
  replace sf_b312 := hR350.safe V_b312.lt sf_b312
  replace sf_b337 := hR350.safe E_b337.lt sf_b337
  have hC352 := hR350.1
  have rC352 := rC345.trans hR350
  have O353 := O347.ext E350
  replace V_b312 := V_b312.ext E350
  replace E_b337 := E_b337.ext E350
  replace Fv343 := Fv343.ext E350
  replace Fc343 := Fc343.ext E350
  replace At343 := At343.ext E350
  have k354 : Rch p e below S0 T350 (mkF m 103 #[.val (.int p1), .val (.int p2), .val (.int p3), .val (.int p4), .val (.int (Int32.ofNat nn)), .val (.ref b312), .val (.ref b337), .val (.ref b337)] [(.ref b337)]) := fun t h => k351 t (by
      show Steps p.tables e below (T350.setTop (mkF m 92 #[.val (.int p1), .val (.int p2), .val (.int p3), .val (.int p4), .val (.int (Int32.ofNat nn)), .val (.ref b312), .val (.ref b337), .unset] [(.ref b337)])) _
      refine XS.astore X350.here hx rfl (hb hby at_92) rfl rfl (l' := #[.val (.int p1), .val (.int p2), .val (.int p3), .val (.int p4), .val (.int (Int32.ofNat nn)), .val (.ref b312), .val (.ref b337), .val (.ref b337)]) rfl ?_
      show Steps p.tables e below (T350.setTop (mkF m 94 #[.val (.int p1), .val (.int p2), .val (.int p3), .val (.int p4), .val (.int (Int32.ofNat nn)), .val (.ref b312), .val (.ref b337), .val (.ref b337)] [])) _
      refine XS.aload X350.here hx rfl (hb hby at_94) rfl rfl ?_
      show Steps p.tables e below (T350.setTop (mkF m 96 #[.val (.int p1), .val (.int p2), .val (.int p3), .val (.int p4), .val (.int (Int32.ofNat nn)), .val (.ref b312), .val (.ref b337), .val (.ref b337)] [(.ref b337)])) _
      refine XS.aload X350.here hx rfl (hb hby at_96) rfl rfl ?_
      show Steps p.tables e below (T350.setTop (mkF m 98 #[.val (.int p1), .val (.int p2), .val (.int p3), .val (.int p4), .val (.int (Int32.ofNat nn)), .val (.ref b312), .val (.ref b337), .val (.ref b337)] [(.ref b337), (.ref b337)])) _
      refine Jvm.RoadKit.acmp (g := (mkF m 98 #[.val (.int p1), .val (.int p2), .val (.int p3), .val (.int p4), .val (.int (Int32.ofNat nn)), .val (.ref b312), .val (.ref b337), .val (.ref b337)] [(.ref b337), (.ref b337)])) X350 hx rfl rfl rfl (pc0 := 98) (pc' := 101) (same := true) rfl (hb hby at_98) rfl (decide_eq_true rfl) (by decide) (by decide) ?_
      show Steps p.tables e below (T350.setTop (mkF m 101 #[.val (.int p1), .val (.int p2), .val (.int p3), .val (.int p4), .val (.int (Int32.ofNat nn)), .val (.ref b312), .val (.ref b337), .val (.ref b337)] [])) _
      refine XS.aload X350.here hx rfl (hb hby at_101) rfl rfl ?_
      show Steps p.tables e below (T350.setTop (mkF m 103 #[.val (.int p1), .val (.int p2), .val (.int p3), .val (.int p4), .val (.int (Int32.ofNat nn)), .val (.ref b312), .val (.ref b337), .val (.ref b337)] [(.ref b337)])) _
      exact h)
  obtain ⟨cq355, kq355, q355a, q355b, q355c⟩ := isOf hZ350 rfl E_b337
  obtain ⟨_, _, ⟨T355, L355, kk355, n355⟩, -, X355, ⟨Lc355, hQ355, l355, y355, z355⟩, st355⟩ := X350.virtualBack hx (y := (⟨"java/lang/String", "length", "()I"⟩ : MethodName)) (z := (⟨"java/lang/String", "length", "()I"⟩ : MethodName)) hown350 (mvT hZ350 (hw _ (List.mem_of_getElem? (i := 43) rfl))) (mvT hZ350 (hw _ (List.mem_of_getElem? (i := 33) rfl))) (notFace_of_selects (args := #[]) (mvT hZ350 (hw _ (List.mem_of_getElem? (i := 35) rfl)))) (mvT hZ350 (hw _ (List.mem_of_getElem? (i := 35) rfl))) (mvT hZ350 (hw _ (List.mem_of_getElem? (i := 34) rfl))) (by decide) (backOf (W := 0) (rmLE l Z a0 hw [] b337 t343 kt343 (Int32.ofNat (2 * nn)) vs343 (1 : Int32) zC (Int32.ofNat nn) T350.heap n0 O353 SC hzC E_b337 Fv343 Fc343 At343 hLL) hZ350 (hw _ (List.mem_of_getElem? (i := 36) rfl)) (hw _ (List.mem_of_getElem? (i := 4) rfl)) (by decide) (by decide)) q355a q355c (g := (mkF m 103 #[.val (.int p1), .val (.int p2), .val (.int p3), .val (.int p4), .val (.int (Int32.ofNat nn)), .val (.ref b312), .val (.ref b337), .val (.ref b337)] [(.ref b337)])) rfl (by rw [hml]; rfl) (Steps.refl _) (argsL := []) (rest := []) (lenOf pd_5 rfl) rfl (by show 2 * 0 + _ ≤ _; exact Nat.le_of_eq rfl) (hb hby at_103) (fun _ _ => ⟨rfl, rfl, (by decide : 6 + 0 ≤ _), (by decide : 16028 + 0 ≤ _)⟩)
  dsimp only [Pt.U, Pt.locs, Pt.cells, Pt.slots] at X355 l355 y355 z355 st355 hQ355
  subst l355 y355 z355
  obtain ⟨rfl, Nq355, hh355⟩ := hQ355
  have N355 := Fr.app N350 Nq355
  have k356 : Rch p e below S0 T355 (mkF m 106 #[.val (.int p1), .val (.int p2), .val (.int p3), .val (.int p4), .val (.int (Int32.ofNat nn)), .val (.ref b312), .val (.ref b337), .val (.ref b337)] [(.int (Int32.ofNat nn))]) := fun t h => k354 t (st355.trans h)
  have k357 : Rch p e below S0 T355 (mkF m 116 #[.val (.int p1), .val (.int p2), .val (.int p3), .val (.int p4), .val (.int (Int32.ofNat nn)), .val (.ref b312), .val (.ref b337), .val (.ref b337)] [(.int (1 : Int32))]) := fun t h => k356 t (by
      show Steps p.tables e below (T355.setTop (mkF m 106 #[.val (.int p1), .val (.int p2), .val (.int p3), .val (.int p4), .val (.int (Int32.ofNat nn)), .val (.ref b312), .val (.ref b337), .val (.ref b337)] [(.int (Int32.ofNat nn))])) _
      refine XS.iload X355.here hx rfl (hb hby at_106) rfl ?_
      show Steps p.tables e below (T355.setTop (mkF m 108 #[.val (.int p1), .val (.int p2), .val (.int p3), .val (.int p4), .val (.int (Int32.ofNat nn)), .val (.ref b312), .val (.ref b337), .val (.ref b337)] [(.int (Int32.ofNat nn)), (.int (Int32.ofNat nn))])) _
      refine XS.icmpNo X355.here hx rfl (hb hby at_108) rfl (teq (rfl : (Int32.ofNat nn) = (Int32.ofNat nn))).2 ?_
      show Steps p.tables e below (T355.setTop (mkF m 111 #[.val (.int p1), .val (.int p2), .val (.int p3), .val (.int p4), .val (.int (Int32.ofNat nn)), .val (.ref b312), .val (.ref b337), .val (.ref b337)] [])) _
      refine XS.iconst X355.here hx rfl (hb hby at_111) ?_
      show Steps p.tables e below (T355.setTop (mkF m 112 #[.val (.int p1), .val (.int p2), .val (.int p3), .val (.int p4), .val (.int (Int32.ofNat nn)), .val (.ref b312), .val (.ref b337), .val (.ref b337)] [(.int (1 : Int32))])) _
      refine XS.goto X355.here hx rfl (pc0 := 112) (pc' := 116) rfl (hb hby at_112) (by decide) (by decide) ?_
      show Steps p.tables e below (T355.setTop (mkF m 116 #[.val (.int p1), .val (.int p2), .val (.int p3), .val (.int p4), .val (.int (Int32.ofNat nn)), .val (.ref b312), .val (.ref b337), .val (.ref b337)] [(.int (1 : Int32))])) _
      exact h)
  obtain ⟨fs, hr, hrun, hended, hfin⟩ := X355.leaveW hS350 (by rw [hh355]; exact hk350) (v := (some (.int (1 : Int32)))) (fun h => by rw [Bd.returns] at h; cases h)
  refine ⟨_, _, ?_, hrun, hended, _, _, rfl, ?_, (by rw [hh]; have q := own_chr rC352 (CHv.at X355 hZ350 hEL hC352) hh355; exact q), hfin.1, hfin.2.1, hfin.2.2.1, hfin.2.2.2.mono (by decide) (by decide)⟩
  · rw [← hS0]
    refine k357 _ ?_
    show Steps p.tables e below (T355.setTop (mkF m 116 #[.val (.int p1), .val (.int p2), .val (.int p3), .val (.int p4), .val (.int (Int32.ofNat nn)), .val (.ref b312), .val (.ref b337), .val (.ref b337)] [(.int (1 : Int32))])) _
    exact retN X355 hx (t := .boolean) Bd.returns (by simp) (hb hby at_116) hr
  · show Q_rm0_Au Z  h0 n0 _ T355.heap _
    rw [hh355]
    exact ⟨rfl, N355⟩
def Q_rm0_B0 (Z : State)  (h0 : Heap) (n0 : Nat) (v : Option Value) (h : Heap) (L : List Loc) : Prop := v = some (.int (1 : Int32)) ∧ Fr n0 L
set_option maxRecDepth 65536 in
set_option maxHeartbeats 40000000 in
theorem rm0_B0 (l : Launch) (Z : State) (a0 : Array Value) (hw : ∀ d ∈ tables_1, d.before a0 Z = true) (ws : List Jvm.Cond) (p1 : Int32) (p2 : Int32) (p3 : Int32) (p4 : Int32) (zC : Int32) (h0 : Heap) (n0 : Nat) (O0 : Old Z n0 h0) (SAs : Sta Z Z.heap "java/lang/StringUTF16" "$assertionsDisabled" "Z" (.int (1 : Int32))) (SHi : Sta Z Z.heap "java/lang/StringUTF16" "HI_BYTE_SHIFT" "I" (.int (0 : Int32))) (SLo : Sta Z Z.heap "java/lang/StringUTF16" "LO_BYTE_SHIFT" "I" (.int (8 : Int32))) (SC : Sta Z Z.heap "java/lang/String" "COMPACT_STRINGS" "Z" (.int zC)) (hzC : ¬ zC = 0) (hc : p1 &&& 1 = 0) (he : ((((p1.toUInt32 >>> ((1 : Int32) &&& 31).toUInt32).toInt32) &&& (1073741823 : Int32)) % (4001 : Int32)) = (0 : Int32)) :
    MetFree l x (head1 (Jvm.Cond.code x code maxLocals ret :: ws) room_1) (fun a U => a = #[(.int p1), (.int p2), (.int p3), (.int p4)] ∧ Z.Warmed39 U.vm ∧ U.heap = h0 ∧ CHv Z consts_1 U.vm h0) (fun _ _ _ _ _ => True) (fun _ U o U' => ∃ v L, o = .returned v ∧ Q_rm0_B0 Z  h0 n0 v U'.heap L ∧ CHr Z consts_1 U.vm U.heap U'.vm U'.heap ∧ ReturnedEndW U o U' L room_1.cells room_1.slots) := by
  refine MetFree.of_bodySF (plainFor_of_name pn_SettingTableCheckValuePinLaw) hisR ?_
  intro p e s m args below meth c s₁ Bd hml0 hP hK
  obtain ⟨rfl, hZ, hh, hC0⟩ := hP
  have hx := Bd.exec
  have hby := Bd.bytes
  have hml : c.maxLocals = 8 := hml0
  have hown : s.vm.findClass "com/example/remodel/remodel/SettingTableCheckValuePinLaw" = some m.cls := findClass_of_methodNamed Bd.named
  have hnm := (name_of_methodNamed Bd.named Bd.method).1
  have X0 : Stand p l e room_1 (s.setVm s.vm) m #[(.int p1), (.int p2), (.int p3), (.int p4)] below meth c s₁ [] 0 0 := Stand.of_body Bd
  have e0 : s₁.heap = h0 := by rw [← hh, Bd.state]; rfl
  have N0 := Fr.nil n0
  obtain ⟨S0, hS0⟩ : ∃ z, z = s₁.setTop (entryFrame m #[(.int p1), (.int p2), (.int p3), (.int p4)] maxLocals) := ⟨_, rfl⟩
  have k0 : Rch p e below S0 s₁ (mkF m 0 #[.val (.int p1), .val (.int p2), .val (.int p3), .val (.int p4), .unset, .unset, .unset, .unset] []) := fun t kq => hS0 ▸ castTop (ef_0 m p1 p2 p3 p4) kq
  have hS : s.Since s.vm s.heap.size := (State.WarmedH.refl s).since _
  have hk : s.heap.size ≤ h0.size := by rw [← hh]; exact Nat.le_refl _
  have hwS : ∀ d ∈ Bundle.stringAtoms, d.before a0 Z = true := fun d hd => hw d ((by decide +kernel : ∀ d ∈ Bundle.stringAtoms, d ∈ tables_1) d hd)
  have rC0 : CHr Z consts_1 s.vm h0 s.vm h0 := CHr.refl hC0
  have hEL : EW Z a0 consts_1 := (EW.cons (hw _ (List.mem_of_getElem? (i := 27) rfl)) (by decide +kernel) (EW.cons (hw _ (List.mem_of_getElem? (i := 15) rfl)) (by decide +kernel) EW.nil))
  have k359 : Rch p e below S0 s₁ (mkF m 34 #[.val (.int p1), .val (.int p2), .val (.int p3), .val (.int p4), .val (.int (0 : Int32)), .unset, .unset, .unset] [(.int (0 : Int32))]) := fun t h => k0 t (by
      show Steps p.tables e below (s₁.setTop (mkF m 0 #[.val (.int p1), .val (.int p2), .val (.int p3), .val (.int p4), .unset, .unset, .unset, .unset] [])) _
      refine XS.iloadN X0.here hx rfl (hb hby at_0) rfl ?_
      show Steps p.tables e below (s₁.setTop (mkF m 1 #[.val (.int p1), .val (.int p2), .val (.int p3), .val (.int p4), .unset, .unset, .unset, .unset] [(.int p1)])) _
      refine XS.iconst X0.here hx rfl (hb hby at_1) ?_
      show Steps p.tables e below (s₁.setTop (mkF m 2 #[.val (.int p1), .val (.int p2), .val (.int p3), .val (.int p4), .unset, .unset, .unset, .unset] [(.int (1 : Int32)), (.int p1)])) _
      refine XS.iand X0.here hx rfl (hb hby at_2) rfl ?_
      show Steps p.tables e below (s₁.setTop (mkF m 3 #[.val (.int p1), .val (.int p2), .val (.int p3), .val (.int p4), .unset, .unset, .unset, .unset] [(.int (p1 &&& (1 : Int32)))])) _
      refine XS.ifYes X0.here hx rfl (pc0 := 3) (pc' := 20) rfl (hb hby at_3) rfl ((if0 _ _).trans (teq (hc : (p1 &&& (1 : Int32)) = (0 : Int32))).1) (by decide) (by decide) ?_
      show Steps p.tables e below (s₁.setTop (mkF m 20 #[.val (.int p1), .val (.int p2), .val (.int p3), .val (.int p4), .unset, .unset, .unset, .unset] [])) _
      refine XS.iloadN X0.here hx rfl (hb hby at_20) rfl ?_
      show Steps p.tables e below (s₁.setTop (mkF m 21 #[.val (.int p1), .val (.int p2), .val (.int p3), .val (.int p4), .unset, .unset, .unset, .unset] [(.int p1)])) _
      refine XS.iconst X0.here hx rfl (hb hby at_21) ?_
      show Steps p.tables e below (s₁.setTop (mkF m 22 #[.val (.int p1), .val (.int p2), .val (.int p3), .val (.int p4), .unset, .unset, .unset, .unset] [(.int (1 : Int32)), (.int p1)])) _
      refine XS.iushr X0.here hx rfl (hb hby at_22) rfl ?_
      show Steps p.tables e below (s₁.setTop (mkF m 23 #[.val (.int p1), .val (.int p2), .val (.int p3), .val (.int p4), .unset, .unset, .unset, .unset] [(.int ((p1.toUInt32 >>> ((1 : Int32) &&& 31).toUInt32).toInt32))])) _
      refine X0.ldcInt hx hown (mvT hZ (hw _ (List.mem_of_getElem? (i := 0) rfl))) (g := (mkF m 23 #[.val (.int p1), .val (.int p2), .val (.int p3), .val (.int p4), .unset, .unset, .unset, .unset] [(.int ((p1.toUInt32 >>> ((1 : Int32) &&& 31).toUInt32).toInt32))])) rfl (hb hby at_23) _ ?_
      show Steps p.tables e below (s₁.setTop (mkF m 25 #[.val (.int p1), .val (.int p2), .val (.int p3), .val (.int p4), .unset, .unset, .unset, .unset] [(.int (1073741823 : Int32)), (.int ((p1.toUInt32 >>> ((1 : Int32) &&& 31).toUInt32).toInt32))])) _
      refine XS.iand X0.here hx rfl (hb hby at_25) rfl ?_
      show Steps p.tables e below (s₁.setTop (mkF m 26 #[.val (.int p1), .val (.int p2), .val (.int p3), .val (.int p4), .unset, .unset, .unset, .unset] [(.int (((p1.toUInt32 >>> ((1 : Int32) &&& 31).toUInt32).toInt32) &&& (1073741823 : Int32)))])) _
      refine XS.sipush X0.here hx rfl (hb hby at_26) ?_
      show Steps p.tables e below (s₁.setTop (mkF m 29 #[.val (.int p1), .val (.int p2), .val (.int p3), .val (.int p4), .unset, .unset, .unset, .unset] [(.int (4001 : Int32)), (.int (((p1.toUInt32 >>> ((1 : Int32) &&& 31).toUInt32).toInt32) &&& (1073741823 : Int32)))])) _
      refine iremM X0 hx rfl (hb hby at_29) rfl (by decide) ?_
      rw [he]
      show Steps p.tables e below (s₁.setTop (mkF m 30 #[.val (.int p1), .val (.int p2), .val (.int p3), .val (.int p4), .unset, .unset, .unset, .unset] [(.int (0 : Int32))])) _
      refine XS.istore X0.here hx rfl (hb hby at_30) rfl (l' := #[.val (.int p1), .val (.int p2), .val (.int p3), .val (.int p4), .val (.int (0 : Int32)), .unset, .unset, .unset]) rfl ?_
      show Steps p.tables e below (s₁.setTop (mkF m 32 #[.val (.int p1), .val (.int p2), .val (.int p3), .val (.int p4), .val (.int (0 : Int32)), .unset, .unset, .unset] [])) _
      refine XS.iload X0.here hx rfl (hb hby at_32) rfl ?_
      show Steps p.tables e below (s₁.setTop (mkF m 34 #[.val (.int p1), .val (.int p2), .val (.int p3), .val (.int p4), .val (.int (0 : Int32)), .unset, .unset, .unset] [(.int (0 : Int32))])) _
      exact h)
  obtain ⟨T358, h358, k358, X358, e358, E358, A358, st358⟩ := newP X0 hx hZ (hw _ (List.mem_of_getElem? (i := 1) rfl)) e0 (g := (mkF m 34 #[.val (.int p1), .val (.int p2), .val (.int p3), .val (.int p4), .val (.int (0 : Int32)), .unset, .unset, .unset] [(.int (0 : Int32))])) rfl (hb hby at_34) rfl (by decide) (cap := 0) (by decide) (by decide) (by decide) (by decide)
  obtain ⟨b358, g358⟩ : ∃ z, z = h0.size := ⟨_, rfl⟩
  rw [← g358] at A358 st358
  have k360 : Rch p e below S0 T358 (mkF m 36 #[.val (.int p1), .val (.int p2), .val (.int p3), .val (.int p4), .val (.int (0 : Int32)), .unset, .unset, .unset] [(.ref b358)]) := fun t h => k359 t (st358 t h)
  have ge_b358 : n0 ≤ b358 := own_ge O0 (Nat.le_of_eq g358.symm)
  have sf_b358 : Safe Z consts_1 s.vm h0 b358 := Safe.new (Nat.le_of_eq g358.symm)
  replace sf_b358 := Safe.ext E358 hC0 sf_b358
  have hC361 := hC0.ext E358
  have rC361 := rC0.trans (CHr.ext E358 hC0)
  have O362 := O0.ext E358
  have hkk363 := Nat.le_trans hk E358.1
  have V_b358 : Arv Z h358 b358 k358 .char (0 : Int32) [] (.int (0 : Int32)) := (Arv.new A358 (by decide)).pad (pad_rep [] (.int (0 : Int32)) 0)
  have k365 : Rch p e below S0 T358 (mkF m 76 #[.val (.int p1), .val (.int p2), .val (.int p3), .val (.int p4), .val (.int (0 : Int32)), .val (.ref b358), .unset, .unset] []) := fun t h => k360 t (by
      show Steps p.tables e below (T358.setTop (mkF m 36 #[.val (.int p1), .val (.int p2), .val (.int p3), .val (.int p4), .val (.int (0 : Int32)), .unset, .unset, .unset] [(.ref b358)])) _
      refine XS.astore X358.here hx rfl (hb hby at_36) rfl rfl (l' := #[.val (.int p1), .val (.int p2), .val (.int p3), .val (.int p4), .val (.int (0 : Int32)), .val (.ref b358), .unset, .unset]) rfl ?_
      show Steps p.tables e below (T358.setTop (mkF m 38 #[.val (.int p1), .val (.int p2), .val (.int p3), .val (.int p4), .val (.int (0 : Int32)), .val (.ref b358), .unset, .unset] [])) _
      refine XS.iload X358.here hx rfl (hb hby at_38) rfl ?_
      show Steps p.tables e below (T358.setTop (mkF m 40 #[.val (.int p1), .val (.int p2), .val (.int p3), .val (.int p4), .val (.int (0 : Int32)), .val (.ref b358), .unset, .unset] [(.int (0 : Int32))])) _
      refine XS.ifYes X358.here hx rfl (pc0 := 40) (pc' := 76) rfl (hb hby at_40) rfl ((if0 _ _).trans (flt (by decide : ¬ ((0 : Int32) < (0 : Int32)))).2.2.2) (by decide) (by decide) ?_
      show Steps p.tables e below (T358.setTop (mkF m 76 #[.val (.int p1), .val (.int p2), .val (.int p3), .val (.int p4), .val (.int (0 : Int32)), .val (.ref b358), .unset, .unset] [])) _
      exact h)
  obtain ⟨T364, h364, X364, e364, E364, A364, D364, -, st364⟩ := newO X358 hx hZ hown (hw _ (List.mem_of_getElem? (i := 2) rfl)) (hw _ (List.mem_of_getElem? (i := 3) rfl)) (hw _ (List.mem_of_getElem? (i := 4) rfl)) e358 (g := (mkF m 76 #[.val (.int p1), .val (.int p2), .val (.int p3), .val (.int p4), .val (.int (0 : Int32)), .val (.ref b358), .unset, .unset] [])) rfl (hb hby at_76) (by decide) (by decide)
  obtain ⟨b364, g364⟩ : ∃ z, z = h358.size := ⟨_, rfl⟩
  rw [← g364] at A364 D364 st364
  have k366 : Rch p e below S0 T364 (mkF m 79 #[.val (.int p1), .val (.int p2), .val (.int p3), .val (.int p4), .val (.int (0 : Int32)), .val (.ref b358), .unset, .unset] [(.ref b364)]) := fun t h => k365 t (st364 t h)
  have ne_b358_b364 : b358 ≠ b364 := own_ne V_b358.lt (Nat.le_of_eq g364.symm)
  have ge_b364 : n0 ≤ b364 := own_ge O362 (Nat.le_of_eq g364.symm)
  have sf_b364 : Safe Z consts_1 s.vm h358 b364 := Safe.new (Nat.le_of_eq g364.symm)
  replace sf_b358 := Safe.ext E364 hC361 sf_b358
  replace sf_b364 := Safe.ext E364 hC361 sf_b364
  have hC367 := hC361.ext E364
  have rC367 := rC361.trans (CHr.ext E364 hC361)
  have O368 := O362.ext E364
  replace V_b358 := V_b358.ext E364
  have hkk369 := Nat.le_trans hkk363 E364.1
  have E_b364 := A364
  have F_b364_value : Fld Z h364 b364 "java/lang/String" "value" "[B" .null := D364 (Or.inr (hw _ (List.mem_of_getElem? (i := 17) rfl))) (ty := (.array .byte)) (by decide)
  have F_b364_coder : Fld Z h364 b364 "java/lang/String" "coder" "B" (.int (0 : Int32)) := D364 (Or.inr (hw _ (List.mem_of_getElem? (i := 18) rfl))) (ty := .byte) (by decide)
  have k370 : Rch p e below S0 T364 (mkF m 82 #[.val (.int p1), .val (.int p2), .val (.int p3), .val (.int p4), .val (.int (0 : Int32)), .val (.ref b358), .unset, .unset] [(.ref b358), (.ref b364), (.ref b364)]) := fun t h => k366 t (by
      show Steps p.tables e below (T364.setTop (mkF m 79 #[.val (.int p1), .val (.int p2), .val (.int p3), .val (.int p4), .val (.int (0 : Int32)), .val (.ref b358), .unset, .unset] [(.ref b364)])) _
      refine XS.dup X364.here hx rfl (hb hby at_79) rfl rfl ?_
      show Steps p.tables e below (T364.setTop (mkF m 80 #[.val (.int p1), .val (.int p2), .val (.int p3), .val (.int p4), .val (.int (0 : Int32)), .val (.ref b358), .unset, .unset] [(.ref b364), (.ref b364)])) _
      refine XS.aload X364.here hx rfl (hb hby at_80) rfl rfl ?_
      show Steps p.tables e below (T364.setTop (mkF m 82 #[.val (.int p1), .val (.int p2), .val (.int p3), .val (.int p4), .val (.int (0 : Int32)), .val (.ref b358), .unset, .unset] [(.ref b358), (.ref b364), (.ref b364)])) _
      exact h)
  obtain ⟨_, _, ⟨T371, L371, kk371, n371⟩, -, X371, hS371, gr371, ⟨Lc371, hQ371, l371, y371, z371, hR371⟩, st371⟩ := X364.specialBackS hx (y := (⟨"java/lang/String", "<init>", "([C)V"⟩ : MethodName)) rfl hown (mvT hZ (hw _ (List.mem_of_getElem? (i := 5) rfl))) (mvT hZ (hw _ (List.mem_of_getElem? (i := 6) rfl))) (mvT hZ (hw _ (List.mem_of_getElem? (i := 7) rfl))) (by decide) (backOfSH (W := 1) (rmS0 l Z a0 hw [] b364 b358 k358 h364 n0 O368 ge_b364 E_b364 F_b364_value F_b364_coder V_b358) hZ (hw _ (List.mem_of_getElem? (i := 7) rfl)) (hw _ (List.mem_of_getElem? (i := 4) rfl)) (by decide) (by decide) hEL hC367) (g := (mkF m 82 #[.val (.int p1), .val (.int p2), .val (.int p3), .val (.int p4), .val (.int (0 : Int32)), .val (.ref b358), .unset, .unset] [(.ref b358), (.ref b364), (.ref b364)])) rfl (by rw [hml]; rfl) (Steps.refl _) (a := b364) (argsL := [(.ref b358)]) (rest := [(.ref b364)]) (lenOf pd_0 rfl) rfl (by show 2 * 0 + _ ≤ _; exact Nat.le_of_eq rfl) (hb hby at_82) (fun _ _ => ⟨rfl, e364, (by decide : 2 + 4 ≤ _), (by decide : 4 + 8 ≤ _)⟩)
  dsimp only [Pt.U, Pt.locs, Pt.cells, Pt.slots] at X371 l371 y371 z371 st371 hQ371 hS371 gr371 hR371
  subst l371 y371 z371
  have hZ371 : Z.Warmed39 (s.setVm T371.vm).vm := State.Warmed39.trans (t := (s.setVm s.vm)) hZ hS371.1
  have hown371 : (s.setVm T371.vm).vm.findClass "com/example/remodel/remodel/SettingTableCheckValuePinLaw" = some m.cls := by rw [show (s.setVm T371.vm).vm = T371.vm from rfl, hS371.1.alike.findClass]; exact hown
  replace hS371 := foldS hS (by rw [e364]; exact hkk369) hS371 gr371
  have hk371 := Nat.le_refl T371.heap.size
  replace X371 : Stand p l e room_1 (s.setVm T371.vm) m #[(.int p1), (.int p2), (.int p3), (.int p4)] below meth c T371 _ _ _ := X371
  obtain ⟨rfl, Nq371, K371, t371, kt371, Fv371, Fc371, At371⟩ := hQ371
  have N371 := Fr.app N0 Nq371
  have k372 : Rch p e below S0 T371 (mkF m 85 #[.val (.int p1), .val (.int p2), .val (.int p3), .val (.int p4), .val (.int (0 : Int32)), .val (.ref b358), .unset, .unset] [(.ref b364)]) := fun t h => k370 t (st371.trans h)
  replace sf_b358 := hR371.safe V_b358.lt sf_b358
  replace sf_b364 := hR371.safe E_b364.lt sf_b364
  have hC373 := hR371.1
  have rC373 := rC367.trans hR371
  have O374 := O368.keep K371 (allS ge_b364 all0)
  replace V_b358 := V_b358.keep K371 (ninS ne_b358_b364 nin0)
  replace E_b364 := E_b364.keep K371
  have k375 : Rch p e below S0 T371 (mkF m 89 #[.val (.int p1), .val (.int p2), .val (.int p3), .val (.int p4), .val (.int (0 : Int32)), .val (.ref b358), .val (.ref b364), .unset] [(.ref b364)]) := fun t h => k372 t (by
      show Steps p.tables e below (T371.setTop (mkF m 85 #[.val (.int p1), .val (.int p2), .val (.int p3), .val (.int p4), .val (.int (0 : Int32)), .val (.ref b358), .unset, .unset] [(.ref b364)])) _
      refine XS.astore X371.here hx rfl (hb hby at_85) rfl rfl (l' := #[.val (.int p1), .val (.int p2), .val (.int p3), .val (.int p4), .val (.int (0 : Int32)), .val (.ref b358), .val (.ref b364), .unset]) rfl ?_
      show Steps p.tables e below (T371.setTop (mkF m 87 #[.val (.int p1), .val (.int p2), .val (.int p3), .val (.int p4), .val (.int (0 : Int32)), .val (.ref b358), .val (.ref b364), .unset] [])) _
      refine XS.aload X371.here hx rfl (hb hby at_87) rfl rfl ?_
      show Steps p.tables e below (T371.setTop (mkF m 89 #[.val (.int p1), .val (.int p2), .val (.int p3), .val (.int p4), .val (.int (0 : Int32)), .val (.ref b358), .val (.ref b364), .unset] [(.ref b364)])) _
      exact h)
  have hLL : ((0 : Int32) >>> (nar .byte (0 : Int32) &&& 31)) = (0 : Int32) := by decide
  obtain ⟨_, _, ⟨T376, L376, kk376, n376⟩, -, X376, hS376, gr376, ⟨Lc376, hQ376, l376, y376, z376, hR376⟩, st376⟩ := callSS X371 hx (y := (⟨"com/example/remodel/remodel/SettingTable", "checkValue", "(Ljava/lang/String;)Ljava/lang/String;"⟩ : MethodName)) hown371 (mvT hZ371 (hw _ (List.mem_of_getElem? (i := 23) rfl))) (mvT hZ371 (hw _ (List.mem_of_getElem? (i := 24) rfl))) (mvT hZ371 (hw _ (List.mem_of_getElem? (i := 25) rfl))) (mvT hZ371 (hw _ (List.mem_of_getElem? (i := 26) rfl))) (by decide) (backOfSH (W := 0) (rmH l Z a0 hw [] b364 t371 kt371 (0 : Int32) [] (0 : Int32) zC (0 : Int32) T371.heap n0 O374 SC hzC E_b364 Fv371 Fc371 At371 hLL (by decide)) hZ371 (hw _ (List.mem_of_getElem? (i := 26) rfl)) (hw _ (List.mem_of_getElem? (i := 25) rfl)) (by decide) (by decide) hEL hC373) (g := (mkF m 89 #[.val (.int p1), .val (.int p2), .val (.int p3), .val (.int p4), .val (.int (0 : Int32)), .val (.ref b358), .val (.ref b364), .unset] [(.ref b364)])) rfl (by rw [hml]; rfl) (argsL := [(.ref b364)]) (rest := []) (lenOf pd_3 rfl) rfl (by show 2 * 0 + _ ≤ _; exact Nat.le_of_eq rfl) (hb hby at_89) (fun _ _ => ⟨rfl, rfl, (by decide : 6 + 2 ≤ _), (by decide : 12 + 24 ≤ _)⟩)
  dsimp only [Pt.U, Pt.locs, Pt.cells, Pt.slots] at X376 l376 y376 z376 st376 hQ376 hS376 gr376 hR376
  subst l376 y376 z376
  have hZ376 : Z.Warmed39 (s.setVm T376.vm).vm := State.Warmed39.trans (t := (s.setVm T371.vm)) hZ371 hS376.1
  have hown376 : (s.setVm T376.vm).vm.findClass "com/example/remodel/remodel/SettingTableCheckValuePinLaw" = some m.cls := by rw [show (s.setVm T376.vm).vm = T376.vm from rfl, hS376.1.alike.findClass]; exact hown371
  replace hS376 := foldS hS371 (by exact hk371) hS376 gr376
  have hk376 := Nat.le_refl T376.heap.size
  replace X376 : Stand p l e room_1 (s.setVm T376.vm) m #[(.int p1), (.int p2), (.int p3), (.int p4)] below meth c T376 _ _ _ := X376
  obtain ⟨rfl, Nq376, E376⟩ := hQ376
  have N376 := Fr.app N371 Nq376
  have k377 : Rch p e below S0 T376 (mkF m 92 #[.val (.int p1), .val (.int p2), .val (.int p3), .val (.int p4), .val (.int (0 : Int32)), .val (.ref b358), .val (.ref b364), .unset] [(.ref b364)]) := fun t h => k375 t (st376.trans h)
  replace sf_b358 := hR376.safe V_b358.lt sf_b358
  replace sf_b364 := hR376.safe E_b364.lt sf_b364
  have hC378 := hR376.1
  have rC378 := rC373.trans hR376
  have O379 := O374.ext E376
  replace V_b358 := V_b358.ext E376
  replace E_b364 := E_b364.ext E376
  replace Fv371 := Fv371.ext E376
  replace Fc371 := Fc371.ext E376
  replace At371 := At371.ext E376
  have k380 : Rch p e below S0 T376 (mkF m 103 #[.val (.int p1), .val (.int p2), .val (.int p3), .val (.int p4), .val (.int (0 : Int32)), .val (.ref b358), .val (.ref b364), .val (.ref b364)] [(.ref b364)]) := fun t h => k377 t (by
      show Steps p.tables e below (T376.setTop (mkF m 92 #[.val (.int p1), .val (.int p2), .val (.int p3), .val (.int p4), .val (.int (0 : Int32)), .val (.ref b358), .val (.ref b364), .unset] [(.ref b364)])) _
      refine XS.astore X376.here hx rfl (hb hby at_92) rfl rfl (l' := #[.val (.int p1), .val (.int p2), .val (.int p3), .val (.int p4), .val (.int (0 : Int32)), .val (.ref b358), .val (.ref b364), .val (.ref b364)]) rfl ?_
      show Steps p.tables e below (T376.setTop (mkF m 94 #[.val (.int p1), .val (.int p2), .val (.int p3), .val (.int p4), .val (.int (0 : Int32)), .val (.ref b358), .val (.ref b364), .val (.ref b364)] [])) _
      refine XS.aload X376.here hx rfl (hb hby at_94) rfl rfl ?_
      show Steps p.tables e below (T376.setTop (mkF m 96 #[.val (.int p1), .val (.int p2), .val (.int p3), .val (.int p4), .val (.int (0 : Int32)), .val (.ref b358), .val (.ref b364), .val (.ref b364)] [(.ref b364)])) _
      refine XS.aload X376.here hx rfl (hb hby at_96) rfl rfl ?_
      show Steps p.tables e below (T376.setTop (mkF m 98 #[.val (.int p1), .val (.int p2), .val (.int p3), .val (.int p4), .val (.int (0 : Int32)), .val (.ref b358), .val (.ref b364), .val (.ref b364)] [(.ref b364), (.ref b364)])) _
      refine Jvm.RoadKit.acmp (g := (mkF m 98 #[.val (.int p1), .val (.int p2), .val (.int p3), .val (.int p4), .val (.int (0 : Int32)), .val (.ref b358), .val (.ref b364), .val (.ref b364)] [(.ref b364), (.ref b364)])) X376 hx rfl rfl rfl (pc0 := 98) (pc' := 101) (same := true) rfl (hb hby at_98) rfl (decide_eq_true rfl) (by decide) (by decide) ?_
      show Steps p.tables e below (T376.setTop (mkF m 101 #[.val (.int p1), .val (.int p2), .val (.int p3), .val (.int p4), .val (.int (0 : Int32)), .val (.ref b358), .val (.ref b364), .val (.ref b364)] [])) _
      refine XS.aload X376.here hx rfl (hb hby at_101) rfl rfl ?_
      show Steps p.tables e below (T376.setTop (mkF m 103 #[.val (.int p1), .val (.int p2), .val (.int p3), .val (.int p4), .val (.int (0 : Int32)), .val (.ref b358), .val (.ref b364), .val (.ref b364)] [(.ref b364)])) _
      exact h)
  obtain ⟨cq381, kq381, q381a, q381b, q381c⟩ := isOf hZ376 rfl E_b364
  obtain ⟨_, _, ⟨T381, L381, kk381, n381⟩, -, X381, ⟨Lc381, hQ381, l381, y381, z381⟩, st381⟩ := X376.virtualBack hx (y := (⟨"java/lang/String", "length", "()I"⟩ : MethodName)) (z := (⟨"java/lang/String", "length", "()I"⟩ : MethodName)) hown376 (mvT hZ376 (hw _ (List.mem_of_getElem? (i := 43) rfl))) (mvT hZ376 (hw _ (List.mem_of_getElem? (i := 33) rfl))) (notFace_of_selects (args := #[]) (mvT hZ376 (hw _ (List.mem_of_getElem? (i := 35) rfl)))) (mvT hZ376 (hw _ (List.mem_of_getElem? (i := 35) rfl))) (mvT hZ376 (hw _ (List.mem_of_getElem? (i := 34) rfl))) (by decide) (backOf (W := 0) (rmLE l Z a0 hw [] b364 t371 kt371 (0 : Int32) [] (0 : Int32) zC (0 : Int32) T376.heap n0 O379 SC hzC E_b364 Fv371 Fc371 At371 hLL) hZ376 (hw _ (List.mem_of_getElem? (i := 36) rfl)) (hw _ (List.mem_of_getElem? (i := 4) rfl)) (by decide) (by decide)) q381a q381c (g := (mkF m 103 #[.val (.int p1), .val (.int p2), .val (.int p3), .val (.int p4), .val (.int (0 : Int32)), .val (.ref b358), .val (.ref b364), .val (.ref b364)] [(.ref b364)])) rfl (by rw [hml]; rfl) (Steps.refl _) (argsL := []) (rest := []) (lenOf pd_5 rfl) rfl (by show 2 * 0 + _ ≤ _; exact Nat.le_of_eq rfl) (hb hby at_103) (fun _ _ => ⟨rfl, rfl, (by decide : 8 + 0 ≤ _), (by decide : 36 + 0 ≤ _)⟩)
  dsimp only [Pt.U, Pt.locs, Pt.cells, Pt.slots] at X381 l381 y381 z381 st381 hQ381
  subst l381 y381 z381
  obtain ⟨rfl, Nq381, hh381⟩ := hQ381
  have N381 := Fr.app N376 Nq381
  have k382 : Rch p e below S0 T381 (mkF m 106 #[.val (.int p1), .val (.int p2), .val (.int p3), .val (.int p4), .val (.int (0 : Int32)), .val (.ref b358), .val (.ref b364), .val (.ref b364)] [(.int (0 : Int32))]) := fun t h => k380 t (st381.trans h)
  have k383 : Rch p e below S0 T381 (mkF m 116 #[.val (.int p1), .val (.int p2), .val (.int p3), .val (.int p4), .val (.int (0 : Int32)), .val (.ref b358), .val (.ref b364), .val (.ref b364)] [(.int (1 : Int32))]) := fun t h => k382 t (by
      show Steps p.tables e below (T381.setTop (mkF m 106 #[.val (.int p1), .val (.int p2), .val (.int p3), .val (.int p4), .val (.int (0 : Int32)), .val (.ref b358), .val (.ref b364), .val (.ref b364)] [(.int (0 : Int32))])) _
      refine XS.iload X381.here hx rfl (hb hby at_106) rfl ?_
      show Steps p.tables e below (T381.setTop (mkF m 108 #[.val (.int p1), .val (.int p2), .val (.int p3), .val (.int p4), .val (.int (0 : Int32)), .val (.ref b358), .val (.ref b364), .val (.ref b364)] [(.int (0 : Int32)), (.int (0 : Int32))])) _
      refine XS.icmpNo X381.here hx rfl (hb hby at_108) rfl (teq (by decide : (0 : Int32) = (0 : Int32))).2 ?_
      show Steps p.tables e below (T381.setTop (mkF m 111 #[.val (.int p1), .val (.int p2), .val (.int p3), .val (.int p4), .val (.int (0 : Int32)), .val (.ref b358), .val (.ref b364), .val (.ref b364)] [])) _
      refine XS.iconst X381.here hx rfl (hb hby at_111) ?_
      show Steps p.tables e below (T381.setTop (mkF m 112 #[.val (.int p1), .val (.int p2), .val (.int p3), .val (.int p4), .val (.int (0 : Int32)), .val (.ref b358), .val (.ref b364), .val (.ref b364)] [(.int (1 : Int32))])) _
      refine XS.goto X381.here hx rfl (pc0 := 112) (pc' := 116) rfl (hb hby at_112) (by decide) (by decide) ?_
      show Steps p.tables e below (T381.setTop (mkF m 116 #[.val (.int p1), .val (.int p2), .val (.int p3), .val (.int p4), .val (.int (0 : Int32)), .val (.ref b358), .val (.ref b364), .val (.ref b364)] [(.int (1 : Int32))])) _
      exact h)
  obtain ⟨fs, hr, hrun, hended, hfin⟩ := X381.leaveW hS376 (by rw [hh381]; exact hk376) (v := (some (.int (1 : Int32)))) (fun h => by rw [Bd.returns] at h; cases h)
  refine ⟨_, _, ?_, hrun, hended, _, _, rfl, ?_, (by rw [hh]; have q := own_chr rC378 (CHv.at X381 hZ376 hEL hC378) hh381; exact q), hfin.1, hfin.2.1, hfin.2.2.1, hfin.2.2.2.mono (by decide) (by decide)⟩
  · rw [← hS0]
    refine k383 _ ?_
    show Steps p.tables e below (T381.setTop (mkF m 116 #[.val (.int p1), .val (.int p2), .val (.int p3), .val (.int p4), .val (.int (0 : Int32)), .val (.ref b358), .val (.ref b364), .val (.ref b364)] [(.int (1 : Int32))])) _
    exact retN X381 hx (t := .boolean) Bd.returns (by simp) (hb hby at_116) hr
  · show Q_rm0_B0 Z  h0 n0 _ T381.heap _
    rw [hh381]
    exact ⟨rfl, N381⟩
def Q_rm0_Bl (Z : State)  (h0 : Heap) (n0 : Nat) (v : Option Value) (h : Heap) (L : List Loc) : Prop := v = some (.int (1 : Int32)) ∧ Fr n0 L
set_option maxRecDepth 65536 in
set_option maxHeartbeats 40000000 in
theorem rm0_Bl (l : Launch) (Z : State) (a0 : Array Value) (hw : ∀ d ∈ tables_1, d.before a0 Z = true) (ws : List Jvm.Cond) (p1 : Int32) (p2 : Int32) (p3 : Int32) (p4 : Int32) (zC : Int32) (nn : Nat) (pp : Nat) (h0 : Heap) (n0 : Nat) (O0 : Old Z n0 h0) (SAs : Sta Z Z.heap "java/lang/StringUTF16" "$assertionsDisabled" "Z" (.int (1 : Int32))) (SHi : Sta Z Z.heap "java/lang/StringUTF16" "HI_BYTE_SHIFT" "I" (.int (0 : Int32))) (SLo : Sta Z Z.heap "java/lang/StringUTF16" "LO_BYTE_SHIFT" "I" (.int (8 : Int32))) (SC : Sta Z Z.heap "java/lang/String" "COMPACT_STRINGS" "Z" (.int zC)) (hzC : ¬ zC = 0) (hc : p1 &&& 1 = 0) (he : ((((p1.toUInt32 >>> ((1 : Int32) &&& 31).toUInt32).toInt32) &&& (1073741823 : Int32)) % (4001 : Int32)) = (Int32.ofNat nn)) (hn1 : 0 < nn) (hn2 : nn ≤ 4000) (hp1 : pp < nn) (hpe : ((p4 &&& (2147483647 : Int32)) % (Int32.ofNat nn)) = (Int32.ofNat pp)) (hlow : ∀ i, i < nn → ¬ (255 : Int32) < (own_cs nn pp (p2.toUInt32.toUInt16.toUInt32.toInt32) (p3.toUInt32.toUInt16.toUInt32.toInt32) ((p2 ^^^ p3).toUInt32.toUInt16.toUInt32.toInt32)).getD i 0) :
    MetFree l x (head1 (Jvm.Cond.code x code maxLocals ret :: ws) room_1) (fun a U => a = #[(.int p1), (.int p2), (.int p3), (.int p4)] ∧ Z.Warmed39 U.vm ∧ U.heap = h0 ∧ CHv Z consts_1 U.vm h0) (fun _ _ _ _ _ => True) (fun _ U o U' => ∃ v L, o = .returned v ∧ Q_rm0_Bl Z  h0 n0 v U'.heap L ∧ CHr Z consts_1 U.vm U.heap U'.vm U'.heap ∧ ReturnedEndW U o U' L room_1.cells room_1.slots) := by
  refine MetFree.of_bodySF (plainFor_of_name pn_SettingTableCheckValuePinLaw) hisR ?_
  intro p e s m args below meth c s₁ Bd hml0 hP hK
  obtain ⟨rfl, hZ, hh, hC0⟩ := hP
  have hx := Bd.exec
  have hby := Bd.bytes
  have hml : c.maxLocals = 8 := hml0
  have hown : s.vm.findClass "com/example/remodel/remodel/SettingTableCheckValuePinLaw" = some m.cls := findClass_of_methodNamed Bd.named
  have hnm := (name_of_methodNamed Bd.named Bd.method).1
  have X0 : Stand p l e room_1 (s.setVm s.vm) m #[(.int p1), (.int p2), (.int p3), (.int p4)] below meth c s₁ [] 0 0 := Stand.of_body Bd
  have e0 : s₁.heap = h0 := by rw [← hh, Bd.state]; rfl
  have N0 := Fr.nil n0
  obtain ⟨S0, hS0⟩ : ∃ z, z = s₁.setTop (entryFrame m #[(.int p1), (.int p2), (.int p3), (.int p4)] maxLocals) := ⟨_, rfl⟩
  have k0 : Rch p e below S0 s₁ (mkF m 0 #[.val (.int p1), .val (.int p2), .val (.int p3), .val (.int p4), .unset, .unset, .unset, .unset] []) := fun t kq => hS0 ▸ castTop (ef_0 m p1 p2 p3 p4) kq
  have hS : s.Since s.vm s.heap.size := (State.WarmedH.refl s).since _
  have hk : s.heap.size ≤ h0.size := by rw [← hh]; exact Nat.le_refl _
  have hwS : ∀ d ∈ Bundle.stringAtoms, d.before a0 Z = true := fun d hd => hw d ((by decide +kernel : ∀ d ∈ Bundle.stringAtoms, d ∈ tables_1) d hd)
  have rC0 : CHr Z consts_1 s.vm h0 s.vm h0 := CHr.refl hC0
  have hEL : EW Z a0 consts_1 := (EW.cons (hw _ (List.mem_of_getElem? (i := 27) rfl)) (by decide +kernel) (EW.cons (hw _ (List.mem_of_getElem? (i := 15) rfl)) (by decide +kernel) EW.nil))
  have k385 : Rch p e below S0 s₁ (mkF m 34 #[.val (.int p1), .val (.int p2), .val (.int p3), .val (.int p4), .val (.int (Int32.ofNat nn)), .unset, .unset, .unset] [(.int (Int32.ofNat nn))]) := fun t h => k0 t (by
      show Steps p.tables e below (s₁.setTop (mkF m 0 #[.val (.int p1), .val (.int p2), .val (.int p3), .val (.int p4), .unset, .unset, .unset, .unset] [])) _
      refine XS.iloadN X0.here hx rfl (hb hby at_0) rfl ?_
      show Steps p.tables e below (s₁.setTop (mkF m 1 #[.val (.int p1), .val (.int p2), .val (.int p3), .val (.int p4), .unset, .unset, .unset, .unset] [(.int p1)])) _
      refine XS.iconst X0.here hx rfl (hb hby at_1) ?_
      show Steps p.tables e below (s₁.setTop (mkF m 2 #[.val (.int p1), .val (.int p2), .val (.int p3), .val (.int p4), .unset, .unset, .unset, .unset] [(.int (1 : Int32)), (.int p1)])) _
      refine XS.iand X0.here hx rfl (hb hby at_2) rfl ?_
      show Steps p.tables e below (s₁.setTop (mkF m 3 #[.val (.int p1), .val (.int p2), .val (.int p3), .val (.int p4), .unset, .unset, .unset, .unset] [(.int (p1 &&& (1 : Int32)))])) _
      refine XS.ifYes X0.here hx rfl (pc0 := 3) (pc' := 20) rfl (hb hby at_3) rfl ((if0 _ _).trans (teq (hc : (p1 &&& (1 : Int32)) = (0 : Int32))).1) (by decide) (by decide) ?_
      show Steps p.tables e below (s₁.setTop (mkF m 20 #[.val (.int p1), .val (.int p2), .val (.int p3), .val (.int p4), .unset, .unset, .unset, .unset] [])) _
      refine XS.iloadN X0.here hx rfl (hb hby at_20) rfl ?_
      show Steps p.tables e below (s₁.setTop (mkF m 21 #[.val (.int p1), .val (.int p2), .val (.int p3), .val (.int p4), .unset, .unset, .unset, .unset] [(.int p1)])) _
      refine XS.iconst X0.here hx rfl (hb hby at_21) ?_
      show Steps p.tables e below (s₁.setTop (mkF m 22 #[.val (.int p1), .val (.int p2), .val (.int p3), .val (.int p4), .unset, .unset, .unset, .unset] [(.int (1 : Int32)), (.int p1)])) _
      refine XS.iushr X0.here hx rfl (hb hby at_22) rfl ?_
      show Steps p.tables e below (s₁.setTop (mkF m 23 #[.val (.int p1), .val (.int p2), .val (.int p3), .val (.int p4), .unset, .unset, .unset, .unset] [(.int ((p1.toUInt32 >>> ((1 : Int32) &&& 31).toUInt32).toInt32))])) _
      refine X0.ldcInt hx hown (mvT hZ (hw _ (List.mem_of_getElem? (i := 0) rfl))) (g := (mkF m 23 #[.val (.int p1), .val (.int p2), .val (.int p3), .val (.int p4), .unset, .unset, .unset, .unset] [(.int ((p1.toUInt32 >>> ((1 : Int32) &&& 31).toUInt32).toInt32))])) rfl (hb hby at_23) _ ?_
      show Steps p.tables e below (s₁.setTop (mkF m 25 #[.val (.int p1), .val (.int p2), .val (.int p3), .val (.int p4), .unset, .unset, .unset, .unset] [(.int (1073741823 : Int32)), (.int ((p1.toUInt32 >>> ((1 : Int32) &&& 31).toUInt32).toInt32))])) _
      refine XS.iand X0.here hx rfl (hb hby at_25) rfl ?_
      show Steps p.tables e below (s₁.setTop (mkF m 26 #[.val (.int p1), .val (.int p2), .val (.int p3), .val (.int p4), .unset, .unset, .unset, .unset] [(.int (((p1.toUInt32 >>> ((1 : Int32) &&& 31).toUInt32).toInt32) &&& (1073741823 : Int32)))])) _
      refine XS.sipush X0.here hx rfl (hb hby at_26) ?_
      show Steps p.tables e below (s₁.setTop (mkF m 29 #[.val (.int p1), .val (.int p2), .val (.int p3), .val (.int p4), .unset, .unset, .unset, .unset] [(.int (4001 : Int32)), (.int (((p1.toUInt32 >>> ((1 : Int32) &&& 31).toUInt32).toInt32) &&& (1073741823 : Int32)))])) _
      refine iremM X0 hx rfl (hb hby at_29) rfl (by decide) ?_
      rw [he]
      show Steps p.tables e below (s₁.setTop (mkF m 30 #[.val (.int p1), .val (.int p2), .val (.int p3), .val (.int p4), .unset, .unset, .unset, .unset] [(.int (Int32.ofNat nn))])) _
      refine XS.istore X0.here hx rfl (hb hby at_30) rfl (l' := #[.val (.int p1), .val (.int p2), .val (.int p3), .val (.int p4), .val (.int (Int32.ofNat nn)), .unset, .unset, .unset]) rfl ?_
      show Steps p.tables e below (s₁.setTop (mkF m 32 #[.val (.int p1), .val (.int p2), .val (.int p3), .val (.int p4), .val (.int (Int32.ofNat nn)), .unset, .unset, .unset] [])) _
      refine XS.iload X0.here hx rfl (hb hby at_32) rfl ?_
      show Steps p.tables e below (s₁.setTop (mkF m 34 #[.val (.int p1), .val (.int p2), .val (.int p3), .val (.int p4), .val (.int (Int32.ofNat nn)), .unset, .unset, .unset] [(.int (Int32.ofNat nn))])) _
      exact h)
  obtain ⟨T384, h384, k384, X384, e384, E384, A384, st384⟩ := newP X0 hx hZ (hw _ (List.mem_of_getElem? (i := 1) rfl)) e0 (g := (mkF m 34 #[.val (.int p1), .val (.int p2), .val (.int p3), .val (.int p4), .val (.int (Int32.ofNat nn)), .unset, .unset, .unset] [(.int (Int32.ofNat nn))])) rfl (hb hby at_34) rfl (own_on0 (by omega)) (cap := 4000) (by rw [(own_tn (by omega)).1]; omega) (by decide) (by decide) (by decide)
  obtain ⟨b384, g384⟩ : ∃ z, z = h0.size := ⟨_, rfl⟩
  rw [← g384] at A384 st384
  have k386 : Rch p e below S0 T384 (mkF m 36 #[.val (.int p1), .val (.int p2), .val (.int p3), .val (.int p4), .val (.int (Int32.ofNat nn)), .unset, .unset, .unset] [(.ref b384)]) := fun t h => k385 t (st384 t h)
  have ge_b384 : n0 ≤ b384 := own_ge O0 (Nat.le_of_eq g384.symm)
  have sf_b384 : Safe Z consts_1 s.vm h0 b384 := Safe.new (Nat.le_of_eq g384.symm)
  replace sf_b384 := Safe.ext E384 hC0 sf_b384
  have hC387 := hC0.ext E384
  have rC387 := rC0.trans (CHr.ext E384 hC0)
  have O388 := O0.ext E384
  have hkk389 := Nat.le_trans hk E384.1
  have V_b384 : Arv Z h384 b384 k384 .char (Int32.ofNat nn) [] (.int (0 : Int32)) := Arv.new A384 (own_on0 (by omega))
  have k390 : Rch p e below S0 T384 (mkF m 43 #[.val (.int p1), .val (.int p2), .val (.int p3), .val (.int p4), .val (.int (Int32.ofNat nn)), .val (.ref b384), .unset, .unset] []) := fun t h => k386 t (by
      show Steps p.tables e below (T384.setTop (mkF m 36 #[.val (.int p1), .val (.int p2), .val (.int p3), .val (.int p4), .val (.int (Int32.ofNat nn)), .unset, .unset, .unset] [(.ref b384)])) _
      refine XS.astore X384.here hx rfl (hb hby at_36) rfl rfl (l' := #[.val (.int p1), .val (.int p2), .val (.int p3), .val (.int p4), .val (.int (Int32.ofNat nn)), .val (.ref b384), .unset, .unset]) rfl ?_
      show Steps p.tables e below (T384.setTop (mkF m 38 #[.val (.int p1), .val (.int p2), .val (.int p3), .val (.int p4), .val (.int (Int32.ofNat nn)), .val (.ref b384), .unset, .unset] [])) _
      refine XS.iload X384.here hx rfl (hb hby at_38) rfl ?_
      show Steps p.tables e below (T384.setTop (mkF m 40 #[.val (.int p1), .val (.int p2), .val (.int p3), .val (.int p4), .val (.int (Int32.ofNat nn)), .val (.ref b384), .unset, .unset] [(.int (Int32.ofNat nn))])) _
      refine XS.ifNo X384.here hx rfl (hb hby at_40) rfl ((if0 _ _).trans (tlt ((by rw [Int32.lt_iff_toInt_lt, (own_tn (by omega)).2, show (0 : Int32).toInt = 0 from by decide]; omega) : (0 : Int32) < (Int32.ofNat nn))).2.2.2) ?_
      show Steps p.tables e below (T384.setTop (mkF m 43 #[.val (.int p1), .val (.int p2), .val (.int p3), .val (.int p4), .val (.int (Int32.ofNat nn)), .val (.ref b384), .unset, .unset] [])) _
      exact h)
  replace V_b384 : Arv Z h384 b384 k384 .char (Int32.ofNat nn) (List.replicate nn (Value.int 0)) (.int (0 : Int32)) := by
    have q := V_b384.pad (pad_rep [] (.int (0 : Int32)) nn)
    rwa [List.nil_append] at q
  have k392 : Rch p e below S0 T384 (mkF m 48 #[.val (.int p1), .val (.int p2), .val (.int p3), .val (.int p4), .val (.int (Int32.ofNat nn)), .val (.ref b384), .unset, .unset] [(.int (p2.toUInt32.toUInt16.toUInt32.toInt32)), (.int (0 : Int32)), (.ref b384)]) := fun t h => k390 t (by
      show Steps p.tables e below (T384.setTop (mkF m 43 #[.val (.int p1), .val (.int p2), .val (.int p3), .val (.int p4), .val (.int (Int32.ofNat nn)), .val (.ref b384), .unset, .unset] [])) _
      refine XS.aload X384.here hx rfl (hb hby at_43) rfl rfl ?_
      show Steps p.tables e below (T384.setTop (mkF m 45 #[.val (.int p1), .val (.int p2), .val (.int p3), .val (.int p4), .val (.int (Int32.ofNat nn)), .val (.ref b384), .unset, .unset] [(.ref b384)])) _
      refine XS.iconst X384.here hx rfl (hb hby at_45) ?_
      show Steps p.tables e below (T384.setTop (mkF m 46 #[.val (.int p1), .val (.int p2), .val (.int p3), .val (.int p4), .val (.int (Int32.ofNat nn)), .val (.ref b384), .unset, .unset] [(.int (0 : Int32)), (.ref b384)])) _
      refine XS.iloadN X384.here hx rfl (hb hby at_46) rfl ?_
      show Steps p.tables e below (T384.setTop (mkF m 47 #[.val (.int p1), .val (.int p2), .val (.int p3), .val (.int p4), .val (.int (Int32.ofNat nn)), .val (.ref b384), .unset, .unset] [(.int p2), (.int (0 : Int32)), (.ref b384)])) _
      refine XS.i2c X384.here hx rfl (hb hby at_47) rfl ?_
      show Steps p.tables e below (T384.setTop (mkF m 48 #[.val (.int p1), .val (.int p2), .val (.int p3), .val (.int p4), .val (.int (Int32.ofNat nn)), .val (.ref b384), .unset, .unset] [(.int (p2.toUInt32.toUInt16.toUInt32.toInt32)), (.int (0 : Int32)), (.ref b384)])) _
      exact h)
  obtain ⟨cl391, Ar391, q391, Sz391, Ng391, Hs391, G391⟩ := id V_b384
  have hin391 : ¬ ((0 : Int32) < 0 ∨ cl391.slots.size ≤ ((0 : Int32)).toNatClampNeg) := inb_of Sz391 ⟨by decide, by rw [Int32.lt_iff_toInt_lt, (own_tn (by omega)).2, show (0 : Int32).toInt = 0 from by decide]; omega⟩
  obtain ⟨T391, h391, X391, e391, W391, st391⟩ := stC X384 hx hZ e384 Ar391 (j := (0 : Int32)) hin391 (g := (mkF m 48 #[.val (.int p1), .val (.int p2), .val (.int p3), .val (.int p4), .val (.int (Int32.ofNat nn)), .val (.ref b384), .unset, .unset] [(.int (p2.toUInt32.toUInt16.toUInt32.toInt32)), (.int (0 : Int32)), (.ref b384)])) rfl rfl (hb hby at_48)
  have k393 : Rch p e below S0 T391 (mkF m 49 #[.val (.int p1), .val (.int p2), .val (.int p3), .val (.int p4), .val (.int (Int32.ofNat nn)), .val (.ref b384), .unset, .unset] []) := fun t h => k392 t (st391 t h)
  have N391 := Fr.snoc X391 N0 ge_b384
  have V_b384' := Arv.set Ar391 q391 Sz391 Ng391 Hs391 G391 (fits_nar_char _) W391 0 rfl (by rw [List.length_replicate]; omega)
  replace V_b384 := V_b384'
  have hC394 := hC387.wr W391 sf_b384
  have rC394 := rC387.trans (CHr.wr W391 sf_b384 hC387)
  replace sf_b384 := Safe.wr W391 sf_b384 hC387 sf_b384
  have O395 := O388.wr W391 ge_b384
  have hkk396 := Nat.le_trans hkk389 (Keep.of_wr W391).1
  have k398 : Rch p e below S0 T391 (mkF m 57 #[.val (.int p1), .val (.int p2), .val (.int p3), .val (.int p4), .val (.int (Int32.ofNat nn)), .val (.ref b384), .unset, .unset] [(.int (p3.toUInt32.toUInt16.toUInt32.toInt32)), (.int (Int32.ofNat (nn - 1))), (.ref b384)]) := fun t h => k393 t (by
      show Steps p.tables e below (T391.setTop (mkF m 49 #[.val (.int p1), .val (.int p2), .val (.int p3), .val (.int p4), .val (.int (Int32.ofNat nn)), .val (.ref b384), .unset, .unset] [])) _
      refine XS.aload X391.here hx rfl (hb hby at_49) rfl rfl ?_
      show Steps p.tables e below (T391.setTop (mkF m 51 #[.val (.int p1), .val (.int p2), .val (.int p3), .val (.int p4), .val (.int (Int32.ofNat nn)), .val (.ref b384), .unset, .unset] [(.ref b384)])) _
      refine XS.iload X391.here hx rfl (hb hby at_51) rfl ?_
      show Steps p.tables e below (T391.setTop (mkF m 53 #[.val (.int p1), .val (.int p2), .val (.int p3), .val (.int p4), .val (.int (Int32.ofNat nn)), .val (.ref b384), .unset, .unset] [(.int (Int32.ofNat nn)), (.ref b384)])) _
      refine XS.iconst X391.here hx rfl (hb hby at_53) ?_
      show Steps p.tables e below (T391.setTop (mkF m 54 #[.val (.int p1), .val (.int p2), .val (.int p3), .val (.int p4), .val (.int (Int32.ofNat nn)), .val (.ref b384), .unset, .unset] [(.int (1 : Int32)), (.int (Int32.ofNat nn)), (.ref b384)])) _
      refine XS.isub X391.here hx rfl (hb hby at_54) rfl ?_
      rw [own_pred hn1 hn2]
      show Steps p.tables e below (T391.setTop (mkF m 55 #[.val (.int p1), .val (.int p2), .val (.int p3), .val (.int p4), .val (.int (Int32.ofNat nn)), .val (.ref b384), .unset, .unset] [(.int (Int32.ofNat (nn - 1))), (.ref b384)])) _
      refine XS.iloadN X391.here hx rfl (hb hby at_55) rfl ?_
      show Steps p.tables e below (T391.setTop (mkF m 56 #[.val (.int p1), .val (.int p2), .val (.int p3), .val (.int p4), .val (.int (Int32.ofNat nn)), .val (.ref b384), .unset, .unset] [(.int p3), (.int (Int32.ofNat (nn - 1))), (.ref b384)])) _
      refine XS.i2c X391.here hx rfl (hb hby at_56) rfl ?_
      show Steps p.tables e below (T391.setTop (mkF m 57 #[.val (.int p1), .val (.int p2), .val (.int p3), .val (.int p4), .val (.int (Int32.ofNat nn)), .val (.ref b384), .unset, .unset] [(.int (p3.toUInt32.toUInt16.toUInt32.toInt32)), (.int (Int32.ofNat (nn - 1))), (.ref b384)])) _
      exact h)
  obtain ⟨cl397, Ar397, q397, Sz397, Ng397, Hs397, G397⟩ := id V_b384
  have hin397 : ¬ ((Int32.ofNat (nn - 1)) < 0 ∨ cl397.slots.size ≤ ((Int32.ofNat (nn - 1))).toNatClampNeg) := inb_of Sz397 (own_inb (by omega) (by omega))
  obtain ⟨T397, h397, X397, e397, W397, st397⟩ := stC X391 hx hZ e391 Ar397 (j := (Int32.ofNat (nn - 1))) hin397 (g := (mkF m 57 #[.val (.int p1), .val (.int p2), .val (.int p3), .val (.int p4), .val (.int (Int32.ofNat nn)), .val (.ref b384), .unset, .unset] [(.int (p3.toUInt32.toUInt16.toUInt32.toInt32)), (.int (Int32.ofNat (nn - 1))), (.ref b384)])) rfl rfl (hb hby at_57)
  have k399 : Rch p e below S0 T397 (mkF m 58 #[.val (.int p1), .val (.int p2), .val (.int p3), .val (.int p4), .val (.int (Int32.ofNat nn)), .val (.ref b384), .unset, .unset] []) := fun t h => k398 t (st397 t h)
  have N397 := Fr.snoc X397 N391 ge_b384
  have V_b384' := Arv.set Ar397 q397 Sz397 Ng397 Hs397 G397 (fits_nar_char _) W397 (nn - 1) (own_tn (by omega)).1 (by rw [List.length_set, List.length_replicate]; omega)
  replace V_b384 := V_b384'
  have hC400 := hC394.wr W397 sf_b384
  have rC400 := rC394.trans (CHr.wr W397 sf_b384 hC394)
  replace sf_b384 := Safe.wr W397 sf_b384 hC394 sf_b384
  have O401 := O395.wr W397 ge_b384
  have hkk402 := Nat.le_trans hkk396 (Keep.of_wr W397).1
  have k404 : Rch p e below S0 T397 (mkF m 75 #[.val (.int p1), .val (.int p2), .val (.int p3), .val (.int p4), .val (.int (Int32.ofNat nn)), .val (.ref b384), .val (.int (Int32.ofNat pp)), .unset] [(.int ((p2 ^^^ p3).toUInt32.toUInt16.toUInt32.toInt32)), (.int (Int32.ofNat pp)), (.ref b384)]) := fun t h => k399 t (by
      show Steps p.tables e below (T397.setTop (mkF m 58 #[.val (.int p1), .val (.int p2), .val (.int p3), .val (.int p4), .val (.int (Int32.ofNat nn)), .val (.ref b384), .unset, .unset] [])) _
      refine XS.iloadN X397.here hx rfl (hb hby at_58) rfl ?_
      show Steps p.tables e below (T397.setTop (mkF m 59 #[.val (.int p1), .val (.int p2), .val (.int p3), .val (.int p4), .val (.int (Int32.ofNat nn)), .val (.ref b384), .unset, .unset] [(.int p4)])) _
      refine X397.ldcInt hx hown (mvT hZ (hw _ (List.mem_of_getElem? (i := 44) rfl))) (g := (mkF m 59 #[.val (.int p1), .val (.int p2), .val (.int p3), .val (.int p4), .val (.int (Int32.ofNat nn)), .val (.ref b384), .unset, .unset] [(.int p4)])) rfl (hb hby at_59) _ ?_
      show Steps p.tables e below (T397.setTop (mkF m 61 #[.val (.int p1), .val (.int p2), .val (.int p3), .val (.int p4), .val (.int (Int32.ofNat nn)), .val (.ref b384), .unset, .unset] [(.int (2147483647 : Int32)), (.int p4)])) _
      refine XS.iand X397.here hx rfl (hb hby at_61) rfl ?_
      show Steps p.tables e below (T397.setTop (mkF m 62 #[.val (.int p1), .val (.int p2), .val (.int p3), .val (.int p4), .val (.int (Int32.ofNat nn)), .val (.ref b384), .unset, .unset] [(.int (p4 &&& (2147483647 : Int32)))])) _
      refine XS.iload X397.here hx rfl (hb hby at_62) rfl ?_
      show Steps p.tables e below (T397.setTop (mkF m 64 #[.val (.int p1), .val (.int p2), .val (.int p3), .val (.int p4), .val (.int (Int32.ofNat nn)), .val (.ref b384), .unset, .unset] [(.int (Int32.ofNat nn)), (.int (p4 &&& (2147483647 : Int32)))])) _
      refine iremM X397 hx rfl (hb hby at_64) rfl (fun q => by have := congrArg Int32.toInt q; rw [(own_tn (by omega)).2, show (0 : Int32).toInt = 0 from by decide] at this; omega) ?_
      rw [hpe]
      show Steps p.tables e below (T397.setTop (mkF m 65 #[.val (.int p1), .val (.int p2), .val (.int p3), .val (.int p4), .val (.int (Int32.ofNat nn)), .val (.ref b384), .unset, .unset] [(.int (Int32.ofNat pp))])) _
      refine XS.istore X397.here hx rfl (hb hby at_65) rfl (l' := #[.val (.int p1), .val (.int p2), .val (.int p3), .val (.int p4), .val (.int (Int32.ofNat nn)), .val (.ref b384), .val (.int (Int32.ofNat pp)), .unset]) rfl ?_
      show Steps p.tables e below (T397.setTop (mkF m 67 #[.val (.int p1), .val (.int p2), .val (.int p3), .val (.int p4), .val (.int (Int32.ofNat nn)), .val (.ref b384), .val (.int (Int32.ofNat pp)), .unset] [])) _
      refine XS.aload X397.here hx rfl (hb hby at_67) rfl rfl ?_
      show Steps p.tables e below (T397.setTop (mkF m 69 #[.val (.int p1), .val (.int p2), .val (.int p3), .val (.int p4), .val (.int (Int32.ofNat nn)), .val (.ref b384), .val (.int (Int32.ofNat pp)), .unset] [(.ref b384)])) _
      refine XS.iload X397.here hx rfl (hb hby at_69) rfl ?_
      show Steps p.tables e below (T397.setTop (mkF m 71 #[.val (.int p1), .val (.int p2), .val (.int p3), .val (.int p4), .val (.int (Int32.ofNat nn)), .val (.ref b384), .val (.int (Int32.ofNat pp)), .unset] [(.int (Int32.ofNat pp)), (.ref b384)])) _
      refine XS.iloadN X397.here hx rfl (hb hby at_71) rfl ?_
      show Steps p.tables e below (T397.setTop (mkF m 72 #[.val (.int p1), .val (.int p2), .val (.int p3), .val (.int p4), .val (.int (Int32.ofNat nn)), .val (.ref b384), .val (.int (Int32.ofNat pp)), .unset] [(.int p2), (.int (Int32.ofNat pp)), (.ref b384)])) _
      refine XS.iloadN X397.here hx rfl (hb hby at_72) rfl ?_
      show Steps p.tables e below (T397.setTop (mkF m 73 #[.val (.int p1), .val (.int p2), .val (.int p3), .val (.int p4), .val (.int (Int32.ofNat nn)), .val (.ref b384), .val (.int (Int32.ofNat pp)), .unset] [(.int p3), (.int p2), (.int (Int32.ofNat pp)), (.ref b384)])) _
      refine XS.ixor X397.here hx rfl (hb hby at_73) rfl ?_
      show Steps p.tables e below (T397.setTop (mkF m 74 #[.val (.int p1), .val (.int p2), .val (.int p3), .val (.int p4), .val (.int (Int32.ofNat nn)), .val (.ref b384), .val (.int (Int32.ofNat pp)), .unset] [(.int (p2 ^^^ p3)), (.int (Int32.ofNat pp)), (.ref b384)])) _
      refine XS.i2c X397.here hx rfl (hb hby at_74) rfl ?_
      show Steps p.tables e below (T397.setTop (mkF m 75 #[.val (.int p1), .val (.int p2), .val (.int p3), .val (.int p4), .val (.int (Int32.ofNat nn)), .val (.ref b384), .val (.int (Int32.ofNat pp)), .unset] [(.int ((p2 ^^^ p3).toUInt32.toUInt16.toUInt32.toInt32)), (.int (Int32.ofNat pp)), (.ref b384)])) _
      exact h)
  obtain ⟨cl403, Ar403, q403, Sz403, Ng403, Hs403, G403⟩ := id V_b384
  have hin403 : ¬ ((Int32.ofNat pp) < 0 ∨ cl403.slots.size ≤ ((Int32.ofNat pp)).toNatClampNeg) := inb_of Sz403 (own_inb (by omega) (by omega))
  obtain ⟨T403, h403, X403, e403, W403, st403⟩ := stC X397 hx hZ e397 Ar403 (j := (Int32.ofNat pp)) hin403 (g := (mkF m 75 #[.val (.int p1), .val (.int p2), .val (.int p3), .val (.int p4), .val (.int (Int32.ofNat nn)), .val (.ref b384), .val (.int (Int32.ofNat pp)), .unset] [(.int ((p2 ^^^ p3).toUInt32.toUInt16.toUInt32.toInt32)), (.int (Int32.ofNat pp)), (.ref b384)])) rfl rfl (hb hby at_75)
  have k405 : Rch p e below S0 T403 (mkF m 76 #[.val (.int p1), .val (.int p2), .val (.int p3), .val (.int p4), .val (.int (Int32.ofNat nn)), .val (.ref b384), .val (.int (Int32.ofNat pp)), .unset] []) := fun t h => k404 t (st403 t h)
  have N403 := Fr.snoc X403 N397 ge_b384
  have V_b384' := Arv.set Ar403 q403 Sz403 Ng403 Hs403 G403 (fits_nar_char _) W403 pp (own_tn (by omega)).1 (by rw [List.length_set, List.length_set, List.length_replicate]; omega)
  replace V_b384 := V_b384'
  have hC406 := hC400.wr W403 sf_b384
  have rC406 := rC400.trans (CHr.wr W403 sf_b384 hC400)
  replace sf_b384 := Safe.wr W403 sf_b384 hC400 sf_b384
  have O407 := O401.wr W403 ge_b384
  have hkk408 := Nat.le_trans hkk402 (Keep.of_wr W403).1
  rw [← own_cs_map] at V_b384
  obtain ⟨T409, h409, X409, e409, E409, A409, D409, -, st409⟩ := newO X403 hx hZ hown (hw _ (List.mem_of_getElem? (i := 2) rfl)) (hw _ (List.mem_of_getElem? (i := 3) rfl)) (hw _ (List.mem_of_getElem? (i := 4) rfl)) e403 (g := (mkF m 76 #[.val (.int p1), .val (.int p2), .val (.int p3), .val (.int p4), .val (.int (Int32.ofNat nn)), .val (.ref b384), .val (.int (Int32.ofNat pp)), .unset] [])) rfl (hb hby at_76) (by decide) (by decide)
  obtain ⟨b409, g409⟩ : ∃ z, z = h403.size := ⟨_, rfl⟩
  rw [← g409] at A409 D409 st409
  have k410 : Rch p e below S0 T409 (mkF m 79 #[.val (.int p1), .val (.int p2), .val (.int p3), .val (.int p4), .val (.int (Int32.ofNat nn)), .val (.ref b384), .val (.int (Int32.ofNat pp)), .unset] [(.ref b409)]) := fun t h => k405 t (st409 t h)
  have ne_b384_b409 : b384 ≠ b409 := own_ne V_b384.lt (Nat.le_of_eq g409.symm)
  have ge_b409 : n0 ≤ b409 := own_ge O407 (Nat.le_of_eq g409.symm)
  have sf_b409 : Safe Z consts_1 s.vm h403 b409 := Safe.new (Nat.le_of_eq g409.symm)
  replace sf_b384 := Safe.ext E409 hC406 sf_b384
  replace sf_b409 := Safe.ext E409 hC406 sf_b409
  have hC411 := hC406.ext E409
  have rC411 := rC406.trans (CHr.ext E409 hC406)
  have O412 := O407.ext E409
  replace V_b384 := V_b384.ext E409
  have hkk413 := Nat.le_trans hkk408 E409.1
  have E_b409 := A409
  have F_b409_value : Fld Z h409 b409 "java/lang/String" "value" "[B" .null := D409 (Or.inr (hw _ (List.mem_of_getElem? (i := 17) rfl))) (ty := (.array .byte)) (by decide)
  have F_b409_coder : Fld Z h409 b409 "java/lang/String" "coder" "B" (.int (0 : Int32)) := D409 (Or.inr (hw _ (List.mem_of_getElem? (i := 18) rfl))) (ty := .byte) (by decide)
  have k414 : Rch p e below S0 T409 (mkF m 82 #[.val (.int p1), .val (.int p2), .val (.int p3), .val (.int p4), .val (.int (Int32.ofNat nn)), .val (.ref b384), .val (.int (Int32.ofNat pp)), .unset] [(.ref b384), (.ref b409), (.ref b409)]) := fun t h => k410 t (by
      show Steps p.tables e below (T409.setTop (mkF m 79 #[.val (.int p1), .val (.int p2), .val (.int p3), .val (.int p4), .val (.int (Int32.ofNat nn)), .val (.ref b384), .val (.int (Int32.ofNat pp)), .unset] [(.ref b409)])) _
      refine XS.dup X409.here hx rfl (hb hby at_79) rfl rfl ?_
      show Steps p.tables e below (T409.setTop (mkF m 80 #[.val (.int p1), .val (.int p2), .val (.int p3), .val (.int p4), .val (.int (Int32.ofNat nn)), .val (.ref b384), .val (.int (Int32.ofNat pp)), .unset] [(.ref b409), (.ref b409)])) _
      refine XS.aload X409.here hx rfl (hb hby at_80) rfl rfl ?_
      show Steps p.tables e below (T409.setTop (mkF m 82 #[.val (.int p1), .val (.int p2), .val (.int p3), .val (.int p4), .val (.int (Int32.ofNat nn)), .val (.ref b384), .val (.int (Int32.ofNat pp)), .unset] [(.ref b384), (.ref b409), (.ref b409)])) _
      exact h)
  obtain ⟨_, _, ⟨T415, L415, kk415, n415⟩, -, X415, ⟨Lc415, hQ415, l415, y415, z415⟩, st415⟩ := X409.specialBack hx (y := (⟨"java/lang/String", "<init>", "([C)V"⟩ : MethodName)) rfl hown (mvT hZ (hw _ (List.mem_of_getElem? (i := 5) rfl))) (mvT hZ (hw _ (List.mem_of_getElem? (i := 6) rfl))) (mvT hZ (hw _ (List.mem_of_getElem? (i := 7) rfl))) (by decide) (backOf (W := 1) (rmL1 l Z a0 hw [] b409 b384 k384 nn ((own_cs nn pp (p2.toUInt32.toUInt16.toUInt32.toInt32) (p3.toUInt32.toUInt16.toUInt32.toInt32) ((p2 ^^^ p3).toUInt32.toUInt16.toUInt32.toInt32))) zC h409 n0 O412 SC hzC hn2 (own_cs_len _ _ _ _ _) hlow hn1 ge_b409 E_b409 F_b409_value F_b409_coder ne_b384_b409 V_b384) hZ (hw _ (List.mem_of_getElem? (i := 7) rfl)) (hw _ (List.mem_of_getElem? (i := 4) rfl)) (by decide) (by decide)) (g := (mkF m 82 #[.val (.int p1), .val (.int p2), .val (.int p3), .val (.int p4), .val (.int (Int32.ofNat nn)), .val (.ref b384), .val (.int (Int32.ofNat pp)), .unset] [(.ref b384), (.ref b409), (.ref b409)])) rfl (by rw [hml]; rfl) (Steps.refl _) (a := b409) (argsL := [(.ref b384)]) (rest := [(.ref b409)]) (lenOf pd_0 rfl) rfl (by show 2 * 0 + _ ≤ _; exact Nat.le_of_eq rfl) (hb hby at_82) (fun _ _ => ⟨rfl, e409, (by decide : 2 + 1 ≤ _), (by decide : 4004 + 4000 ≤ _)⟩)
  dsimp only [Pt.U, Pt.locs, Pt.cells, Pt.slots] at X415 l415 y415 z415 st415 hQ415
  subst l415 y415 z415
  obtain ⟨rfl, Nq415, K415, t415, kt415, vs415, Fv415, Fc415, At415⟩ := hQ415
  have N415 := Fr.app N403 Nq415
  have k416 : Rch p e below S0 T415 (mkF m 85 #[.val (.int p1), .val (.int p2), .val (.int p3), .val (.int p4), .val (.int (Int32.ofNat nn)), .val (.ref b384), .val (.int (Int32.ofNat pp)), .unset] [(.ref b409)]) := fun t h => k414 t (st415.trans h)
  have hC417 := hC411.keep K415 (sfS sf_b409 sf0)
  have rC417 := rC411.trans (CHr.keep K415 (sfS sf_b409 sf0) hC411)
  have sfx418 := (sfS sf_b409 sf0)
  replace sf_b384 := Safe.keep K415 sfx418 hC411 sf_b384
  replace sf_b409 := Safe.keep K415 sfx418 hC411 sf_b409
  have O419 := O412.keep K415 (allS ge_b409 all0)
  replace V_b384 := V_b384.keep K415 (ninS ne_b384_b409 nin0)
  replace E_b409 := E_b409.keep K415
  have hkk420 := Nat.le_trans hkk413 K415.1
  have k421 : Rch p e below S0 T415 (mkF m 89 #[.val (.int p1), .val (.int p2), .val (.int p3), .val (.int p4), .val (.int (Int32.ofNat nn)), .val (.ref b384), .val (.ref b409), .unset] [(.ref b409)]) := fun t h => k416 t (by
      show Steps p.tables e below (T415.setTop (mkF m 85 #[.val (.int p1), .val (.int p2), .val (.int p3), .val (.int p4), .val (.int (Int32.ofNat nn)), .val (.ref b384), .val (.int (Int32.ofNat pp)), .unset] [(.ref b409)])) _
      refine XS.astore X415.here hx rfl (hb hby at_85) rfl rfl (l' := #[.val (.int p1), .val (.int p2), .val (.int p3), .val (.int p4), .val (.int (Int32.ofNat nn)), .val (.ref b384), .val (.ref b409), .unset]) rfl ?_
      show Steps p.tables e below (T415.setTop (mkF m 87 #[.val (.int p1), .val (.int p2), .val (.int p3), .val (.int p4), .val (.int (Int32.ofNat nn)), .val (.ref b384), .val (.ref b409), .unset] [])) _
      refine XS.aload X415.here hx rfl (hb hby at_87) rfl rfl ?_
      show Steps p.tables e below (T415.setTop (mkF m 89 #[.val (.int p1), .val (.int p2), .val (.int p3), .val (.int p4), .val (.int (Int32.ofNat nn)), .val (.ref b384), .val (.ref b409), .unset] [(.ref b409)])) _
      exact h)
  have hLL : ((Int32.ofNat nn) >>> (nar .byte (0 : Int32) &&& 31)) = (Int32.ofNat nn) := own_sh0 _
  obtain ⟨_, _, ⟨T422, L422, kk422, n422⟩, -, X422, hS422, gr422, ⟨Lc422, hQ422, l422, y422, z422, hR422⟩, st422⟩ := callSS X415 hx (y := (⟨"com/example/remodel/remodel/SettingTable", "checkValue", "(Ljava/lang/String;)Ljava/lang/String;"⟩ : MethodName)) hown (mvT hZ (hw _ (List.mem_of_getElem? (i := 23) rfl))) (mvT hZ (hw _ (List.mem_of_getElem? (i := 24) rfl))) (mvT hZ (hw _ (List.mem_of_getElem? (i := 25) rfl))) (mvT hZ (hw _ (List.mem_of_getElem? (i := 26) rfl))) (by decide) (backOfSH (W := 0) (rmH l Z a0 hw [] b409 t415 kt415 (Int32.ofNat nn) vs415 (0 : Int32) zC (Int32.ofNat nn) T415.heap n0 O419 SC hzC E_b409 Fv415 Fc415 At415 hLL (fun q => by rw [Int32.lt_iff_toInt_lt, (own_tn (by omega)).2, show (4000 : Int32).toInt = 4000 from by decide] at q; omega)) hZ (hw _ (List.mem_of_getElem? (i := 26) rfl)) (hw _ (List.mem_of_getElem? (i := 25) rfl)) (by decide) (by decide) hEL hC417) (g := (mkF m 89 #[.val (.int p1), .val (.int p2), .val (.int p3), .val (.int p4), .val (.int (Int32.ofNat nn)), .val (.ref b384), .val (.ref b409), .unset] [(.ref b409)])) rfl (by rw [hml]; rfl) (argsL := [(.ref b409)]) (rest := []) (lenOf pd_3 rfl) rfl (by show 2 * 0 + _ ≤ _; exact Nat.le_of_eq rfl) (hb hby at_89) (fun _ _ => ⟨rfl, rfl, (by decide : 3 + 2 ≤ _), (by decide : 8004 + 24 ≤ _)⟩)
  dsimp only [Pt.U, Pt.locs, Pt.cells, Pt.slots] at X422 l422 y422 z422 st422 hQ422 hS422 gr422 hR422
  subst l422 y422 z422
  have hZ422 : Z.Warmed39 (s.setVm T422.vm).vm := State.Warmed39.trans (t := (s.setVm s.vm)) hZ hS422.1
  have hown422 : (s.setVm T422.vm).vm.findClass "com/example/remodel/remodel/SettingTableCheckValuePinLaw" = some m.cls := by rw [show (s.setVm T422.vm).vm = T422.vm from rfl, hS422.1.alike.findClass]; exact hown
  replace hS422 := foldS hS (by exact hkk420) hS422 gr422
  have hk422 := Nat.le_refl T422.heap.size
  replace X422 : Stand p l e room_1 (s.setVm T422.vm) m #[(.int p1), (.int p2), (.int p3), (.int p4)] below meth c T422 _ _ _ := X422
  obtain ⟨rfl, Nq422, E422⟩ := hQ422
  have N422 := Fr.app N415 Nq422
  have k423 : Rch p e below S0 T422 (mkF m 92 #[.val (.int p1), .val (.int p2), .val (.int p3), .val (.int p4), .val (.int (Int32.ofNat nn)), .val (.ref b384), .val (.ref b409), .unset] [(.ref b409)]) := fun t h => k421 t (st422.trans h)
  replace sf_b384 := hR422.safe V_b384.lt sf_b384
  replace sf_b409 := hR422.safe E_b409.lt sf_b409
  have hC424 := hR422.1
  have rC424 := rC417.trans hR422
  have O425 := O419.ext E422
  replace V_b384 := V_b384.ext E422
  replace E_b409 := E_b409.ext E422
  replace Fv415 := Fv415.ext E422
  replace Fc415 := Fc415.ext E422
  replace At415 := At415.ext E422
  have k426 : Rch p e below S0 T422 (mkF m 103 #[.val (.int p1), .val (.int p2), .val (.int p3), .val (.int p4), .val (.int (Int32.ofNat nn)), .val (.ref b384), .val (.ref b409), .val (.ref b409)] [(.ref b409)]) := fun t h => k423 t (by
      show Steps p.tables e below (T422.setTop (mkF m 92 #[.val (.int p1), .val (.int p2), .val (.int p3), .val (.int p4), .val (.int (Int32.ofNat nn)), .val (.ref b384), .val (.ref b409), .unset] [(.ref b409)])) _
      refine XS.astore X422.here hx rfl (hb hby at_92) rfl rfl (l' := #[.val (.int p1), .val (.int p2), .val (.int p3), .val (.int p4), .val (.int (Int32.ofNat nn)), .val (.ref b384), .val (.ref b409), .val (.ref b409)]) rfl ?_
      show Steps p.tables e below (T422.setTop (mkF m 94 #[.val (.int p1), .val (.int p2), .val (.int p3), .val (.int p4), .val (.int (Int32.ofNat nn)), .val (.ref b384), .val (.ref b409), .val (.ref b409)] [])) _
      refine XS.aload X422.here hx rfl (hb hby at_94) rfl rfl ?_
      show Steps p.tables e below (T422.setTop (mkF m 96 #[.val (.int p1), .val (.int p2), .val (.int p3), .val (.int p4), .val (.int (Int32.ofNat nn)), .val (.ref b384), .val (.ref b409), .val (.ref b409)] [(.ref b409)])) _
      refine XS.aload X422.here hx rfl (hb hby at_96) rfl rfl ?_
      show Steps p.tables e below (T422.setTop (mkF m 98 #[.val (.int p1), .val (.int p2), .val (.int p3), .val (.int p4), .val (.int (Int32.ofNat nn)), .val (.ref b384), .val (.ref b409), .val (.ref b409)] [(.ref b409), (.ref b409)])) _
      refine Jvm.RoadKit.acmp (g := (mkF m 98 #[.val (.int p1), .val (.int p2), .val (.int p3), .val (.int p4), .val (.int (Int32.ofNat nn)), .val (.ref b384), .val (.ref b409), .val (.ref b409)] [(.ref b409), (.ref b409)])) X422 hx rfl rfl rfl (pc0 := 98) (pc' := 101) (same := true) rfl (hb hby at_98) rfl (decide_eq_true rfl) (by decide) (by decide) ?_
      show Steps p.tables e below (T422.setTop (mkF m 101 #[.val (.int p1), .val (.int p2), .val (.int p3), .val (.int p4), .val (.int (Int32.ofNat nn)), .val (.ref b384), .val (.ref b409), .val (.ref b409)] [])) _
      refine XS.aload X422.here hx rfl (hb hby at_101) rfl rfl ?_
      show Steps p.tables e below (T422.setTop (mkF m 103 #[.val (.int p1), .val (.int p2), .val (.int p3), .val (.int p4), .val (.int (Int32.ofNat nn)), .val (.ref b384), .val (.ref b409), .val (.ref b409)] [(.ref b409)])) _
      exact h)
  obtain ⟨cq427, kq427, q427a, q427b, q427c⟩ := isOf hZ422 rfl E_b409
  obtain ⟨_, _, ⟨T427, L427, kk427, n427⟩, -, X427, ⟨Lc427, hQ427, l427, y427, z427⟩, st427⟩ := X422.virtualBack hx (y := (⟨"java/lang/String", "length", "()I"⟩ : MethodName)) (z := (⟨"java/lang/String", "length", "()I"⟩ : MethodName)) hown422 (mvT hZ422 (hw _ (List.mem_of_getElem? (i := 43) rfl))) (mvT hZ422 (hw _ (List.mem_of_getElem? (i := 33) rfl))) (notFace_of_selects (args := #[]) (mvT hZ422 (hw _ (List.mem_of_getElem? (i := 35) rfl)))) (mvT hZ422 (hw _ (List.mem_of_getElem? (i := 35) rfl))) (mvT hZ422 (hw _ (List.mem_of_getElem? (i := 34) rfl))) (by decide) (backOf (W := 0) (rmLE l Z a0 hw [] b409 t415 kt415 (Int32.ofNat nn) vs415 (0 : Int32) zC (Int32.ofNat nn) T422.heap n0 O425 SC hzC E_b409 Fv415 Fc415 At415 hLL) hZ422 (hw _ (List.mem_of_getElem? (i := 36) rfl)) (hw _ (List.mem_of_getElem? (i := 4) rfl)) (by decide) (by decide)) q427a q427c (g := (mkF m 103 #[.val (.int p1), .val (.int p2), .val (.int p3), .val (.int p4), .val (.int (Int32.ofNat nn)), .val (.ref b384), .val (.ref b409), .val (.ref b409)] [(.ref b409)])) rfl (by rw [hml]; rfl) (Steps.refl _) (argsL := []) (rest := []) (lenOf pd_5 rfl) rfl (by show 2 * 0 + _ ≤ _; exact Nat.le_of_eq rfl) (hb hby at_103) (fun _ _ => ⟨rfl, rfl, (by decide : 5 + 0 ≤ _), (by decide : 8028 + 0 ≤ _)⟩)
  dsimp only [Pt.U, Pt.locs, Pt.cells, Pt.slots] at X427 l427 y427 z427 st427 hQ427
  subst l427 y427 z427
  obtain ⟨rfl, Nq427, hh427⟩ := hQ427
  have N427 := Fr.app N422 Nq427
  have k428 : Rch p e below S0 T427 (mkF m 106 #[.val (.int p1), .val (.int p2), .val (.int p3), .val (.int p4), .val (.int (Int32.ofNat nn)), .val (.ref b384), .val (.ref b409), .val (.ref b409)] [(.int (Int32.ofNat nn))]) := fun t h => k426 t (st427.trans h)
  have k429 : Rch p e below S0 T427 (mkF m 116 #[.val (.int p1), .val (.int p2), .val (.int p3), .val (.int p4), .val (.int (Int32.ofNat nn)), .val (.ref b384), .val (.ref b409), .val (.ref b409)] [(.int (1 : Int32))]) := fun t h => k428 t (by
      show Steps p.tables e below (T427.setTop (mkF m 106 #[.val (.int p1), .val (.int p2), .val (.int p3), .val (.int p4), .val (.int (Int32.ofNat nn)), .val (.ref b384), .val (.ref b409), .val (.ref b409)] [(.int (Int32.ofNat nn))])) _
      refine XS.iload X427.here hx rfl (hb hby at_106) rfl ?_
      show Steps p.tables e below (T427.setTop (mkF m 108 #[.val (.int p1), .val (.int p2), .val (.int p3), .val (.int p4), .val (.int (Int32.ofNat nn)), .val (.ref b384), .val (.ref b409), .val (.ref b409)] [(.int (Int32.ofNat nn)), (.int (Int32.ofNat nn))])) _
      refine XS.icmpNo X427.here hx rfl (hb hby at_108) rfl (teq (rfl : (Int32.ofNat nn) = (Int32.ofNat nn))).2 ?_
      show Steps p.tables e below (T427.setTop (mkF m 111 #[.val (.int p1), .val (.int p2), .val (.int p3), .val (.int p4), .val (.int (Int32.ofNat nn)), .val (.ref b384), .val (.ref b409), .val (.ref b409)] [])) _
      refine XS.iconst X427.here hx rfl (hb hby at_111) ?_
      show Steps p.tables e below (T427.setTop (mkF m 112 #[.val (.int p1), .val (.int p2), .val (.int p3), .val (.int p4), .val (.int (Int32.ofNat nn)), .val (.ref b384), .val (.ref b409), .val (.ref b409)] [(.int (1 : Int32))])) _
      refine XS.goto X427.here hx rfl (pc0 := 112) (pc' := 116) rfl (hb hby at_112) (by decide) (by decide) ?_
      show Steps p.tables e below (T427.setTop (mkF m 116 #[.val (.int p1), .val (.int p2), .val (.int p3), .val (.int p4), .val (.int (Int32.ofNat nn)), .val (.ref b384), .val (.ref b409), .val (.ref b409)] [(.int (1 : Int32))])) _
      exact h)
  obtain ⟨fs, hr, hrun, hended, hfin⟩ := X427.leaveW hS422 (by rw [hh427]; exact hk422) (v := (some (.int (1 : Int32)))) (fun h => by rw [Bd.returns] at h; cases h)
  refine ⟨_, _, ?_, hrun, hended, _, _, rfl, ?_, (by rw [hh]; have q := own_chr rC424 (CHv.at X427 hZ422 hEL hC424) hh427; exact q), hfin.1, hfin.2.1, hfin.2.2.1, hfin.2.2.2.mono (by decide) (by decide)⟩
  · rw [← hS0]
    refine k429 _ ?_
    show Steps p.tables e below (T427.setTop (mkF m 116 #[.val (.int p1), .val (.int p2), .val (.int p3), .val (.int p4), .val (.int (Int32.ofNat nn)), .val (.ref b384), .val (.ref b409), .val (.ref b409)] [(.int (1 : Int32))])) _
    exact retN X427 hx (t := .boolean) Bd.returns (by simp) (hb hby at_116) hr
  · show Q_rm0_Bl Z  h0 n0 _ T427.heap _
    rw [hh427]
    exact ⟨rfl, N427⟩
def Q_rm0_Bu (Z : State)  (h0 : Heap) (n0 : Nat) (v : Option Value) (h : Heap) (L : List Loc) : Prop := v = some (.int (1 : Int32)) ∧ Fr n0 L
set_option maxRecDepth 65536 in
set_option maxHeartbeats 40000000 in
theorem rm0_Bu (l : Launch) (Z : State) (a0 : Array Value) (hw : ∀ d ∈ tables_1, d.before a0 Z = true) (ws : List Jvm.Cond) (p1 : Int32) (p2 : Int32) (p3 : Int32) (p4 : Int32) (zC : Int32) (nn : Nat) (pp : Nat) (h0 : Heap) (n0 : Nat) (O0 : Old Z n0 h0) (SAs : Sta Z Z.heap "java/lang/StringUTF16" "$assertionsDisabled" "Z" (.int (1 : Int32))) (SHi : Sta Z Z.heap "java/lang/StringUTF16" "HI_BYTE_SHIFT" "I" (.int (0 : Int32))) (SLo : Sta Z Z.heap "java/lang/StringUTF16" "LO_BYTE_SHIFT" "I" (.int (8 : Int32))) (SC : Sta Z Z.heap "java/lang/String" "COMPACT_STRINGS" "Z" (.int zC)) (hzC : ¬ zC = 0) (hc : p1 &&& 1 = 0) (he : ((((p1.toUInt32 >>> ((1 : Int32) &&& 31).toUInt32).toInt32) &&& (1073741823 : Int32)) % (4001 : Int32)) = (Int32.ofNat nn)) (hn1 : 0 < nn) (hn2 : nn ≤ 4000) (hp1 : pp < nn) (hpe : ((p4 &&& (2147483647 : Int32)) % (Int32.ofNat nn)) = (Int32.ofNat pp)) (hex : ∃ c ∈ (own_cs nn pp (p2.toUInt32.toUInt16.toUInt32.toInt32) (p3.toUInt32.toUInt16.toUInt32.toInt32) ((p2 ^^^ p3).toUInt32.toUInt16.toUInt32.toInt32)), (255 : Int32) < c) :
    MetFree l x (head1 (Jvm.Cond.code x code maxLocals ret :: ws) room_1) (fun a U => a = #[(.int p1), (.int p2), (.int p3), (.int p4)] ∧ Z.Warmed39 U.vm ∧ U.heap = h0 ∧ CHv Z consts_1 U.vm h0) (fun _ _ _ _ _ => True) (fun _ U o U' => ∃ v L, o = .returned v ∧ Q_rm0_Bu Z  h0 n0 v U'.heap L ∧ CHr Z consts_1 U.vm U.heap U'.vm U'.heap ∧ ReturnedEndW U o U' L room_1.cells room_1.slots) := by
  refine MetFree.of_bodySF (plainFor_of_name pn_SettingTableCheckValuePinLaw) hisR ?_
  intro p e s m args below meth c s₁ Bd hml0 hP hK
  obtain ⟨rfl, hZ, hh, hC0⟩ := hP
  have hx := Bd.exec
  have hby := Bd.bytes
  have hml : c.maxLocals = 8 := hml0
  have hown : s.vm.findClass "com/example/remodel/remodel/SettingTableCheckValuePinLaw" = some m.cls := findClass_of_methodNamed Bd.named
  have hnm := (name_of_methodNamed Bd.named Bd.method).1
  have X0 : Stand p l e room_1 (s.setVm s.vm) m #[(.int p1), (.int p2), (.int p3), (.int p4)] below meth c s₁ [] 0 0 := Stand.of_body Bd
  have e0 : s₁.heap = h0 := by rw [← hh, Bd.state]; rfl
  have N0 := Fr.nil n0
  obtain ⟨S0, hS0⟩ : ∃ z, z = s₁.setTop (entryFrame m #[(.int p1), (.int p2), (.int p3), (.int p4)] maxLocals) := ⟨_, rfl⟩
  have k0 : Rch p e below S0 s₁ (mkF m 0 #[.val (.int p1), .val (.int p2), .val (.int p3), .val (.int p4), .unset, .unset, .unset, .unset] []) := fun t kq => hS0 ▸ castTop (ef_0 m p1 p2 p3 p4) kq
  have hS : s.Since s.vm s.heap.size := (State.WarmedH.refl s).since _
  have hk : s.heap.size ≤ h0.size := by rw [← hh]; exact Nat.le_refl _
  have hwS : ∀ d ∈ Bundle.stringAtoms, d.before a0 Z = true := fun d hd => hw d ((by decide +kernel : ∀ d ∈ Bundle.stringAtoms, d ∈ tables_1) d hd)
  have rC0 : CHr Z consts_1 s.vm h0 s.vm h0 := CHr.refl hC0
  have hEL : EW Z a0 consts_1 := (EW.cons (hw _ (List.mem_of_getElem? (i := 27) rfl)) (by decide +kernel) (EW.cons (hw _ (List.mem_of_getElem? (i := 15) rfl)) (by decide +kernel) EW.nil))
  have k431 : Rch p e below S0 s₁ (mkF m 34 #[.val (.int p1), .val (.int p2), .val (.int p3), .val (.int p4), .val (.int (Int32.ofNat nn)), .unset, .unset, .unset] [(.int (Int32.ofNat nn))]) := fun t h => k0 t (by
      show Steps p.tables e below (s₁.setTop (mkF m 0 #[.val (.int p1), .val (.int p2), .val (.int p3), .val (.int p4), .unset, .unset, .unset, .unset] [])) _
      refine XS.iloadN X0.here hx rfl (hb hby at_0) rfl ?_
      show Steps p.tables e below (s₁.setTop (mkF m 1 #[.val (.int p1), .val (.int p2), .val (.int p3), .val (.int p4), .unset, .unset, .unset, .unset] [(.int p1)])) _
      refine XS.iconst X0.here hx rfl (hb hby at_1) ?_
      show Steps p.tables e below (s₁.setTop (mkF m 2 #[.val (.int p1), .val (.int p2), .val (.int p3), .val (.int p4), .unset, .unset, .unset, .unset] [(.int (1 : Int32)), (.int p1)])) _
      refine XS.iand X0.here hx rfl (hb hby at_2) rfl ?_
      show Steps p.tables e below (s₁.setTop (mkF m 3 #[.val (.int p1), .val (.int p2), .val (.int p3), .val (.int p4), .unset, .unset, .unset, .unset] [(.int (p1 &&& (1 : Int32)))])) _
      refine XS.ifYes X0.here hx rfl (pc0 := 3) (pc' := 20) rfl (hb hby at_3) rfl ((if0 _ _).trans (teq (hc : (p1 &&& (1 : Int32)) = (0 : Int32))).1) (by decide) (by decide) ?_
      show Steps p.tables e below (s₁.setTop (mkF m 20 #[.val (.int p1), .val (.int p2), .val (.int p3), .val (.int p4), .unset, .unset, .unset, .unset] [])) _
      refine XS.iloadN X0.here hx rfl (hb hby at_20) rfl ?_
      show Steps p.tables e below (s₁.setTop (mkF m 21 #[.val (.int p1), .val (.int p2), .val (.int p3), .val (.int p4), .unset, .unset, .unset, .unset] [(.int p1)])) _
      refine XS.iconst X0.here hx rfl (hb hby at_21) ?_
      show Steps p.tables e below (s₁.setTop (mkF m 22 #[.val (.int p1), .val (.int p2), .val (.int p3), .val (.int p4), .unset, .unset, .unset, .unset] [(.int (1 : Int32)), (.int p1)])) _
      refine XS.iushr X0.here hx rfl (hb hby at_22) rfl ?_
      show Steps p.tables e below (s₁.setTop (mkF m 23 #[.val (.int p1), .val (.int p2), .val (.int p3), .val (.int p4), .unset, .unset, .unset, .unset] [(.int ((p1.toUInt32 >>> ((1 : Int32) &&& 31).toUInt32).toInt32))])) _
      refine X0.ldcInt hx hown (mvT hZ (hw _ (List.mem_of_getElem? (i := 0) rfl))) (g := (mkF m 23 #[.val (.int p1), .val (.int p2), .val (.int p3), .val (.int p4), .unset, .unset, .unset, .unset] [(.int ((p1.toUInt32 >>> ((1 : Int32) &&& 31).toUInt32).toInt32))])) rfl (hb hby at_23) _ ?_
      show Steps p.tables e below (s₁.setTop (mkF m 25 #[.val (.int p1), .val (.int p2), .val (.int p3), .val (.int p4), .unset, .unset, .unset, .unset] [(.int (1073741823 : Int32)), (.int ((p1.toUInt32 >>> ((1 : Int32) &&& 31).toUInt32).toInt32))])) _
      refine XS.iand X0.here hx rfl (hb hby at_25) rfl ?_
      show Steps p.tables e below (s₁.setTop (mkF m 26 #[.val (.int p1), .val (.int p2), .val (.int p3), .val (.int p4), .unset, .unset, .unset, .unset] [(.int (((p1.toUInt32 >>> ((1 : Int32) &&& 31).toUInt32).toInt32) &&& (1073741823 : Int32)))])) _
      refine XS.sipush X0.here hx rfl (hb hby at_26) ?_
      show Steps p.tables e below (s₁.setTop (mkF m 29 #[.val (.int p1), .val (.int p2), .val (.int p3), .val (.int p4), .unset, .unset, .unset, .unset] [(.int (4001 : Int32)), (.int (((p1.toUInt32 >>> ((1 : Int32) &&& 31).toUInt32).toInt32) &&& (1073741823 : Int32)))])) _
      refine iremM X0 hx rfl (hb hby at_29) rfl (by decide) ?_
      rw [he]
      show Steps p.tables e below (s₁.setTop (mkF m 30 #[.val (.int p1), .val (.int p2), .val (.int p3), .val (.int p4), .unset, .unset, .unset, .unset] [(.int (Int32.ofNat nn))])) _
      refine XS.istore X0.here hx rfl (hb hby at_30) rfl (l' := #[.val (.int p1), .val (.int p2), .val (.int p3), .val (.int p4), .val (.int (Int32.ofNat nn)), .unset, .unset, .unset]) rfl ?_
      show Steps p.tables e below (s₁.setTop (mkF m 32 #[.val (.int p1), .val (.int p2), .val (.int p3), .val (.int p4), .val (.int (Int32.ofNat nn)), .unset, .unset, .unset] [])) _
      refine XS.iload X0.here hx rfl (hb hby at_32) rfl ?_
      show Steps p.tables e below (s₁.setTop (mkF m 34 #[.val (.int p1), .val (.int p2), .val (.int p3), .val (.int p4), .val (.int (Int32.ofNat nn)), .unset, .unset, .unset] [(.int (Int32.ofNat nn))])) _
      exact h)
  obtain ⟨T430, h430, k430, X430, e430, E430, A430, st430⟩ := newP X0 hx hZ (hw _ (List.mem_of_getElem? (i := 1) rfl)) e0 (g := (mkF m 34 #[.val (.int p1), .val (.int p2), .val (.int p3), .val (.int p4), .val (.int (Int32.ofNat nn)), .unset, .unset, .unset] [(.int (Int32.ofNat nn))])) rfl (hb hby at_34) rfl (own_on0 (by omega)) (cap := 4000) (by rw [(own_tn (by omega)).1]; omega) (by decide) (by decide) (by decide)
  obtain ⟨b430, g430⟩ : ∃ z, z = h0.size := ⟨_, rfl⟩
  rw [← g430] at A430 st430
  have k432 : Rch p e below S0 T430 (mkF m 36 #[.val (.int p1), .val (.int p2), .val (.int p3), .val (.int p4), .val (.int (Int32.ofNat nn)), .unset, .unset, .unset] [(.ref b430)]) := fun t h => k431 t (st430 t h)
  have ge_b430 : n0 ≤ b430 := own_ge O0 (Nat.le_of_eq g430.symm)
  have sf_b430 : Safe Z consts_1 s.vm h0 b430 := Safe.new (Nat.le_of_eq g430.symm)
  replace sf_b430 := Safe.ext E430 hC0 sf_b430
  have hC433 := hC0.ext E430
  have rC433 := rC0.trans (CHr.ext E430 hC0)
  have O434 := O0.ext E430
  have hkk435 := Nat.le_trans hk E430.1
  have V_b430 : Arv Z h430 b430 k430 .char (Int32.ofNat nn) [] (.int (0 : Int32)) := Arv.new A430 (own_on0 (by omega))
  have k436 : Rch p e below S0 T430 (mkF m 43 #[.val (.int p1), .val (.int p2), .val (.int p3), .val (.int p4), .val (.int (Int32.ofNat nn)), .val (.ref b430), .unset, .unset] []) := fun t h => k432 t (by
      show Steps p.tables e below (T430.setTop (mkF m 36 #[.val (.int p1), .val (.int p2), .val (.int p3), .val (.int p4), .val (.int (Int32.ofNat nn)), .unset, .unset, .unset] [(.ref b430)])) _
      refine XS.astore X430.here hx rfl (hb hby at_36) rfl rfl (l' := #[.val (.int p1), .val (.int p2), .val (.int p3), .val (.int p4), .val (.int (Int32.ofNat nn)), .val (.ref b430), .unset, .unset]) rfl ?_
      show Steps p.tables e below (T430.setTop (mkF m 38 #[.val (.int p1), .val (.int p2), .val (.int p3), .val (.int p4), .val (.int (Int32.ofNat nn)), .val (.ref b430), .unset, .unset] [])) _
      refine XS.iload X430.here hx rfl (hb hby at_38) rfl ?_
      show Steps p.tables e below (T430.setTop (mkF m 40 #[.val (.int p1), .val (.int p2), .val (.int p3), .val (.int p4), .val (.int (Int32.ofNat nn)), .val (.ref b430), .unset, .unset] [(.int (Int32.ofNat nn))])) _
      refine XS.ifNo X430.here hx rfl (hb hby at_40) rfl ((if0 _ _).trans (tlt ((by rw [Int32.lt_iff_toInt_lt, (own_tn (by omega)).2, show (0 : Int32).toInt = 0 from by decide]; omega) : (0 : Int32) < (Int32.ofNat nn))).2.2.2) ?_
      show Steps p.tables e below (T430.setTop (mkF m 43 #[.val (.int p1), .val (.int p2), .val (.int p3), .val (.int p4), .val (.int (Int32.ofNat nn)), .val (.ref b430), .unset, .unset] [])) _
      exact h)
  replace V_b430 : Arv Z h430 b430 k430 .char (Int32.ofNat nn) (List.replicate nn (Value.int 0)) (.int (0 : Int32)) := by
    have q := V_b430.pad (pad_rep [] (.int (0 : Int32)) nn)
    rwa [List.nil_append] at q
  have k438 : Rch p e below S0 T430 (mkF m 48 #[.val (.int p1), .val (.int p2), .val (.int p3), .val (.int p4), .val (.int (Int32.ofNat nn)), .val (.ref b430), .unset, .unset] [(.int (p2.toUInt32.toUInt16.toUInt32.toInt32)), (.int (0 : Int32)), (.ref b430)]) := fun t h => k436 t (by
      show Steps p.tables e below (T430.setTop (mkF m 43 #[.val (.int p1), .val (.int p2), .val (.int p3), .val (.int p4), .val (.int (Int32.ofNat nn)), .val (.ref b430), .unset, .unset] [])) _
      refine XS.aload X430.here hx rfl (hb hby at_43) rfl rfl ?_
      show Steps p.tables e below (T430.setTop (mkF m 45 #[.val (.int p1), .val (.int p2), .val (.int p3), .val (.int p4), .val (.int (Int32.ofNat nn)), .val (.ref b430), .unset, .unset] [(.ref b430)])) _
      refine XS.iconst X430.here hx rfl (hb hby at_45) ?_
      show Steps p.tables e below (T430.setTop (mkF m 46 #[.val (.int p1), .val (.int p2), .val (.int p3), .val (.int p4), .val (.int (Int32.ofNat nn)), .val (.ref b430), .unset, .unset] [(.int (0 : Int32)), (.ref b430)])) _
      refine XS.iloadN X430.here hx rfl (hb hby at_46) rfl ?_
      show Steps p.tables e below (T430.setTop (mkF m 47 #[.val (.int p1), .val (.int p2), .val (.int p3), .val (.int p4), .val (.int (Int32.ofNat nn)), .val (.ref b430), .unset, .unset] [(.int p2), (.int (0 : Int32)), (.ref b430)])) _
      refine XS.i2c X430.here hx rfl (hb hby at_47) rfl ?_
      show Steps p.tables e below (T430.setTop (mkF m 48 #[.val (.int p1), .val (.int p2), .val (.int p3), .val (.int p4), .val (.int (Int32.ofNat nn)), .val (.ref b430), .unset, .unset] [(.int (p2.toUInt32.toUInt16.toUInt32.toInt32)), (.int (0 : Int32)), (.ref b430)])) _
      exact h)
  obtain ⟨cl437, Ar437, q437, Sz437, Ng437, Hs437, G437⟩ := id V_b430
  have hin437 : ¬ ((0 : Int32) < 0 ∨ cl437.slots.size ≤ ((0 : Int32)).toNatClampNeg) := inb_of Sz437 ⟨by decide, by rw [Int32.lt_iff_toInt_lt, (own_tn (by omega)).2, show (0 : Int32).toInt = 0 from by decide]; omega⟩
  obtain ⟨T437, h437, X437, e437, W437, st437⟩ := stC X430 hx hZ e430 Ar437 (j := (0 : Int32)) hin437 (g := (mkF m 48 #[.val (.int p1), .val (.int p2), .val (.int p3), .val (.int p4), .val (.int (Int32.ofNat nn)), .val (.ref b430), .unset, .unset] [(.int (p2.toUInt32.toUInt16.toUInt32.toInt32)), (.int (0 : Int32)), (.ref b430)])) rfl rfl (hb hby at_48)
  have k439 : Rch p e below S0 T437 (mkF m 49 #[.val (.int p1), .val (.int p2), .val (.int p3), .val (.int p4), .val (.int (Int32.ofNat nn)), .val (.ref b430), .unset, .unset] []) := fun t h => k438 t (st437 t h)
  have N437 := Fr.snoc X437 N0 ge_b430
  have V_b430' := Arv.set Ar437 q437 Sz437 Ng437 Hs437 G437 (fits_nar_char _) W437 0 rfl (by rw [List.length_replicate]; omega)
  replace V_b430 := V_b430'
  have hC440 := hC433.wr W437 sf_b430
  have rC440 := rC433.trans (CHr.wr W437 sf_b430 hC433)
  replace sf_b430 := Safe.wr W437 sf_b430 hC433 sf_b430
  have O441 := O434.wr W437 ge_b430
  have hkk442 := Nat.le_trans hkk435 (Keep.of_wr W437).1
  have k444 : Rch p e below S0 T437 (mkF m 57 #[.val (.int p1), .val (.int p2), .val (.int p3), .val (.int p4), .val (.int (Int32.ofNat nn)), .val (.ref b430), .unset, .unset] [(.int (p3.toUInt32.toUInt16.toUInt32.toInt32)), (.int (Int32.ofNat (nn - 1))), (.ref b430)]) := fun t h => k439 t (by
      show Steps p.tables e below (T437.setTop (mkF m 49 #[.val (.int p1), .val (.int p2), .val (.int p3), .val (.int p4), .val (.int (Int32.ofNat nn)), .val (.ref b430), .unset, .unset] [])) _
      refine XS.aload X437.here hx rfl (hb hby at_49) rfl rfl ?_
      show Steps p.tables e below (T437.setTop (mkF m 51 #[.val (.int p1), .val (.int p2), .val (.int p3), .val (.int p4), .val (.int (Int32.ofNat nn)), .val (.ref b430), .unset, .unset] [(.ref b430)])) _
      refine XS.iload X437.here hx rfl (hb hby at_51) rfl ?_
      show Steps p.tables e below (T437.setTop (mkF m 53 #[.val (.int p1), .val (.int p2), .val (.int p3), .val (.int p4), .val (.int (Int32.ofNat nn)), .val (.ref b430), .unset, .unset] [(.int (Int32.ofNat nn)), (.ref b430)])) _
      refine XS.iconst X437.here hx rfl (hb hby at_53) ?_
      show Steps p.tables e below (T437.setTop (mkF m 54 #[.val (.int p1), .val (.int p2), .val (.int p3), .val (.int p4), .val (.int (Int32.ofNat nn)), .val (.ref b430), .unset, .unset] [(.int (1 : Int32)), (.int (Int32.ofNat nn)), (.ref b430)])) _
      refine XS.isub X437.here hx rfl (hb hby at_54) rfl ?_
      rw [own_pred hn1 hn2]
      show Steps p.tables e below (T437.setTop (mkF m 55 #[.val (.int p1), .val (.int p2), .val (.int p3), .val (.int p4), .val (.int (Int32.ofNat nn)), .val (.ref b430), .unset, .unset] [(.int (Int32.ofNat (nn - 1))), (.ref b430)])) _
      refine XS.iloadN X437.here hx rfl (hb hby at_55) rfl ?_
      show Steps p.tables e below (T437.setTop (mkF m 56 #[.val (.int p1), .val (.int p2), .val (.int p3), .val (.int p4), .val (.int (Int32.ofNat nn)), .val (.ref b430), .unset, .unset] [(.int p3), (.int (Int32.ofNat (nn - 1))), (.ref b430)])) _
      refine XS.i2c X437.here hx rfl (hb hby at_56) rfl ?_
      show Steps p.tables e below (T437.setTop (mkF m 57 #[.val (.int p1), .val (.int p2), .val (.int p3), .val (.int p4), .val (.int (Int32.ofNat nn)), .val (.ref b430), .unset, .unset] [(.int (p3.toUInt32.toUInt16.toUInt32.toInt32)), (.int (Int32.ofNat (nn - 1))), (.ref b430)])) _
      exact h)
  obtain ⟨cl443, Ar443, q443, Sz443, Ng443, Hs443, G443⟩ := id V_b430
  have hin443 : ¬ ((Int32.ofNat (nn - 1)) < 0 ∨ cl443.slots.size ≤ ((Int32.ofNat (nn - 1))).toNatClampNeg) := inb_of Sz443 (own_inb (by omega) (by omega))
  obtain ⟨T443, h443, X443, e443, W443, st443⟩ := stC X437 hx hZ e437 Ar443 (j := (Int32.ofNat (nn - 1))) hin443 (g := (mkF m 57 #[.val (.int p1), .val (.int p2), .val (.int p3), .val (.int p4), .val (.int (Int32.ofNat nn)), .val (.ref b430), .unset, .unset] [(.int (p3.toUInt32.toUInt16.toUInt32.toInt32)), (.int (Int32.ofNat (nn - 1))), (.ref b430)])) rfl rfl (hb hby at_57)
  have k445 : Rch p e below S0 T443 (mkF m 58 #[.val (.int p1), .val (.int p2), .val (.int p3), .val (.int p4), .val (.int (Int32.ofNat nn)), .val (.ref b430), .unset, .unset] []) := fun t h => k444 t (st443 t h)
  have N443 := Fr.snoc X443 N437 ge_b430
  have V_b430' := Arv.set Ar443 q443 Sz443 Ng443 Hs443 G443 (fits_nar_char _) W443 (nn - 1) (own_tn (by omega)).1 (by rw [List.length_set, List.length_replicate]; omega)
  replace V_b430 := V_b430'
  have hC446 := hC440.wr W443 sf_b430
  have rC446 := rC440.trans (CHr.wr W443 sf_b430 hC440)
  replace sf_b430 := Safe.wr W443 sf_b430 hC440 sf_b430
  have O447 := O441.wr W443 ge_b430
  have hkk448 := Nat.le_trans hkk442 (Keep.of_wr W443).1
  have k450 : Rch p e below S0 T443 (mkF m 75 #[.val (.int p1), .val (.int p2), .val (.int p3), .val (.int p4), .val (.int (Int32.ofNat nn)), .val (.ref b430), .val (.int (Int32.ofNat pp)), .unset] [(.int ((p2 ^^^ p3).toUInt32.toUInt16.toUInt32.toInt32)), (.int (Int32.ofNat pp)), (.ref b430)]) := fun t h => k445 t (by
      show Steps p.tables e below (T443.setTop (mkF m 58 #[.val (.int p1), .val (.int p2), .val (.int p3), .val (.int p4), .val (.int (Int32.ofNat nn)), .val (.ref b430), .unset, .unset] [])) _
      refine XS.iloadN X443.here hx rfl (hb hby at_58) rfl ?_
      show Steps p.tables e below (T443.setTop (mkF m 59 #[.val (.int p1), .val (.int p2), .val (.int p3), .val (.int p4), .val (.int (Int32.ofNat nn)), .val (.ref b430), .unset, .unset] [(.int p4)])) _
      refine X443.ldcInt hx hown (mvT hZ (hw _ (List.mem_of_getElem? (i := 44) rfl))) (g := (mkF m 59 #[.val (.int p1), .val (.int p2), .val (.int p3), .val (.int p4), .val (.int (Int32.ofNat nn)), .val (.ref b430), .unset, .unset] [(.int p4)])) rfl (hb hby at_59) _ ?_
      show Steps p.tables e below (T443.setTop (mkF m 61 #[.val (.int p1), .val (.int p2), .val (.int p3), .val (.int p4), .val (.int (Int32.ofNat nn)), .val (.ref b430), .unset, .unset] [(.int (2147483647 : Int32)), (.int p4)])) _
      refine XS.iand X443.here hx rfl (hb hby at_61) rfl ?_
      show Steps p.tables e below (T443.setTop (mkF m 62 #[.val (.int p1), .val (.int p2), .val (.int p3), .val (.int p4), .val (.int (Int32.ofNat nn)), .val (.ref b430), .unset, .unset] [(.int (p4 &&& (2147483647 : Int32)))])) _
      refine XS.iload X443.here hx rfl (hb hby at_62) rfl ?_
      show Steps p.tables e below (T443.setTop (mkF m 64 #[.val (.int p1), .val (.int p2), .val (.int p3), .val (.int p4), .val (.int (Int32.ofNat nn)), .val (.ref b430), .unset, .unset] [(.int (Int32.ofNat nn)), (.int (p4 &&& (2147483647 : Int32)))])) _
      refine iremM X443 hx rfl (hb hby at_64) rfl (fun q => by have := congrArg Int32.toInt q; rw [(own_tn (by omega)).2, show (0 : Int32).toInt = 0 from by decide] at this; omega) ?_
      rw [hpe]
      show Steps p.tables e below (T443.setTop (mkF m 65 #[.val (.int p1), .val (.int p2), .val (.int p3), .val (.int p4), .val (.int (Int32.ofNat nn)), .val (.ref b430), .unset, .unset] [(.int (Int32.ofNat pp))])) _
      refine XS.istore X443.here hx rfl (hb hby at_65) rfl (l' := #[.val (.int p1), .val (.int p2), .val (.int p3), .val (.int p4), .val (.int (Int32.ofNat nn)), .val (.ref b430), .val (.int (Int32.ofNat pp)), .unset]) rfl ?_
      show Steps p.tables e below (T443.setTop (mkF m 67 #[.val (.int p1), .val (.int p2), .val (.int p3), .val (.int p4), .val (.int (Int32.ofNat nn)), .val (.ref b430), .val (.int (Int32.ofNat pp)), .unset] [])) _
      refine XS.aload X443.here hx rfl (hb hby at_67) rfl rfl ?_
      show Steps p.tables e below (T443.setTop (mkF m 69 #[.val (.int p1), .val (.int p2), .val (.int p3), .val (.int p4), .val (.int (Int32.ofNat nn)), .val (.ref b430), .val (.int (Int32.ofNat pp)), .unset] [(.ref b430)])) _
      refine XS.iload X443.here hx rfl (hb hby at_69) rfl ?_
      show Steps p.tables e below (T443.setTop (mkF m 71 #[.val (.int p1), .val (.int p2), .val (.int p3), .val (.int p4), .val (.int (Int32.ofNat nn)), .val (.ref b430), .val (.int (Int32.ofNat pp)), .unset] [(.int (Int32.ofNat pp)), (.ref b430)])) _
      refine XS.iloadN X443.here hx rfl (hb hby at_71) rfl ?_
      show Steps p.tables e below (T443.setTop (mkF m 72 #[.val (.int p1), .val (.int p2), .val (.int p3), .val (.int p4), .val (.int (Int32.ofNat nn)), .val (.ref b430), .val (.int (Int32.ofNat pp)), .unset] [(.int p2), (.int (Int32.ofNat pp)), (.ref b430)])) _
      refine XS.iloadN X443.here hx rfl (hb hby at_72) rfl ?_
      show Steps p.tables e below (T443.setTop (mkF m 73 #[.val (.int p1), .val (.int p2), .val (.int p3), .val (.int p4), .val (.int (Int32.ofNat nn)), .val (.ref b430), .val (.int (Int32.ofNat pp)), .unset] [(.int p3), (.int p2), (.int (Int32.ofNat pp)), (.ref b430)])) _
      refine XS.ixor X443.here hx rfl (hb hby at_73) rfl ?_
      show Steps p.tables e below (T443.setTop (mkF m 74 #[.val (.int p1), .val (.int p2), .val (.int p3), .val (.int p4), .val (.int (Int32.ofNat nn)), .val (.ref b430), .val (.int (Int32.ofNat pp)), .unset] [(.int (p2 ^^^ p3)), (.int (Int32.ofNat pp)), (.ref b430)])) _
      refine XS.i2c X443.here hx rfl (hb hby at_74) rfl ?_
      show Steps p.tables e below (T443.setTop (mkF m 75 #[.val (.int p1), .val (.int p2), .val (.int p3), .val (.int p4), .val (.int (Int32.ofNat nn)), .val (.ref b430), .val (.int (Int32.ofNat pp)), .unset] [(.int ((p2 ^^^ p3).toUInt32.toUInt16.toUInt32.toInt32)), (.int (Int32.ofNat pp)), (.ref b430)])) _
      exact h)
  obtain ⟨cl449, Ar449, q449, Sz449, Ng449, Hs449, G449⟩ := id V_b430
  have hin449 : ¬ ((Int32.ofNat pp) < 0 ∨ cl449.slots.size ≤ ((Int32.ofNat pp)).toNatClampNeg) := inb_of Sz449 (own_inb (by omega) (by omega))
  obtain ⟨T449, h449, X449, e449, W449, st449⟩ := stC X443 hx hZ e443 Ar449 (j := (Int32.ofNat pp)) hin449 (g := (mkF m 75 #[.val (.int p1), .val (.int p2), .val (.int p3), .val (.int p4), .val (.int (Int32.ofNat nn)), .val (.ref b430), .val (.int (Int32.ofNat pp)), .unset] [(.int ((p2 ^^^ p3).toUInt32.toUInt16.toUInt32.toInt32)), (.int (Int32.ofNat pp)), (.ref b430)])) rfl rfl (hb hby at_75)
  have k451 : Rch p e below S0 T449 (mkF m 76 #[.val (.int p1), .val (.int p2), .val (.int p3), .val (.int p4), .val (.int (Int32.ofNat nn)), .val (.ref b430), .val (.int (Int32.ofNat pp)), .unset] []) := fun t h => k450 t (st449 t h)
  have N449 := Fr.snoc X449 N443 ge_b430
  have V_b430' := Arv.set Ar449 q449 Sz449 Ng449 Hs449 G449 (fits_nar_char _) W449 pp (own_tn (by omega)).1 (by rw [List.length_set, List.length_set, List.length_replicate]; omega)
  replace V_b430 := V_b430'
  have hC452 := hC446.wr W449 sf_b430
  have rC452 := rC446.trans (CHr.wr W449 sf_b430 hC446)
  replace sf_b430 := Safe.wr W449 sf_b430 hC446 sf_b430
  have O453 := O447.wr W449 ge_b430
  have hkk454 := Nat.le_trans hkk448 (Keep.of_wr W449).1
  rw [← own_cs_map] at V_b430
  obtain ⟨kF, hkF, hlowF, hhighF⟩ := own_first _ hex
  rw [own_cs_len] at hkF
  obtain ⟨T455, h455, X455, e455, E455, A455, D455, -, st455⟩ := newO X449 hx hZ hown (hw _ (List.mem_of_getElem? (i := 2) rfl)) (hw _ (List.mem_of_getElem? (i := 3) rfl)) (hw _ (List.mem_of_getElem? (i := 4) rfl)) e449 (g := (mkF m 76 #[.val (.int p1), .val (.int p2), .val (.int p3), .val (.int p4), .val (.int (Int32.ofNat nn)), .val (.ref b430), .val (.int (Int32.ofNat pp)), .unset] [])) rfl (hb hby at_76) (by decide) (by decide)
  obtain ⟨b455, g455⟩ : ∃ z, z = h449.size := ⟨_, rfl⟩
  rw [← g455] at A455 D455 st455
  have k456 : Rch p e below S0 T455 (mkF m 79 #[.val (.int p1), .val (.int p2), .val (.int p3), .val (.int p4), .val (.int (Int32.ofNat nn)), .val (.ref b430), .val (.int (Int32.ofNat pp)), .unset] [(.ref b455)]) := fun t h => k451 t (st455 t h)
  have ne_b430_b455 : b430 ≠ b455 := own_ne V_b430.lt (Nat.le_of_eq g455.symm)
  have ge_b455 : n0 ≤ b455 := own_ge O453 (Nat.le_of_eq g455.symm)
  have sf_b455 : Safe Z consts_1 s.vm h449 b455 := Safe.new (Nat.le_of_eq g455.symm)
  replace sf_b430 := Safe.ext E455 hC452 sf_b430
  replace sf_b455 := Safe.ext E455 hC452 sf_b455
  have hC457 := hC452.ext E455
  have rC457 := rC452.trans (CHr.ext E455 hC452)
  have O458 := O453.ext E455
  replace V_b430 := V_b430.ext E455
  have hkk459 := Nat.le_trans hkk454 E455.1
  have E_b455 := A455
  have F_b455_value : Fld Z h455 b455 "java/lang/String" "value" "[B" .null := D455 (Or.inr (hw _ (List.mem_of_getElem? (i := 17) rfl))) (ty := (.array .byte)) (by decide)
  have F_b455_coder : Fld Z h455 b455 "java/lang/String" "coder" "B" (.int (0 : Int32)) := D455 (Or.inr (hw _ (List.mem_of_getElem? (i := 18) rfl))) (ty := .byte) (by decide)
  have k460 : Rch p e below S0 T455 (mkF m 82 #[.val (.int p1), .val (.int p2), .val (.int p3), .val (.int p4), .val (.int (Int32.ofNat nn)), .val (.ref b430), .val (.int (Int32.ofNat pp)), .unset] [(.ref b430), (.ref b455), (.ref b455)]) := fun t h => k456 t (by
      show Steps p.tables e below (T455.setTop (mkF m 79 #[.val (.int p1), .val (.int p2), .val (.int p3), .val (.int p4), .val (.int (Int32.ofNat nn)), .val (.ref b430), .val (.int (Int32.ofNat pp)), .unset] [(.ref b455)])) _
      refine XS.dup X455.here hx rfl (hb hby at_79) rfl rfl ?_
      show Steps p.tables e below (T455.setTop (mkF m 80 #[.val (.int p1), .val (.int p2), .val (.int p3), .val (.int p4), .val (.int (Int32.ofNat nn)), .val (.ref b430), .val (.int (Int32.ofNat pp)), .unset] [(.ref b455), (.ref b455)])) _
      refine XS.aload X455.here hx rfl (hb hby at_80) rfl rfl ?_
      show Steps p.tables e below (T455.setTop (mkF m 82 #[.val (.int p1), .val (.int p2), .val (.int p3), .val (.int p4), .val (.int (Int32.ofNat nn)), .val (.ref b430), .val (.int (Int32.ofNat pp)), .unset] [(.ref b430), (.ref b455), (.ref b455)])) _
      exact h)
  obtain ⟨_, _, ⟨T461, L461, kk461, n461⟩, -, X461, ⟨Lc461, hQ461, l461, y461, z461⟩, st461⟩ := X455.specialBack hx (y := (⟨"java/lang/String", "<init>", "([C)V"⟩ : MethodName)) rfl hown (mvT hZ (hw _ (List.mem_of_getElem? (i := 5) rfl))) (mvT hZ (hw _ (List.mem_of_getElem? (i := 6) rfl))) (mvT hZ (hw _ (List.mem_of_getElem? (i := 7) rfl))) (by decide) (backOf (W := 1) (rmU1 l Z a0 hw [] b455 b430 k430 nn ((own_cs nn pp (p2.toUInt32.toUInt16.toUInt32.toInt32) (p3.toUInt32.toUInt16.toUInt32.toInt32) ((p2 ^^^ p3).toUInt32.toUInt16.toUInt32.toInt32))) kF zC h455 n0 O458 SAs SHi SLo SC hzC hn2 (own_cs_len _ _ _ _ _) hkF hlowF hhighF (own_cs_in _ _ _ _ _) ge_b455 E_b455 F_b455_value F_b455_coder ne_b430_b455 V_b430) hZ (hw _ (List.mem_of_getElem? (i := 7) rfl)) (hw _ (List.mem_of_getElem? (i := 4) rfl)) (by decide) (by decide)) (g := (mkF m 82 #[.val (.int p1), .val (.int p2), .val (.int p3), .val (.int p4), .val (.int (Int32.ofNat nn)), .val (.ref b430), .val (.int (Int32.ofNat pp)), .unset] [(.ref b430), (.ref b455), (.ref b455)])) rfl (by rw [hml]; rfl) (Steps.refl _) (a := b455) (argsL := [(.ref b430)]) (rest := [(.ref b455)]) (lenOf pd_0 rfl) rfl (by show 2 * 0 + _ ≤ _; exact Nat.le_of_eq rfl) (hb hby at_82) (fun _ _ => ⟨rfl, e455, (by decide : 2 + 2 ≤ _), (by decide : 4004 + 12000 ≤ _)⟩)
  dsimp only [Pt.U, Pt.locs, Pt.cells, Pt.slots] at X461 l461 y461 z461 st461 hQ461
  subst l461 y461 z461
  obtain ⟨rfl, Nq461, K461, t461, kt461, vs461, Fv461, Fc461, At461⟩ := hQ461
  have N461 := Fr.app N449 Nq461
  have k462 : Rch p e below S0 T461 (mkF m 85 #[.val (.int p1), .val (.int p2), .val (.int p3), .val (.int p4), .val (.int (Int32.ofNat nn)), .val (.ref b430), .val (.int (Int32.ofNat pp)), .unset] [(.ref b455)]) := fun t h => k460 t (st461.trans h)
  have hC463 := hC457.keep K461 (sfS sf_b455 sf0)
  have rC463 := rC457.trans (CHr.keep K461 (sfS sf_b455 sf0) hC457)
  have sfx464 := (sfS sf_b455 sf0)
  replace sf_b430 := Safe.keep K461 sfx464 hC457 sf_b430
  replace sf_b455 := Safe.keep K461 sfx464 hC457 sf_b455
  have O465 := O458.keep K461 (allS ge_b455 all0)
  replace V_b430 := V_b430.keep K461 (ninS ne_b430_b455 nin0)
  replace E_b455 := E_b455.keep K461
  have hkk466 := Nat.le_trans hkk459 K461.1
  have k467 : Rch p e below S0 T461 (mkF m 89 #[.val (.int p1), .val (.int p2), .val (.int p3), .val (.int p4), .val (.int (Int32.ofNat nn)), .val (.ref b430), .val (.ref b455), .unset] [(.ref b455)]) := fun t h => k462 t (by
      show Steps p.tables e below (T461.setTop (mkF m 85 #[.val (.int p1), .val (.int p2), .val (.int p3), .val (.int p4), .val (.int (Int32.ofNat nn)), .val (.ref b430), .val (.int (Int32.ofNat pp)), .unset] [(.ref b455)])) _
      refine XS.astore X461.here hx rfl (hb hby at_85) rfl rfl (l' := #[.val (.int p1), .val (.int p2), .val (.int p3), .val (.int p4), .val (.int (Int32.ofNat nn)), .val (.ref b430), .val (.ref b455), .unset]) rfl ?_
      show Steps p.tables e below (T461.setTop (mkF m 87 #[.val (.int p1), .val (.int p2), .val (.int p3), .val (.int p4), .val (.int (Int32.ofNat nn)), .val (.ref b430), .val (.ref b455), .unset] [])) _
      refine XS.aload X461.here hx rfl (hb hby at_87) rfl rfl ?_
      show Steps p.tables e below (T461.setTop (mkF m 89 #[.val (.int p1), .val (.int p2), .val (.int p3), .val (.int p4), .val (.int (Int32.ofNat nn)), .val (.ref b430), .val (.ref b455), .unset] [(.ref b455)])) _
      exact h)
  have hLL : ((Int32.ofNat (2 * nn)) >>> (nar .byte (1 : Int32) &&& 31)) = (Int32.ofNat nn) := own_sh1 hn2
  obtain ⟨_, _, ⟨T468, L468, kk468, n468⟩, -, X468, hS468, gr468, ⟨Lc468, hQ468, l468, y468, z468, hR468⟩, st468⟩ := callSS X461 hx (y := (⟨"com/example/remodel/remodel/SettingTable", "checkValue", "(Ljava/lang/String;)Ljava/lang/String;"⟩ : MethodName)) hown (mvT hZ (hw _ (List.mem_of_getElem? (i := 23) rfl))) (mvT hZ (hw _ (List.mem_of_getElem? (i := 24) rfl))) (mvT hZ (hw _ (List.mem_of_getElem? (i := 25) rfl))) (mvT hZ (hw _ (List.mem_of_getElem? (i := 26) rfl))) (by decide) (backOfSH (W := 0) (rmH l Z a0 hw [] b455 t461 kt461 (Int32.ofNat (2 * nn)) vs461 (1 : Int32) zC (Int32.ofNat nn) T461.heap n0 O465 SC hzC E_b455 Fv461 Fc461 At461 hLL (fun q => by rw [Int32.lt_iff_toInt_lt, (own_tn (by omega)).2, show (4000 : Int32).toInt = 4000 from by decide] at q; omega)) hZ (hw _ (List.mem_of_getElem? (i := 26) rfl)) (hw _ (List.mem_of_getElem? (i := 25) rfl)) (by decide) (by decide) hEL hC463) (g := (mkF m 89 #[.val (.int p1), .val (.int p2), .val (.int p3), .val (.int p4), .val (.int (Int32.ofNat nn)), .val (.ref b430), .val (.ref b455), .unset] [(.ref b455)])) rfl (by rw [hml]; rfl) (argsL := [(.ref b455)]) (rest := []) (lenOf pd_3 rfl) rfl (by show 2 * 0 + _ ≤ _; exact Nat.le_of_eq rfl) (hb hby at_89) (fun _ _ => ⟨rfl, rfl, (by decide : 4 + 2 ≤ _), (by decide : 16004 + 24 ≤ _)⟩)
  dsimp only [Pt.U, Pt.locs, Pt.cells, Pt.slots] at X468 l468 y468 z468 st468 hQ468 hS468 gr468 hR468
  subst l468 y468 z468
  have hZ468 : Z.Warmed39 (s.setVm T468.vm).vm := State.Warmed39.trans (t := (s.setVm s.vm)) hZ hS468.1
  have hown468 : (s.setVm T468.vm).vm.findClass "com/example/remodel/remodel/SettingTableCheckValuePinLaw" = some m.cls := by rw [show (s.setVm T468.vm).vm = T468.vm from rfl, hS468.1.alike.findClass]; exact hown
  replace hS468 := foldS hS (by exact hkk466) hS468 gr468
  have hk468 := Nat.le_refl T468.heap.size
  replace X468 : Stand p l e room_1 (s.setVm T468.vm) m #[(.int p1), (.int p2), (.int p3), (.int p4)] below meth c T468 _ _ _ := X468
  obtain ⟨rfl, Nq468, E468⟩ := hQ468
  have N468 := Fr.app N461 Nq468
  have k469 : Rch p e below S0 T468 (mkF m 92 #[.val (.int p1), .val (.int p2), .val (.int p3), .val (.int p4), .val (.int (Int32.ofNat nn)), .val (.ref b430), .val (.ref b455), .unset] [(.ref b455)]) := fun t h => k467 t (st468.trans h)
  replace sf_b430 := hR468.safe V_b430.lt sf_b430
  replace sf_b455 := hR468.safe E_b455.lt sf_b455
  have hC470 := hR468.1
  have rC470 := rC463.trans hR468
  have O471 := O465.ext E468
  replace V_b430 := V_b430.ext E468
  replace E_b455 := E_b455.ext E468
  replace Fv461 := Fv461.ext E468
  replace Fc461 := Fc461.ext E468
  replace At461 := At461.ext E468
  have k472 : Rch p e below S0 T468 (mkF m 103 #[.val (.int p1), .val (.int p2), .val (.int p3), .val (.int p4), .val (.int (Int32.ofNat nn)), .val (.ref b430), .val (.ref b455), .val (.ref b455)] [(.ref b455)]) := fun t h => k469 t (by
      show Steps p.tables e below (T468.setTop (mkF m 92 #[.val (.int p1), .val (.int p2), .val (.int p3), .val (.int p4), .val (.int (Int32.ofNat nn)), .val (.ref b430), .val (.ref b455), .unset] [(.ref b455)])) _
      refine XS.astore X468.here hx rfl (hb hby at_92) rfl rfl (l' := #[.val (.int p1), .val (.int p2), .val (.int p3), .val (.int p4), .val (.int (Int32.ofNat nn)), .val (.ref b430), .val (.ref b455), .val (.ref b455)]) rfl ?_
      show Steps p.tables e below (T468.setTop (mkF m 94 #[.val (.int p1), .val (.int p2), .val (.int p3), .val (.int p4), .val (.int (Int32.ofNat nn)), .val (.ref b430), .val (.ref b455), .val (.ref b455)] [])) _
      refine XS.aload X468.here hx rfl (hb hby at_94) rfl rfl ?_
      show Steps p.tables e below (T468.setTop (mkF m 96 #[.val (.int p1), .val (.int p2), .val (.int p3), .val (.int p4), .val (.int (Int32.ofNat nn)), .val (.ref b430), .val (.ref b455), .val (.ref b455)] [(.ref b455)])) _
      refine XS.aload X468.here hx rfl (hb hby at_96) rfl rfl ?_
      show Steps p.tables e below (T468.setTop (mkF m 98 #[.val (.int p1), .val (.int p2), .val (.int p3), .val (.int p4), .val (.int (Int32.ofNat nn)), .val (.ref b430), .val (.ref b455), .val (.ref b455)] [(.ref b455), (.ref b455)])) _
      refine Jvm.RoadKit.acmp (g := (mkF m 98 #[.val (.int p1), .val (.int p2), .val (.int p3), .val (.int p4), .val (.int (Int32.ofNat nn)), .val (.ref b430), .val (.ref b455), .val (.ref b455)] [(.ref b455), (.ref b455)])) X468 hx rfl rfl rfl (pc0 := 98) (pc' := 101) (same := true) rfl (hb hby at_98) rfl (decide_eq_true rfl) (by decide) (by decide) ?_
      show Steps p.tables e below (T468.setTop (mkF m 101 #[.val (.int p1), .val (.int p2), .val (.int p3), .val (.int p4), .val (.int (Int32.ofNat nn)), .val (.ref b430), .val (.ref b455), .val (.ref b455)] [])) _
      refine XS.aload X468.here hx rfl (hb hby at_101) rfl rfl ?_
      show Steps p.tables e below (T468.setTop (mkF m 103 #[.val (.int p1), .val (.int p2), .val (.int p3), .val (.int p4), .val (.int (Int32.ofNat nn)), .val (.ref b430), .val (.ref b455), .val (.ref b455)] [(.ref b455)])) _
      exact h)
  obtain ⟨cq473, kq473, q473a, q473b, q473c⟩ := isOf hZ468 rfl E_b455
  obtain ⟨_, _, ⟨T473, L473, kk473, n473⟩, -, X473, ⟨Lc473, hQ473, l473, y473, z473⟩, st473⟩ := X468.virtualBack hx (y := (⟨"java/lang/String", "length", "()I"⟩ : MethodName)) (z := (⟨"java/lang/String", "length", "()I"⟩ : MethodName)) hown468 (mvT hZ468 (hw _ (List.mem_of_getElem? (i := 43) rfl))) (mvT hZ468 (hw _ (List.mem_of_getElem? (i := 33) rfl))) (notFace_of_selects (args := #[]) (mvT hZ468 (hw _ (List.mem_of_getElem? (i := 35) rfl)))) (mvT hZ468 (hw _ (List.mem_of_getElem? (i := 35) rfl))) (mvT hZ468 (hw _ (List.mem_of_getElem? (i := 34) rfl))) (by decide) (backOf (W := 0) (rmLE l Z a0 hw [] b455 t461 kt461 (Int32.ofNat (2 * nn)) vs461 (1 : Int32) zC (Int32.ofNat nn) T468.heap n0 O471 SC hzC E_b455 Fv461 Fc461 At461 hLL) hZ468 (hw _ (List.mem_of_getElem? (i := 36) rfl)) (hw _ (List.mem_of_getElem? (i := 4) rfl)) (by decide) (by decide)) q473a q473c (g := (mkF m 103 #[.val (.int p1), .val (.int p2), .val (.int p3), .val (.int p4), .val (.int (Int32.ofNat nn)), .val (.ref b430), .val (.ref b455), .val (.ref b455)] [(.ref b455)])) rfl (by rw [hml]; rfl) (Steps.refl _) (argsL := []) (rest := []) (lenOf pd_5 rfl) rfl (by show 2 * 0 + _ ≤ _; exact Nat.le_of_eq rfl) (hb hby at_103) (fun _ _ => ⟨rfl, rfl, (by decide : 6 + 0 ≤ _), (by decide : 16028 + 0 ≤ _)⟩)
  dsimp only [Pt.U, Pt.locs, Pt.cells, Pt.slots] at X473 l473 y473 z473 st473 hQ473
  subst l473 y473 z473
  obtain ⟨rfl, Nq473, hh473⟩ := hQ473
  have N473 := Fr.app N468 Nq473
  have k474 : Rch p e below S0 T473 (mkF m 106 #[.val (.int p1), .val (.int p2), .val (.int p3), .val (.int p4), .val (.int (Int32.ofNat nn)), .val (.ref b430), .val (.ref b455), .val (.ref b455)] [(.int (Int32.ofNat nn))]) := fun t h => k472 t (st473.trans h)
  have k475 : Rch p e below S0 T473 (mkF m 116 #[.val (.int p1), .val (.int p2), .val (.int p3), .val (.int p4), .val (.int (Int32.ofNat nn)), .val (.ref b430), .val (.ref b455), .val (.ref b455)] [(.int (1 : Int32))]) := fun t h => k474 t (by
      show Steps p.tables e below (T473.setTop (mkF m 106 #[.val (.int p1), .val (.int p2), .val (.int p3), .val (.int p4), .val (.int (Int32.ofNat nn)), .val (.ref b430), .val (.ref b455), .val (.ref b455)] [(.int (Int32.ofNat nn))])) _
      refine XS.iload X473.here hx rfl (hb hby at_106) rfl ?_
      show Steps p.tables e below (T473.setTop (mkF m 108 #[.val (.int p1), .val (.int p2), .val (.int p3), .val (.int p4), .val (.int (Int32.ofNat nn)), .val (.ref b430), .val (.ref b455), .val (.ref b455)] [(.int (Int32.ofNat nn)), (.int (Int32.ofNat nn))])) _
      refine XS.icmpNo X473.here hx rfl (hb hby at_108) rfl (teq (rfl : (Int32.ofNat nn) = (Int32.ofNat nn))).2 ?_
      show Steps p.tables e below (T473.setTop (mkF m 111 #[.val (.int p1), .val (.int p2), .val (.int p3), .val (.int p4), .val (.int (Int32.ofNat nn)), .val (.ref b430), .val (.ref b455), .val (.ref b455)] [])) _
      refine XS.iconst X473.here hx rfl (hb hby at_111) ?_
      show Steps p.tables e below (T473.setTop (mkF m 112 #[.val (.int p1), .val (.int p2), .val (.int p3), .val (.int p4), .val (.int (Int32.ofNat nn)), .val (.ref b430), .val (.ref b455), .val (.ref b455)] [(.int (1 : Int32))])) _
      refine XS.goto X473.here hx rfl (pc0 := 112) (pc' := 116) rfl (hb hby at_112) (by decide) (by decide) ?_
      show Steps p.tables e below (T473.setTop (mkF m 116 #[.val (.int p1), .val (.int p2), .val (.int p3), .val (.int p4), .val (.int (Int32.ofNat nn)), .val (.ref b430), .val (.ref b455), .val (.ref b455)] [(.int (1 : Int32))])) _
      exact h)
  obtain ⟨fs, hr, hrun, hended, hfin⟩ := X473.leaveW hS468 (by rw [hh473]; exact hk468) (v := (some (.int (1 : Int32)))) (fun h => by rw [Bd.returns] at h; cases h)
  refine ⟨_, _, ?_, hrun, hended, _, _, rfl, ?_, (by rw [hh]; have q := own_chr rC470 (CHv.at X473 hZ468 hEL hC470) hh473; exact q), hfin.1, hfin.2.1, hfin.2.2.1, hfin.2.2.2.mono (by decide) (by decide)⟩
  · rw [← hS0]
    refine k475 _ ?_
    show Steps p.tables e below (T473.setTop (mkF m 116 #[.val (.int p1), .val (.int p2), .val (.int p3), .val (.int p4), .val (.int (Int32.ofNat nn)), .val (.ref b430), .val (.ref b455), .val (.ref b455)] [(.int (1 : Int32))])) _
    exact retN X473 hx (t := .boolean) Bd.returns (by simp) (hb hby at_116) hr
  · show Q_rm0_Bu Z  h0 n0 _ T473.heap _
    rw [hh473]
    exact ⟨rfl, N473⟩
theorem own_nA (p1 : Int32) : ∃ nn : Nat, nn ≤ 4000 ∧ ((4000 : Int32) - (((p1.toUInt32 >>> ((1 : Int32) &&& 31).toUInt32).toInt32) &&& (3 : Int32))) = Int32.ofNat nn := by
  have h := c_mask ((p1.toUInt32 >>> ((1 : Int32) &&& 31).toUInt32).toInt32) 3 2 (by decide) (by decide)
  have a := c_isub 4000 (((p1.toUInt32 >>> ((1 : Int32) &&& 31).toUInt32).toInt32) &&& 3)
  have r := rng32 (4000 - (((p1.toUInt32 >>> ((1 : Int32) &&& 31).toUInt32).toInt32) &&& 3))
  have e : (4000 : Int32).toInt = 4000 := by decide
  refine ⟨(4000 - (((p1.toUInt32 >>> ((1 : Int32) &&& 31).toUInt32).toInt32) &&& 3) : Int32).toInt.toNat, by omega, Int32.toInt_inj.mp ?_⟩
  rw [(own_tn (by omega)).2]; omega
theorem own_nB (p1 : Int32) : ∃ nn : Nat, nn ≤ 4000 ∧ ((((p1.toUInt32 >>> ((1 : Int32) &&& 31).toUInt32).toInt32) &&& (1073741823 : Int32)) % (4001 : Int32)) = Int32.ofNat nn := by
  have h := c_mask ((p1.toUInt32 >>> ((1 : Int32) &&& 31).toUInt32).toInt32) 1073741823 30 (by decide) (by decide)
  have a := (c_irem (((p1.toUInt32 >>> ((1 : Int32) &&& 31).toUInt32).toInt32) &&& 1073741823) 4001 4001 (by decide)).1 (by omega)
  refine ⟨((((p1.toUInt32 >>> ((1 : Int32) &&& 31).toUInt32).toInt32) &&& 1073741823) % 4001 : Int32).toInt.toNat, by omega, Int32.toInt_inj.mp ?_⟩
  rw [(own_tn (by omega)).2]; omega
theorem own_pp (p4 : Int32) (nn : Nat) (h : 0 < nn) (hn : nn ≤ 4000) : ∃ pp : Nat, pp < nn ∧ (p4 &&& 2147483647) % Int32.ofNat nn = Int32.ofNat pp := by
  have h1 := c_mask p4 2147483647 31 (by decide) (by decide)
  have e := (own_tn (i := nn) (by omega)).2
  have a := (c_iremV (p4 &&& 2147483647) (Int32.ofNat nn)).1 (by omega) (by omega)
  refine ⟨((p4 &&& 2147483647) % Int32.ofNat nn).toInt.toNat, by omega, Int32.toInt_inj.mp ?_⟩
  rw [(own_tn (by omega)).2]; omega
theorem own_all (l : Launch) (Z : State) (a0 : Array Value) (hw : ∀ d ∈ tables_1, d.before a0 Z = true) (ws : List Jvm.Cond) (p1 p2 p3 p4 zC : Int32) (h0 : Heap) (n0 : Nat) (O0 : Old Z n0 h0) (SAs : Sta Z Z.heap "java/lang/StringUTF16" "$assertionsDisabled" "Z" (.int (1 : Int32))) (SHi : Sta Z Z.heap "java/lang/StringUTF16" "HI_BYTE_SHIFT" "I" (.int (0 : Int32))) (SLo : Sta Z Z.heap "java/lang/StringUTF16" "LO_BYTE_SHIFT" "I" (.int (8 : Int32))) (SC : Sta Z Z.heap "java/lang/String" "COMPACT_STRINGS" "Z" (.int zC)) (hzC : ¬ zC = 0) :
    MetFree l x (head1 (Jvm.Cond.code x code maxLocals ret :: ws) room_1) (fun a U => a = #[(.int p1), (.int p2), (.int p3), (.int p4)] ∧ Z.Warmed39 U.vm ∧ U.heap = h0 ∧ CHv Z consts_1 U.vm h0) (fun _ _ _ _ _ => True) (fun _ U o U' => ∃ v L, o = .returned v ∧ Q_rm0_A0 Z h0 n0 v U'.heap L ∧ CHr Z consts_1 U.vm U.heap U'.vm U'.heap ∧ ReturnedEndW U o U' L room_1.cells room_1.slots) := by
  by_cases hc : p1 &&& 1 = 0
  · obtain ⟨nn, hn2, he⟩ := own_nB p1
    by_cases hz : nn = 0
    · subst hz
      exact rm0_B0 l Z a0 hw ws p1 p2 p3 p4 zC h0 n0 O0 SAs SHi SLo SC hzC hc he
    · obtain ⟨pp, hp1, hpe⟩ := own_pp p4 nn (by omega) hn2
      by_cases hex : ∃ c ∈ own_cs nn pp (p2.toUInt32.toUInt16.toUInt32.toInt32) (p3.toUInt32.toUInt16.toUInt32.toInt32) ((p2 ^^^ p3).toUInt32.toUInt16.toUInt32.toInt32), (255 : Int32) < c
      · exact rm0_Bu l Z a0 hw ws p1 p2 p3 p4 zC nn pp h0 n0 O0 SAs SHi SLo SC hzC hc he (by omega) hn2 hp1 hpe hex
      · exact rm0_Bl l Z a0 hw ws p1 p2 p3 p4 zC nn pp h0 n0 O0 SAs SHi SLo SC hzC hc he (by omega) hn2 hp1 hpe (fun i hi => own_memD _ (fun c => ¬ (255 : Int32) < c) (fun c hc q => hex ⟨c, hc, q⟩) i (by rw [own_cs_len]; exact hi))
  · obtain ⟨nn, hn2, he⟩ := own_nA p1
    by_cases hz : nn = 0
    · subst hz
      exact rm0_A0 l Z a0 hw ws p1 p2 p3 p4 zC h0 n0 O0 SAs SHi SLo SC hzC hc he
    · obtain ⟨pp, hp1, hpe⟩ := own_pp p4 nn (by omega) hn2
      by_cases hex : ∃ c ∈ own_cs nn pp (p2.toUInt32.toUInt16.toUInt32.toInt32) (p3.toUInt32.toUInt16.toUInt32.toInt32) ((p2 ^^^ p3).toUInt32.toUInt16.toUInt32.toInt32), (255 : Int32) < c
      · exact rm0_Au l Z a0 hw ws p1 p2 p3 p4 zC nn pp h0 n0 O0 SAs SHi SLo SC hzC hc he (by omega) hn2 hp1 hpe hex
      · exact rm0_Al l Z a0 hw ws p1 p2 p3 p4 zC nn pp h0 n0 O0 SAs SHi SLo SC hzC hc he (by omega) hn2 hp1 hpe (fun i hi => own_memD _ (fun c => ¬ (255 : Int32) < c) (fun c hc q => hex ⟨c, hc, q⟩) i (by rw [own_cs_len]; exact hi))
set_option maxRecDepth 65536 in
set_option maxHeartbeats 40000000 in
theorem comes_1 {Post : Tables → Env → Array Value → State → Outcome → State → Prop} (hpost : ∀ tb e args s v u, (limb_1_1.after args s (.returned v) u = true ∧ limb_1_2.after args s (.returned v) u = true ∧ True) → ReturnedEndW s (.returned v) u (Jvm.fieldLocs frame_1_writes args s ++ Jvm.arrayLocs frame_1_arrays args s ++ Jvm.staticLocs frame_1_statics s) 24 34176 → Post tb e args s (.returned v) u) :
    ArmFor flags0 classFile x code maxLocals ret World_1 tables_1 room_1 Calls_1 rest_1 Pre_1 Post := by
  intro l hfl _ _ p e ha hc hk s m args below hf hA hF happ hP
  obtain ⟨hcalls, hrest, hpre⟩ := hP
  obtain ⟨-, -, -, hnamed, -, -, -, hat⟩ := (Spec.applies_iff hf).mp happ
  obtain ⟨hg, hn⟩ := and_e (Cond.before_iff.mp (show (Jvm.Cond.and given_1 narrow_1).before args s = true from hpre))
  obtain ⟨g_0, g_1⟩ := and_e hg
  obtain ⟨gi_0, gr_0⟩ := and_e g_1
  obtain ⟨gi_1, gr_1⟩ := and_e gr_0
  obtain ⟨gi_2, gr_2⟩ := and_e gr_1
  obtain ⟨w0, w1, w2, w3, rfl⟩ : ∃ w0 w1 w2 w3 : Value, args = #[w0, w1, w2, w3] := by
    have hs : args.size = 4 := by simpa [Cond.value, given_1] using g_0
    obtain ⟨L⟩ := args
    match L, hs with
    | [w0, w1, w2, w3], _ => exact ⟨w0, w1, w2, w3, rfl⟩
  have hw := fun d (hd : d ∈ tables_1) => atoms_spec (ws := Jvm.Cond.code x code maxLocals ret :: tables_1) hat d (List.mem_cons_of_mem _ hd)
  have hfit : Fit s := fun {y c} hc i hi => by
    obtain ⟨ha, rfl⟩ := Array.getElem?_eq_some_iff.mp hc
    have q := List.all_eq_true.mp ((Array.all_eq_true_iff_forall_mem.mp hF) _ (Array.getElem_mem ha)) i (List.mem_range.mpr hi)
    simpa [Array.getElem?_eq_getElem hi] using q
  obtain ⟨i0, ei0⟩ := is_v gi_0
  obtain rfl : w0 = (.int i0) := Option.some.inj ei0
  obtain ⟨i1, ei1⟩ := is_v gi_1
  obtain rfl : w1 = (.int i1) := Option.some.inj ei1
  obtain ⟨i2, ei2⟩ := is_v gi_2
  obtain rfl : w2 = (.int i2) := Option.some.inj ei2
  obtain ⟨i3, ei3⟩ := is_v gr_2
  obtain rfl : w3 = (.int i3) := Option.some.inj ei3
  obtain ⟨hsets, hown0⟩ := atoms_of _ (rest_1_c_eq ▸ (show rest_1_c.before _ s = true from hrest))
  have hr0 := Cond.before_iff.mp hown0
  obtain ⟨zC, eC⟩ := is_v (Cond.before_iff.mp (hsets _ (List.mem_of_getElem? (i := 1) rfl)))
  have SC := Sta.start eC (Or.inl (hsets _ (List.mem_of_getElem? (i := 0) rfl)))
  have hzC : ¬ zC = 0 := fun q => by
    have u := not_v (Cond.before_iff.mp (hsets _ (List.mem_of_getElem? (i := 2) rfl)))
    simp only [Cond.value, eC, Term.int_eval, q] at u
    simp at u
  have SAs := Sta.start (own_eqi (Cond.before_iff.mp (hsets _ (List.mem_of_getElem? (i := 12) rfl)))) (Or.inl (hsets _ (List.mem_of_getElem? (i := 11) rfl)))
  have SHi := Sta.start (own_eqi (Cond.before_iff.mp (hsets _ (List.mem_of_getElem? (i := 15) rfl)))) (Or.inl (hsets _ (List.mem_of_getElem? (i := 14) rfl)))
  have SLo := Sta.start (own_eqi (Cond.before_iff.mp (hsets _ (List.mem_of_getElem? (i := 18) rfl)))) (Or.inl (hsets _ (List.mem_of_getElem? (i := 17) rfl)))
  have hEL : EW s _ consts_1 := (EW.cons (hw _ (List.mem_of_getElem? (i := 27) rfl)) (by decide +kernel) (EW.cons (hw _ (List.mem_of_getElem? (i := 15) rfl)) (by decide +kernel) EW.nil))
  have hCH : CHv s consts_1 s.vm s.heap := CHv.start hEL (fun p hp => hcalls.1 p hp) (hsets _ (List.mem_of_getElem? (i := 2) rfl)) (hw _ (List.mem_of_getElem? (i := 16) rfl)) (hw _ (List.mem_of_getElem? (i := 3) rfl))
  obtain ⟨n, o, h1, h2, h3, _, L, rfl, ⟨rfl, N⟩, -, hq⟩ := own_all l s _ hw tables_1 i0 i1 i2 i3 zC s.heap s.heap.size (Old.start s) SAs SHi SLo SC hzC p e ha hc hk s m _ below hf ((Spec.applies_iff_loose hf).mp happ).1 ⟨rfl, State.Warmed39.refl s, rfl, hCH⟩ trivial
  refine ⟨n, _, h1, h2, h3, hpost _ _ _ _ _ _ ⟨Cond.after_iff.mpr rfl, Cond.after_iff.mpr (eq_i res_at (Term.int_eval (1)) rfl), trivial⟩ ⟨hq.1, hq.2.1, hq.2.2.1, (hq.2.2.2.sift fun y hy => Or.inr (N y hy)).mono (by decide) (by decide)⟩⟩
theorem main_1_1 : Claimed_1_1 := comes_1 fun _ _ _ _ _ _ h hF => ⟨h.1, hF⟩
theorem main_1_2 : Claimed_1_2 := comes_1 fun _ _ _ _ _ _ h hF => ⟨h.2.1, hF⟩
end Jvm.Pilot.@@N@@
namespace Jvm.Pilot.@@N@@
open Jvm Jvm.ClassFile Sem Op Lib Jvm.Free Jvm.Stand Jvm.Pilot.@@N@@.Jvm.D
/-! MADE BY PROGRAM (witnessworld.py) out of the Statement's table words and the real class files: 21 classes; the members and pool entries that the words name. The judged class is class 1, her method 1. -/
namespace start1
open Jvm.ClassFile
def u (s : String) : CpInfo := .utf8 (stringToUtf16 s)
/-- a pool by its gaps: so many unusable entries, then the entry; so many at the end -/
def gap : Nat → List CpInfo → List CpInfo
  | 0, r => r
  | n + 1, r => .unusable :: gap n r
def poolList (es : List (Nat × CpInfo)) (last : Nat) : List CpInfo := es.foldr (fun e r => gap e.1 (e.2 :: r)) (gap last [])
def pool (es : List (Nat × CpInfo)) (last : Nat) : Array CpInfo := ⟨poolList es last⟩
def fileOf (pool : Array CpInfo) (this : Nat) (attrs : Array Attribute := #[]) (ms : Array MethodInfo := #[]) (fl : Nat := 33) (sup : Nat := 0) (ifs : Array Nat := #[]) (fds : Array FieldInfo := #[]) : ClassFile where
  minorVersion := 0
  majorVersion := 65
  constantPool := pool
  accessFlags := fl
  thisClass := this
  superClass := sup
  interfaces := ifs
  fields := fds
  methods := ms
  attributes := attrs
def plain (name : String) (sup : Option ClassId) : Class where
  name := name
  kind := .ordinary
  loader := none
  accessFlags := 33
  super := sup
  interfaces := #[]
  cf := none
  fields := #[]
  methods := #[]
  instanceTypes := #[]
  staticTypes := #[]
  resolved := #[]
  callSites := []
  init := .initialized
  statics := none
  mirror := none

def pool0 : Array CpInfo := pool [(5, u "<init>"), (0, u "()V"), (1, .class_ 10), (1, u "java/lang/Object")] 113

def k0c0 : Code := { maxStack := 0, maxLocals := 1, code := object_method_1_code, exceptionTable := #[], attributes := #[] }
def k0m0 : Method := { name := "<init>", desc := "()V", sig := { parameters := [], returnType := none }, accessFlags := 1, code := some k0c0 }
/-- java/lang/Object -/
def k0 : Class := { plain "java/lang/Object" none with
  accessFlags := 33
  interfaces := #[]
  cf := some (fileOf pool0 8 #[] #[{ accessFlags := 1, nameIndex := 5, descriptorIndex := 6, attributes := #[] }] 33 0 #[] #[])
  fields := #[]
  methods := #[k0m0]
  instanceTypes := #[]
  staticTypes := #[]
  resolved := Array.replicate 124 none
  statics := none }

def pool1 : Array CpInfo := pool [(2, .class_ 4), (1, u "java/lang/Object"), (0, u "<init>"), (0, u "()V"), (0, .integer 1073741823), (0, .integer 2147483647), (0, .class_ 10), (0, u "java/lang/String"), (0, .methodref 9 12), (0, .nameAndType 5 13), (0, u "([C)V"), (0, .methodref 15 16), (0, .class_ 17), (0, .nameAndType 18 19), (0, u "com/example/remodel/remodel/SettingTable"), (0, u "checkValue"), (0, u "(Ljava/lang/String;)Ljava/lang/String;"), (0, .methodref 9 21), (0, .nameAndType 22 23), (0, u "length"), (0, u "()I"), (0, .class_ 25), (0, u "com/example/remodel/remodel/SettingTableCheckValuePinLaw"), (2, u "law"), (0, u "(IIII)Z")] 5

def k1m0 : Method := { name := "<init>", desc := "()V", sig := { parameters := [], returnType := none }, accessFlags := 1, code := none }
def k1c1 : Code := { maxStack := 4, maxLocals := 8, code := code, exceptionTable := #[], attributes := #[] }
def k1m1 : Method := { name := "law", desc := "(IIII)Z", sig := { parameters := [.int, .int, .int, .int], returnType := some .boolean }, accessFlags := 9, code := some k1c1 }
/-- com/example/remodel/remodel/SettingTableCheckValuePinLaw -/
def k1 : Class := { plain "com/example/remodel/remodel/SettingTableCheckValuePinLaw" (some 0) with
  accessFlags := 49
  interfaces := #[]
  cf := some (fileOf pool1 24 #[] #[{ accessFlags := 1, nameIndex := 5, descriptorIndex := 6, attributes := #[] }, { accessFlags := 9, nameIndex := 28, descriptorIndex := 29, attributes := #[] }] 49 2 #[] #[])
  fields := #[]
  methods := #[k1m0, k1m1]
  instanceTypes := #[]
  staticTypes := #[]
  resolved := Array.replicate 35 none
  statics := none }

def pool2 : Array CpInfo := pool [(1, .class_ 2), (0, u "java/io/Serializable"), (0, .class_ 4), (0, u "java/lang/Object")] 2

/-- java/io/Serializable -/
def k2 : Class := { plain "java/io/Serializable" (some 0) with
  accessFlags := 1537
  interfaces := #[]
  cf := some (fileOf pool2 1 #[] #[] 1537 3 #[] #[])
  fields := #[]
  methods := #[]
  instanceTypes := #[]
  staticTypes := #[]
  resolved := Array.replicate 7 none
  statics := none }

def pool3 : Array CpInfo := pool [(1, .class_ 2), (0, u "java/lang/Comparable"), (0, .class_ 4), (0, u "java/lang/Object")] 7

/-- java/lang/Comparable -/
def k3 : Class := { plain "java/lang/Comparable" (some 0) with
  accessFlags := 1537
  interfaces := #[]
  cf := some (fileOf pool3 1 #[] #[] 1537 3 #[] #[])
  fields := #[]
  methods := #[]
  instanceTypes := #[]
  staticTypes := #[]
  resolved := Array.replicate 12 none
  statics := none }

def pool4 : Array CpInfo := pool [(2, .class_ 4), (1, u "java/lang/CharSequence"), (42, .class_ 48), (0, u "java/lang/CharSequence$1CodePointIterator"), (10, .class_ 60), (0, u "java/lang/CharSequence$1CharIterator"), (5, .class_ 67), (0, u "java/lang/Object")] 63

/-- java/lang/CharSequence -/
def k4 : Class := { plain "java/lang/CharSequence" (some 0) with
  accessFlags := 1537
  interfaces := #[]
  cf := some (fileOf pool4 2 #[.nestMembers #[47, 59]] #[] 1537 66 #[] #[])
  fields := #[]
  methods := #[]
  instanceTypes := #[]
  staticTypes := #[]
  resolved := Array.replicate 131 none
  statics := none }

def pool5 : Array CpInfo := pool [(1, .class_ 2), (0, u "java/lang/constant/Constable"), (0, .class_ 4), (0, u "java/lang/Object")] 6

/-- java/lang/constant/Constable -/
def k5 : Class := { plain "java/lang/constant/Constable" (some 0) with
  accessFlags := 1537
  interfaces := #[]
  cf := some (fileOf pool5 1 #[] #[] 1537 3 #[] #[])
  fields := #[]
  methods := #[]
  instanceTypes := #[]
  staticTypes := #[]
  resolved := Array.replicate 11 none
  statics := none }

def pool6 : Array CpInfo := pool [(1, .class_ 2), (0, u "java/lang/constant/ConstantDesc"), (0, .class_ 4), (0, u "java/lang/Object")] 32

/-- java/lang/constant/ConstantDesc -/
def k6 : Class := { plain "java/lang/constant/ConstantDesc" (some 0) with
  accessFlags := 1537
  interfaces := #[]
  cf := some (fileOf pool6 1 #[] #[] 1537 3 #[] #[])
  fields := #[]
  methods := #[]
  instanceTypes := #[]
  staticTypes := #[]
  resolved := Array.replicate 37 none
  statics := none }

def pool7 : Array CpInfo := pool [(1, .methodref 2 3), (0, .class_ 4), (0, .nameAndType 5 6), (0, u "java/lang/Object"), (0, u "<init>"), (0, u "()V"), (0, .string 8), (0, u ""), (0, .fieldref 10 11), (0, .class_ 12), (0, .nameAndType 13 14), (0, u "java/lang/String"), (0, u "value"), (0, u "[B"), (0, .fieldref 10 16), (0, .nameAndType 17 18), (0, u "coder"), (0, u "B"), (2, u "hash"), (0, u "I"), (2, u "hashIsZero"), (0, u "Z"), (0, .methodref 10 28), (0, .nameAndType 5 29), (0, u "([CIILjava/lang/Void;)V"), (8, .fieldref 10 39), (0, .nameAndType 40 26), (0, u "COMPACT_STRINGS"), (1, .class_ 44), (1, u "java/lang/StringUTF16"), (0, u "compress"), (1, .methodref 42 48), (0, .nameAndType 49 50), (0, u "coderFromArrayLen"), (0, u "([BI)B"), (126, .methodref 42 178), (0, .nameAndType 45 179), (0, u "([CII)[B"), (154, u "()I"), (0, .methodref 10 336), (0, .nameAndType 17 337), (0, u "()B"), (169, u "length"), (67, .class_ 576), (0, u "java/lang/CharSequence"), (22, u "CASE_INSENSITIVE_ORDER"), (0, u "Ljava/util/Comparator;"), (409, u "([C)V"), (90, u "serialPersistentFields"), (0, u "[Ljava/io/ObjectStreamField;"), (0, .class_ 1104), (0, u "java/lang/String$CaseInsensitiveComparator"), (1, .class_ 1107), (0, u "java/io/Serializable"), (0, .class_ 1109), (0, u "java/lang/Comparable"), (0, .class_ 1111), (0, u "java/lang/constant/Constable"), (0, .class_ 1113), (0, u "java/lang/constant/ConstantDesc"), (2, u "serialVersionUID"), (0, u "J"), (3, u "REPL"), (0, u "C"), (2, u "LATIN1"), (1, u "UTF16")] 323

def k7m0 : Method := { name := "<init>", desc := "()V", sig := { parameters := [], returnType := none }, accessFlags := 1, code := none }
def k7c1 : Code := { maxStack := 5, maxLocals := 2, code := jdk_42_method_3_code, exceptionTable := #[], attributes := #[] }
def k7m1 : Method := { name := "<init>", desc := "([C)V", sig := { parameters := [(.array .char)], returnType := none }, accessFlags := 1, code := some k7c1 }
def k7c2 : Code := { maxStack := 2, maxLocals := 1, code := jdk_42_method_54_code, exceptionTable := #[], attributes := #[] }
def k7m2 : Method := { name := "length", desc := "()I", sig := { parameters := [], returnType := some .int }, accessFlags := 1, code := some k7c2 }
def k7c3 : Code := { maxStack := 4, maxLocals := 6, code := jdk_42_method_149_code, exceptionTable := #[], attributes := #[] }
def k7m3 : Method := { name := "<init>", desc := "([CIILjava/lang/Void;)V", sig := { parameters := [(.array .char), .int, .int, (.object "java/lang/Void")], returnType := none }, accessFlags := 2, code := some k7c3 }
def k7c4 : Code := { maxStack := 1, maxLocals := 1, code := jdk_42_method_152_code, exceptionTable := #[], attributes := #[] }
def k7m4 : Method := { name := "coder", desc := "()B", sig := { parameters := [], returnType := some .byte }, accessFlags := 0, code := some k7c4 }
/-- java/lang/String -/
def k7 : Class := { plain "java/lang/String" (some 0) with
  accessFlags := 49
  interfaces := #[2, 3, 4, 5, 6]
  cf := some (fileOf pool7 10 #[.nestMembers #[1103]] #[{ accessFlags := 1, nameIndex := 5, descriptorIndex := 6, attributes := #[] }, { accessFlags := 1, nameIndex := 5, descriptorIndex := 1010, attributes := #[] }, { accessFlags := 1, nameIndex := 507, descriptorIndex := 334, attributes := #[] }, { accessFlags := 2, nameIndex := 5, descriptorIndex := 29, attributes := #[] }, { accessFlags := 0, nameIndex := 17, descriptorIndex := 337, attributes := #[] }] 49 2 #[1106, 1108, 575, 1110, 1112] #[{ accessFlags := 18, nameIndex := 13, descriptorIndex := 14, attributes := #[] }, { accessFlags := 18, nameIndex := 17, descriptorIndex := 18, attributes := #[] }, { accessFlags := 2, nameIndex := 21, descriptorIndex := 22, attributes := #[] }, { accessFlags := 2, nameIndex := 25, descriptorIndex := 26, attributes := #[] }, { accessFlags := 26, nameIndex := 1116, descriptorIndex := 1117, attributes := #[] }, { accessFlags := 24, nameIndex := 40, descriptorIndex := 26, attributes := #[] }, { accessFlags := 26, nameIndex := 1101, descriptorIndex := 1102, attributes := #[] }, { accessFlags := 26, nameIndex := 1121, descriptorIndex := 1122, attributes := #[] }, { accessFlags := 25, nameIndex := 599, descriptorIndex := 600, attributes := #[] }, { accessFlags := 24, nameIndex := 1125, descriptorIndex := 18, attributes := #[] }, { accessFlags := 24, nameIndex := 1127, descriptorIndex := 18, attributes := #[] }])
  fields := #[{ name := "value", type := (.array .byte), accessFlags := 18, slot := 0, constantValue := 0 }, { name := "coder", type := .byte, accessFlags := 18, slot := 1, constantValue := 0 }, { name := "hash", type := .int, accessFlags := 2, slot := 2, constantValue := 0 }, { name := "hashIsZero", type := .boolean, accessFlags := 2, slot := 3, constantValue := 0 }, { name := "serialVersionUID", type := .long, accessFlags := 26, slot := 0, constantValue := 0 }, { name := "COMPACT_STRINGS", type := .boolean, accessFlags := 24, slot := 1, constantValue := 0 }, { name := "serialPersistentFields", type := (.array (.object "java/io/ObjectStreamField")), accessFlags := 26, slot := 2, constantValue := 0 }, { name := "REPL", type := .char, accessFlags := 26, slot := 3, constantValue := 0 }, { name := "CASE_INSENSITIVE_ORDER", type := (.object "java/util/Comparator"), accessFlags := 25, slot := 4, constantValue := 0 }, { name := "LATIN1", type := .byte, accessFlags := 24, slot := 5, constantValue := 0 }, { name := "UTF16", type := .byte, accessFlags := 24, slot := 6, constantValue := 0 }]
  methods := #[k7m0, k7m1, k7m2, k7m3, k7m4]
  instanceTypes := #[(.array .byte), .byte, .int, .boolean]
  staticTypes := #[.long, .boolean, (.array (.object "java/io/ObjectStreamField")), .char, (.object "java/util/Comparator"), .byte, .byte]
  resolved := Array.replicate 1451 none
  statics := some 0 }

def pool8 : Array CpInfo := pool [(2, .class_ 4), (1, u "java/lang/Object"), (3, .class_ 10), (1, u "com/example/remodel/remodel/SettingTable"), (0, u "componentKey"), (0, u "Ljava/lang/String;"), (15, u "(Ljava/lang/String;)Ljava/lang/String;"), (34, u "definition"), (0, u "Lcom/example/remodel/remodel/dialect/TableDefinition;"), (19, u "select"), (5, u "selectUser"), (3, u "selectUsers"), (5, u "insert"), (3, u "update"), (3, u "delete"), (0, .methodref 110 111), (0, .class_ 112), (0, .nameAndType 113 114), (0, u "java/util/Objects"), (0, u "requireNonNull"), (0, u "(Ljava/lang/Object;Ljava/lang/String;)Ljava/lang/Object;"), (7, .string 123), (0, u "value"), (0, .methodref 125 126), (0, .class_ 127), (0, .nameAndType 128 129), (0, u "java/lang/String"), (0, u "length"), (0, u "()I"), (78, u "MAX_NAME_LENGTH"), (0, u "I"), (2, u "MAX_VALUE_LENGTH"), (5, u "checkValue")] 55

def k8c0 : Code := { maxStack := 3, maxLocals := 1, code := prog_23_method_3_code, exceptionTable := #[], attributes := #[] }
def k8m0 : Method := { name := "checkValue", desc := "(Ljava/lang/String;)Ljava/lang/String;", sig := { parameters := [(.object "java/lang/String")], returnType := some (.object "java/lang/String") }, accessFlags := 8, code := some k8c0 }
/-- com/example/remodel/remodel/SettingTable -/
def k8 : Class := { plain "com/example/remodel/remodel/SettingTable" (some 0) with
  accessFlags := 48
  interfaces := #[]
  cf := some (fileOf pool8 8 #[] #[{ accessFlags := 8, nameIndex := 218, descriptorIndex := 28, attributes := #[] }] 48 2 #[] #[{ accessFlags := 24, nameIndex := 208, descriptorIndex := 209, attributes := #[] }, { accessFlags := 24, nameIndex := 212, descriptorIndex := 209, attributes := #[] }, { accessFlags := 18, nameIndex := 11, descriptorIndex := 12, attributes := #[] }, { accessFlags := 18, nameIndex := 63, descriptorIndex := 64, attributes := #[] }, { accessFlags := 18, nameIndex := 84, descriptorIndex := 12, attributes := #[] }, { accessFlags := 18, nameIndex := 90, descriptorIndex := 12, attributes := #[] }, { accessFlags := 18, nameIndex := 94, descriptorIndex := 12, attributes := #[] }, { accessFlags := 18, nameIndex := 100, descriptorIndex := 12, attributes := #[] }, { accessFlags := 18, nameIndex := 104, descriptorIndex := 12, attributes := #[] }, { accessFlags := 18, nameIndex := 108, descriptorIndex := 12, attributes := #[] }])
  fields := #[{ name := "MAX_NAME_LENGTH", type := .int, accessFlags := 24, slot := 0, constantValue := 0 }, { name := "MAX_VALUE_LENGTH", type := .int, accessFlags := 24, slot := 1, constantValue := 0 }, { name := "componentKey", type := (.object "java/lang/String"), accessFlags := 18, slot := 0, constantValue := 0 }, { name := "definition", type := (.object "com/example/remodel/remodel/dialect/TableDefinition"), accessFlags := 18, slot := 1, constantValue := 0 }, { name := "select", type := (.object "java/lang/String"), accessFlags := 18, slot := 2, constantValue := 0 }, { name := "selectUser", type := (.object "java/lang/String"), accessFlags := 18, slot := 3, constantValue := 0 }, { name := "selectUsers", type := (.object "java/lang/String"), accessFlags := 18, slot := 4, constantValue := 0 }, { name := "insert", type := (.object "java/lang/String"), accessFlags := 18, slot := 5, constantValue := 0 }, { name := "update", type := (.object "java/lang/String"), accessFlags := 18, slot := 6, constantValue := 0 }, { name := "delete", type := (.object "java/lang/String"), accessFlags := 18, slot := 7, constantValue := 0 }]
  methods := #[k8m0]
  instanceTypes := #[(.object "java/lang/String"), (.object "com/example/remodel/remodel/dialect/TableDefinition"), (.object "java/lang/String"), (.object "java/lang/String"), (.object "java/lang/String"), (.object "java/lang/String"), (.object "java/lang/String"), (.object "java/lang/String")]
  staticTypes := #[.int, .int]
  resolved := Array.replicate 274 none
  statics := none }

def pool9 : Array CpInfo := pool [(2, .class_ 4), (1, u "java/lang/Object"), (0, u "<init>"), (0, u "()V"), (35, .class_ 44), (1, u "java/util/Objects"), (0, u "requireNonNull"), (48, u "(Ljava/lang/Object;Ljava/lang/String;)Ljava/lang/Object;")] 89

def k9m0 : Method := { name := "<init>", desc := "()V", sig := { parameters := [], returnType := none }, accessFlags := 2, code := none }
def k9c1 : Code := { maxStack := 3, maxLocals := 2, code := jdk_31_method_11_code, exceptionTable := #[], attributes := #[] }
def k9m1 : Method := { name := "requireNonNull", desc := "(Ljava/lang/Object;Ljava/lang/String;)Ljava/lang/Object;", sig := { parameters := [(.object "java/lang/Object"), (.object "java/lang/String")], returnType := some (.object "java/lang/Object") }, accessFlags := 9, code := some k9c1 }
/-- java/util/Objects -/
def k9 : Class := { plain "java/util/Objects" (some 0) with
  accessFlags := 49
  interfaces := #[]
  cf := some (fileOf pool9 42 #[] #[{ accessFlags := 2, nameIndex := 5, descriptorIndex := 6, attributes := #[] }, { accessFlags := 9, nameIndex := 45, descriptorIndex := 94, attributes := #[] }] 49 2 #[] #[])
  fields := #[]
  methods := #[k9m0, k9m1]
  instanceTypes := #[]
  staticTypes := #[]
  resolved := Array.replicate 184 none
  statics := none }

def pool10 : Array CpInfo := pool [(6, .class_ 8), (1, u "java/lang/Object"), (0, u "<init>"), (0, u "()V"), (0, .methodref 12 13), (0, .class_ 14), (0, .nameAndType 15 16), (0, u "java/lang/StringUTF16"), (0, u "newBytesLength"), (0, u "(I)I"), (3, .integer 1073741823), (23, .fieldref 12 45), (0, .nameAndType 46 47), (0, u "$assertionsDisabled"), (0, u "Z"), (11, .fieldref 12 60), (0, .nameAndType 61 62), (0, u "HI_BYTE_SHIFT"), (0, u "I"), (0, .fieldref 12 64), (0, .nameAndType 65 62), (0, u "LO_BYTE_SHIFT"), (5, .methodref 12 72), (0, .nameAndType 73 74), (0, u "getChar"), (0, u "([BI)C"), (32, .methodref 12 108), (0, .nameAndType 109 110), (0, u "newBytesFor"), (0, u "(I)[B"), (0, .methodref 12 112), (0, .nameAndType 113 114), (0, u "putChar"), (0, u "([BII)V"), (0, .methodref 12 116), (0, .nameAndType 117 118), (0, u "compress"), (0, u "([CI[BII)I"), (0, .methodref 12 120), (0, .nameAndType 121 122), (0, u "toBytes"), (0, u "([CII)[B"), (138, u "coderFromArrayLen"), (0, u "([BI)B"), (106, .class_ 371), (1, u "java/lang/StringUTF16$LinesSpliterator"), (58, u "MAX_LENGTH"), (196, .class_ 628), (0, u "java/lang/StringUTF16$CodePointsSpliterator"), (0, .class_ 630), (0, u "java/lang/StringUTF16$CharsSpliterator")] 4

def k10m0 : Method := { name := "<init>", desc := "()V", sig := { parameters := [], returnType := none }, accessFlags := 0, code := none }
def k10c1 : Code := { maxStack := 1, maxLocals := 1, code := jdk_52_method_2_code, exceptionTable := #[], attributes := #[] }
def k10m1 : Method := { name := "newBytesFor", desc := "(I)[B", sig := { parameters := [.int], returnType := some (.array .byte) }, accessFlags := 9, code := some k10c1 }
def k10c2 : Code := { maxStack := 4, maxLocals := 1, code := jdk_52_method_3_code, exceptionTable := #[], attributes := #[] }
def k10m2 : Method := { name := "newBytesLength", desc := "(I)I", sig := { parameters := [.int], returnType := some .int }, accessFlags := 9, code := some k10c2 }
def k10c3 : Code := { maxStack := 4, maxLocals := 3, code := jdk_52_method_4_code, exceptionTable := #[], attributes := #[] }
def k10m3 : Method := { name := "putChar", desc := "([BII)V", sig := { parameters := [(.array .byte), .int, .int], returnType := none }, accessFlags := 8, code := some k10c3 }
def k10c4 : Code := { maxStack := 3, maxLocals := 2, code := jdk_52_method_5_code, exceptionTable := #[], attributes := #[] }
def k10m4 : Method := { name := "getChar", desc := "([BI)C", sig := { parameters := [(.array .byte), .int], returnType := some .char }, accessFlags := 8, code := some k10c4 }
def k10c5 : Code := { maxStack := 4, maxLocals := 5, code := jdk_52_method_14_code, exceptionTable := #[], attributes := #[] }
def k10m5 : Method := { name := "toBytes", desc := "([CII)[B", sig := { parameters := [(.array .char), .int, .int], returnType := some (.array .byte) }, accessFlags := 9, code := some k10c5 }
def k10c6 : Code := { maxStack := 2, maxLocals := 2, code := jdk_52_method_15_code, exceptionTable := #[], attributes := #[] }
def k10m6 : Method := { name := "coderFromArrayLen", desc := "([BI)B", sig := { parameters := [(.array .byte), .int], returnType := some .byte }, accessFlags := 8, code := some k10c6 }
def k10c7 : Code := { maxStack := 5, maxLocals := 6, code := jdk_52_method_16_code, exceptionTable := #[], attributes := #[] }
def k10m7 : Method := { name := "compress", desc := "([CII)[B", sig := { parameters := [(.array .char), .int, .int], returnType := some (.array .byte) }, accessFlags := 9, code := some k10c7 }
def k10c8 : Code := { maxStack := 3, maxLocals := 7, code := jdk_52_method_21_code, exceptionTable := #[], attributes := #[] }
def k10m8 : Method := { name := "compress", desc := "([CI[BII)I", sig := { parameters := [(.array .char), .int, (.array .byte), .int, .int], returnType := some .int }, accessFlags := 9, code := some k10c8 }
/-- java/lang/StringUTF16 -/
def k10 : Class := { plain "java/lang/StringUTF16" (some 0) with
  accessFlags := 48
  interfaces := #[]
  cf := some (fileOf pool10 12 #[.nestMembers #[627, 629, 369]] #[{ accessFlags := 0, nameIndex := 9, descriptorIndex := 10, attributes := #[] }, { accessFlags := 9, nameIndex := 109, descriptorIndex := 110, attributes := #[] }, { accessFlags := 9, nameIndex := 15, descriptorIndex := 16, attributes := #[] }, { accessFlags := 8, nameIndex := 113, descriptorIndex := 114, attributes := #[] }, { accessFlags := 8, nameIndex := 73, descriptorIndex := 74, attributes := #[] }, { accessFlags := 9, nameIndex := 121, descriptorIndex := 122, attributes := #[] }, { accessFlags := 8, nameIndex := 261, descriptorIndex := 262, attributes := #[] }, { accessFlags := 9, nameIndex := 117, descriptorIndex := 122, attributes := #[] }, { accessFlags := 9, nameIndex := 117, descriptorIndex := 118, attributes := #[] }] 48 6 #[] #[{ accessFlags := 26, nameIndex := 61, descriptorIndex := 62, attributes := #[] }, { accessFlags := 26, nameIndex := 65, descriptorIndex := 62, attributes := #[] }, { accessFlags := 24, nameIndex := 430, descriptorIndex := 62, attributes := #[] }, { accessFlags := 4120, nameIndex := 46, descriptorIndex := 47, attributes := #[] }])
  fields := #[{ name := "HI_BYTE_SHIFT", type := .int, accessFlags := 26, slot := 0, constantValue := 0 }, { name := "LO_BYTE_SHIFT", type := .int, accessFlags := 26, slot := 1, constantValue := 0 }, { name := "MAX_LENGTH", type := .int, accessFlags := 24, slot := 2, constantValue := 0 }, { name := "$assertionsDisabled", type := .boolean, accessFlags := 4120, slot := 3, constantValue := 0 }]
  methods := #[k10m0, k10m1, k10m2, k10m3, k10m4, k10m5, k10m6, k10m7, k10m8]
  instanceTypes := #[]
  staticTypes := #[.int, .int, .int, .boolean]
  resolved := Array.replicate 635 none
  statics := some 1 }

def pool11 : Array CpInfo := pool [(4, .class_ 6), (1, u "java/lang/Object"), (0, u "<init>"), (0, u "()V"), (5, .class_ 16), (1, u "java/lang/StringLatin1"), (104, u "$assertionsDisabled"), (0, u "Z"), (98, .class_ 223), (1, u "java/lang/StringLatin1$LinesSpliterator"), (166, .class_ 391), (0, u "java/lang/StringLatin1$CharsSpliterator")] 3

def k11m0 : Method := { name := "<init>", desc := "()V", sig := { parameters := [], returnType := none }, accessFlags := 0, code := none }
/-- java/lang/StringLatin1 -/
def k11 : Class := { plain "java/lang/StringLatin1" (some 0) with
  accessFlags := 48
  interfaces := #[]
  cf := some (fileOf pool11 14 #[.nestMembers #[390, 221]] #[{ accessFlags := 0, nameIndex := 7, descriptorIndex := 8, attributes := #[] }] 48 4 #[] #[{ accessFlags := 4120, nameIndex := 121, descriptorIndex := 122, attributes := #[] }])
  fields := #[{ name := "$assertionsDisabled", type := .boolean, accessFlags := 4120, slot := 0, constantValue := 0 }]
  methods := #[k11m0]
  instanceTypes := #[]
  staticTypes := #[.boolean]
  resolved := Array.replicate 395 none
  statics := none }

def pool12 : Array CpInfo := pool [(2, .class_ 4), (1, u "java/lang/Object"), (0, u "<init>"), (0, u "()V"), (17, .class_ 26), (1, u "jdk/internal/util/Preconditions"), (28, .class_ 56), (0, u "jdk/internal/util/Preconditions$4"), (57, .class_ 115), (0, u "jdk/internal/util/Preconditions$1"), (7, u "SIOOBE_FORMATTER"), (0, u "Ljava/util/function/BiFunction;"), (0, .class_ 126), (0, u "jdk/internal/util/Preconditions$2"), (3, u "AIOOBE_FORMATTER"), (0, .class_ 132), (0, u "jdk/internal/util/Preconditions$3"), (3, u "IOOBE_FORMATTER")] 57

def k12m0 : Method := { name := "<init>", desc := "()V", sig := { parameters := [], returnType := none }, accessFlags := 1, code := none }
/-- jdk/internal/util/Preconditions -/
def k12 : Class := { plain "jdk/internal/util/Preconditions" (some 0) with
  accessFlags := 33
  interfaces := #[]
  cf := some (fileOf pool12 24 #[.nestMembers #[55, 131, 125, 114]] #[{ accessFlags := 1, nameIndex := 5, descriptorIndex := 6, attributes := #[] }] 33 2 #[] #[{ accessFlags := 25, nameIndex := 123, descriptorIndex := 124, attributes := #[] }, { accessFlags := 25, nameIndex := 130, descriptorIndex := 124, attributes := #[] }, { accessFlags := 25, nameIndex := 136, descriptorIndex := 124, attributes := #[] }])
  fields := #[{ name := "SIOOBE_FORMATTER", type := (.object "java/util/function/BiFunction"), accessFlags := 25, slot := 0, constantValue := 0 }, { name := "AIOOBE_FORMATTER", type := (.object "java/util/function/BiFunction"), accessFlags := 25, slot := 1, constantValue := 0 }, { name := "IOOBE_FORMATTER", type := (.object "java/util/function/BiFunction"), accessFlags := 25, slot := 2, constantValue := 0 }]
  methods := #[k12m0]
  instanceTypes := #[]
  staticTypes := #[(.object "java/util/function/BiFunction"), (.object "java/util/function/BiFunction"), (.object "java/util/function/BiFunction")]
  resolved := Array.replicate 194 none
  statics := some 2 }

def pool13 : Array CpInfo := pool [(9, u "<init>"), (6, .class_ 18), (1, u "java/lang/Object"), (0, u "()V"), (1, .class_ 23), (1, u "jdk/internal/util/ArraysSupport"), (0, u "LOG2_ARRAY_LONG_INDEX_SCALE"), (0, u "I"), (2, u "U"), (0, u "Ljdk/internal/misc/Unsafe;"), (8, u "BIG_ENDIAN"), (0, u "Z"), (8, u "LOG2_BYTE_BIT_SIZE"), (4, u "LOG2_ARRAY_INT_INDEX_SCALE"), (54, u "JLA"), (0, u "Ljdk/internal/access/JavaLangAccess;"), (11, u "LOG2_ARRAY_BOOLEAN_INDEX_SCALE"), (9, u "LOG2_ARRAY_BYTE_INDEX_SCALE"), (5, u "LOG2_ARRAY_CHAR_INDEX_SCALE"), (5, u "LOG2_ARRAY_SHORT_INDEX_SCALE"), (18, u "LOG2_ARRAY_FLOAT_INDEX_SCALE"), (24, u "LOG2_ARRAY_DOUBLE_INDEX_SCALE"), (89, u "T_BOOLEAN"), (2, u "T_CHAR"), (1, u "T_FLOAT"), (1, u "T_DOUBLE"), (1, u "T_BYTE"), (1, u "T_SHORT"), (1, u "T_INT"), (1, u "T_LONG"), (1, u "SOFT_MAX_ARRAY_LENGTH")] 83

def k13m0 : Method := { name := "<init>", desc := "()V", sig := { parameters := [], returnType := none }, accessFlags := 2, code := none }
/-- jdk/internal/util/ArraysSupport -/
def k13 : Class := { plain "jdk/internal/util/ArraysSupport" (some 0) with
  accessFlags := 33
  interfaces := #[]
  cf := some (fileOf pool13 21 #[] #[{ accessFlags := 2, nameIndex := 9, descriptorIndex := 19, attributes := #[] }] 33 16 #[] #[{ accessFlags := 24, nameIndex := 28, descriptorIndex := 29, attributes := #[] }, { accessFlags := 26, nameIndex := 38, descriptorIndex := 39, attributes := #[] }, { accessFlags := 25, nameIndex := 121, descriptorIndex := 25, attributes := #[] }, { accessFlags := 25, nameIndex := 131, descriptorIndex := 25, attributes := #[] }, { accessFlags := 25, nameIndex := 137, descriptorIndex := 25, attributes := #[] }, { accessFlags := 25, nameIndex := 143, descriptorIndex := 25, attributes := #[] }, { accessFlags := 25, nameIndex := 53, descriptorIndex := 25, attributes := #[] }, { accessFlags := 25, nameIndex := 24, descriptorIndex := 25, attributes := #[] }, { accessFlags := 25, nameIndex := 162, descriptorIndex := 25, attributes := #[] }, { accessFlags := 25, nameIndex := 187, descriptorIndex := 25, attributes := #[] }, { accessFlags := 26, nameIndex := 48, descriptorIndex := 25, attributes := #[] }, { accessFlags := 25, nameIndex := 277, descriptorIndex := 25, attributes := #[] }, { accessFlags := 25, nameIndex := 280, descriptorIndex := 25, attributes := #[] }, { accessFlags := 25, nameIndex := 282, descriptorIndex := 25, attributes := #[] }, { accessFlags := 25, nameIndex := 284, descriptorIndex := 25, attributes := #[] }, { accessFlags := 25, nameIndex := 286, descriptorIndex := 25, attributes := #[] }, { accessFlags := 25, nameIndex := 288, descriptorIndex := 25, attributes := #[] }, { accessFlags := 25, nameIndex := 290, descriptorIndex := 25, attributes := #[] }, { accessFlags := 25, nameIndex := 292, descriptorIndex := 25, attributes := #[] }, { accessFlags := 26, nameIndex := 108, descriptorIndex := 109, attributes := #[] }, { accessFlags := 25, nameIndex := 294, descriptorIndex := 25, attributes := #[] }])
  fields := #[{ name := "U", type := (.object "jdk/internal/misc/Unsafe"), accessFlags := 24, slot := 0, constantValue := 0 }, { name := "BIG_ENDIAN", type := .boolean, accessFlags := 26, slot := 1, constantValue := 0 }, { name := "LOG2_ARRAY_BOOLEAN_INDEX_SCALE", type := .int, accessFlags := 25, slot := 2, constantValue := 0 }, { name := "LOG2_ARRAY_BYTE_INDEX_SCALE", type := .int, accessFlags := 25, slot := 3, constantValue := 0 }, { name := "LOG2_ARRAY_CHAR_INDEX_SCALE", type := .int, accessFlags := 25, slot := 4, constantValue := 0 }, { name := "LOG2_ARRAY_SHORT_INDEX_SCALE", type := .int, accessFlags := 25, slot := 5, constantValue := 0 }, { name := "LOG2_ARRAY_INT_INDEX_SCALE", type := .int, accessFlags := 25, slot := 6, constantValue := 0 }, { name := "LOG2_ARRAY_LONG_INDEX_SCALE", type := .int, accessFlags := 25, slot := 7, constantValue := 0 }, { name := "LOG2_ARRAY_FLOAT_INDEX_SCALE", type := .int, accessFlags := 25, slot := 8, constantValue := 0 }, { name := "LOG2_ARRAY_DOUBLE_INDEX_SCALE", type := .int, accessFlags := 25, slot := 9, constantValue := 0 }, { name := "LOG2_BYTE_BIT_SIZE", type := .int, accessFlags := 26, slot := 10, constantValue := 0 }, { name := "T_BOOLEAN", type := .int, accessFlags := 25, slot := 11, constantValue := 0 }, { name := "T_CHAR", type := .int, accessFlags := 25, slot := 12, constantValue := 0 }, { name := "T_FLOAT", type := .int, accessFlags := 25, slot := 13, constantValue := 0 }, { name := "T_DOUBLE", type := .int, accessFlags := 25, slot := 14, constantValue := 0 }, { name := "T_BYTE", type := .int, accessFlags := 25, slot := 15, constantValue := 0 }, { name := "T_SHORT", type := .int, accessFlags := 25, slot := 16, constantValue := 0 }, { name := "T_INT", type := .int, accessFlags := 25, slot := 17, constantValue := 0 }, { name := "T_LONG", type := .int, accessFlags := 25, slot := 18, constantValue := 0 }, { name := "JLA", type := (.object "jdk/internal/access/JavaLangAccess"), accessFlags := 26, slot := 19, constantValue := 0 }, { name := "SOFT_MAX_ARRAY_LENGTH", type := .int, accessFlags := 25, slot := 20, constantValue := 0 }]
  methods := #[k13m0]
  instanceTypes := #[]
  staticTypes := #[(.object "jdk/internal/misc/Unsafe"), .boolean, .int, .int, .int, .int, .int, .int, .int, .int, .int, .int, .int, .int, .int, .int, .int, .int, .int, (.object "jdk/internal/access/JavaLangAccess"), .int]
  resolved := Array.replicate 378 none
  statics := none }

def pool14 : Array CpInfo := pool [(1, u "java/lang/Cloneable"), (0, .class_ 1), (0, u "java/lang/Object"), (0, .class_ 3)] 3

/-- java/lang/Cloneable -/
def k14 : Class := { plain "java/lang/Cloneable" (some 0) with
  accessFlags := 1537
  interfaces := #[]
  cf := some (fileOf pool14 2 #[] #[] 1537 4 #[] #[])
  fields := #[]
  methods := #[]
  instanceTypes := #[]
  staticTypes := #[]
  resolved := Array.replicate 8 none
  statics := none }

/-- the primitive byte -/
def k15 : Class := { plain "byte" none with kind := .primitive 'B', accessFlags := 0x411 }
/-- [B -/
def k16 : Class := { plain "[B" (some 0) with kind := .array 15 .byte, interfaces := #[14, 2], accessFlags := 1041 }

/-- the primitive char -/
def k17 : Class := { plain "char" none with kind := .primitive 'C', accessFlags := 0x411 }
/-- [C -/
def k18 : Class := { plain "[C" (some 0) with kind := .array 17 .char, interfaces := #[14, 2], accessFlags := 1041 }

/-- the primitive int -/
def k19 : Class := { plain "int" none with kind := .primitive 'I', accessFlags := 0x411 }
/-- [I -/
def k20 : Class := { plain "[I" (some 0) with kind := .array 19 .int, interfaces := #[14, 2], accessFlags := 1041 }

def heap : Heap := #[{ cls := 7, slots := #[.long 0, .int 1, .null, .int 0, .null, .int 0, .int 0], vm := .statics 7 },
  { cls := 10, slots := #[.int 0, .int 8, .int 0, .int 1], vm := .statics 10 },
  { cls := 12, slots := #[.null, .null, .null], vm := .statics 12 }]
def classes : Array Class := #[k0, k1, k2, k3, k4, k5, k6, k7, k8, k9, k10, k11, k12, k13, k14, k15, k16, k17, k18, k19, k20]
def interned : List (Array UInt16 × Addr) := []
def slotsUsed : Nat := 14
def theMethod : MethodId := ⟨1, 1⟩
def args0 : Array Value := #[.int 6, .int 3, .int 1, .int 2]
def aboutOver (below : List Frame) : State where
  vm := { classes := classes, interned := interned.toArray }
  heap := heap
  slotsUsed := slotsUsed
  threads := #[{ frames := .invoking theMethod args0 :: below }]
def below0 : List Frame := [.native { method := ⟨0, 0⟩, args := #[] }]
def about1 : State := aboutOver below0
def p0 : Program := .bare "" "" ""
def e0 : Env := launch0.env 0 0 0
theorem w_frames : about1.frames = Frame.invoking theMethod args0 :: below0 := rfl
set_option maxRecDepth 65536 in
theorem w_args : argsFit about1.vm theMethod args0 = true := by decide +kernel
set_option maxRecDepth 65536 in
theorem w_heap : heapFits about1 = true := by decide +kernel
set_option maxRecDepth 65536 in
theorem w_runnable : about1.curStatus? = some .runnable := by decide +kernel
set_option maxRecDepth 65536 in
theorem w_alone : about1.alone = true := by decide +kernel
set_option maxRecDepth 65536 in
theorem w_named : about1.methodNamed? x = some theMethod := by decide +kernel
set_option maxRecDepth 65536 in
theorem w_hears : about1.hears theMethod below0 = true := by decide +kernel
set_option maxRecDepth 65536 in
theorem w_ripe : about1.ripe theMethod args0 below0 = true := by decide +kernel
theorem w_running : about1.status = .running := rfl
set_option maxRecDepth 65536 in
theorem w_room : about1.hasRoom e0.platform room_1 = true :=
  launch0.hasRoom_least _ room_1 (by decide +kernel) (by decide +kernel) (by decide +kernel) (by decide +kernel) (by decide +kernel) (by decide +kernel)
theorem allAtoms_all (ts : List Jvm.Cond) (a : Array Jvm.Value) (st : Jvm.State) : (allAtoms ts).before a st = ts.all (fun c => c.before a st) := by
  induction ts with
  | nil => rfl
  | cons c t ih =>
    show (Jvm.Cond.and c (allAtoms t)).before a st = _
    rw [Jvm.Cond.before_and, ih, List.all_cons]
def words1 : List Jvm.Cond := Jvm.Cond.code x code maxLocals ret :: tables_1
/-- a 'code' word, met by the world's own term for the bytes: nothing is compared byte by byte -/
theorem code_word {y : MethodName} {bytes : ByteArray} {mx : Nat} {rt : Option FieldType} {a : Array Value} {s : State} {m : MethodId} {meth : Method} {c : Code} (h1 : s.methodNamed? y = some m) (h2 : s.vm.method? m = some meth) (h3 : meth.code = some c) (h4 : c.code = bytes)
    (h5 : (c.maxLocals == mx && c.exceptionTable.isEmpty && decide (c.maxStack ≤ mostOperands) && decide (meth.sig.returnType = rt) && !meth.locks && decide (parseMethodDescriptor y.desc = some meth.sig)) = true) : (Jvm.Cond.code y bytes mx rt).before a s = true := by
  simp only [Bool.and_eq_true, beq_iff_eq, Bool.not_eq_true', decide_eq_true_eq] at h5
  obtain ⟨⟨⟨⟨⟨g1, g2⟩, g3⟩, g4⟩, g5⟩, g6⟩ := h5
  simp [Cond.before, Cond.holds, Cond.value, h1, h2, h3, h4, g1, g2, g3, g4, g5, g6]
def isCode : Jvm.Cond → Bool
  | .code _ _ _ _ => true
  | _ => false
theorem all_split {L : List Jvm.Cond} {P : Jvm.Cond → Bool} (h1 : L.all (fun c => isCode c || P c) = true) (h2 : ∀ c ∈ L.filter isCode, P c = true) : L.all P = true := by
  refine List.all_eq_true.mpr fun c hc => ?_
  have h := List.all_eq_true.mp h1 c hc
  rcases Bool.eq_false_or_eq_true (isCode c) with hi | hi
  · exact h2 c (List.mem_filter.mpr ⟨hc, hi⟩)
  · simpa [hi] using h
set_option maxRecDepth 65536 in
theorem w_c0 : (Jvm.Cond.code x code maxLocals ret).before args0 about1 = true := code_word (m := ⟨1, 1⟩) (meth := k1m1) (c := k1c1) (by decide +kernel) rfl rfl rfl (by decide +kernel)
set_option maxRecDepth 65536 in
theorem w_c1 : (Jvm.Cond.code ({ cls := "java/lang/String", name := "<init>", desc := "([C)V" } : Jvm.MethodName) jdk_42_method_3_code (2 : Nat) (Option.none : Option Jvm.ClassFile.FieldType)).before args0 about1 = true := code_word (m := ⟨7, 1⟩) (meth := k7m1) (c := k7c1) (by decide +kernel) rfl rfl rfl (by decide +kernel)
set_option maxRecDepth 65536 in
theorem w_c2 : (Jvm.Cond.code ({ cls := "java/lang/String", name := "<init>", desc := "([CIILjava/lang/Void;)V" } : Jvm.MethodName) jdk_42_method_149_code (6 : Nat) (Option.none : Option Jvm.ClassFile.FieldType)).before args0 about1 = true := code_word (m := ⟨7, 3⟩) (meth := k7m3) (c := k7c3) (by decide +kernel) rfl rfl rfl (by decide +kernel)
set_option maxRecDepth 65536 in
theorem w_c3 : (Jvm.Cond.code ({ cls := "java/lang/Object", name := "<init>", desc := "()V" } : Jvm.MethodName) object_method_1_code (1 : Nat) (Option.none : Option Jvm.ClassFile.FieldType)).before args0 about1 = true := code_word (m := ⟨0, 0⟩) (meth := k0m0) (c := k0c0) (by decide +kernel) rfl rfl rfl (by decide +kernel)
set_option maxRecDepth 65536 in
theorem w_c4 : (Jvm.Cond.code ({ cls := "com/example/remodel/remodel/SettingTable", name := "checkValue", desc := "(Ljava/lang/String;)Ljava/lang/String;" } : Jvm.MethodName) prog_23_method_3_code (1 : Nat) (Option.some (Jvm.ClassFile.FieldType.object "java/lang/String"))).before args0 about1 = true := code_word (m := ⟨8, 0⟩) (meth := k8m0) (c := k8c0) (by decide +kernel) rfl rfl rfl (by decide +kernel)
set_option maxRecDepth 65536 in
theorem w_c5 : (Jvm.Cond.code ({ cls := "java/util/Objects", name := "requireNonNull", desc := "(Ljava/lang/Object;Ljava/lang/String;)Ljava/lang/Object;" } : Jvm.MethodName) jdk_31_method_11_code (2 : Nat) (Option.some (Jvm.ClassFile.FieldType.object "java/lang/Object"))).before args0 about1 = true := code_word (m := ⟨9, 1⟩) (meth := k9m1) (c := k9c1) (by decide +kernel) rfl rfl rfl (by decide +kernel)
set_option maxRecDepth 65536 in
theorem w_c6 : (Jvm.Cond.code ({ cls := "java/lang/String", name := "length", desc := "()I" } : Jvm.MethodName) jdk_42_method_54_code (1 : Nat) (Option.some Jvm.ClassFile.FieldType.int)).before args0 about1 = true := code_word (m := ⟨7, 2⟩) (meth := k7m2) (c := k7c2) (by decide +kernel) rfl rfl rfl (by decide +kernel)
set_option maxRecDepth 65536 in
theorem w_c7 : (Jvm.Cond.code ({ cls := "java/lang/String", name := "coder", desc := "()B" } : Jvm.MethodName) jdk_42_method_152_code (1 : Nat) (Option.some Jvm.ClassFile.FieldType.byte)).before args0 about1 = true := code_word (m := ⟨7, 4⟩) (meth := k7m4) (c := k7c4) (by decide +kernel) rfl rfl rfl (by decide +kernel)
set_option maxRecDepth 65536 in
theorem w_c8 : (Jvm.Cond.code ({ cls := "java/lang/StringUTF16", name := "compress", desc := "([CII)[B" } : Jvm.MethodName) jdk_52_method_16_code (6 : Nat) (Option.some (Jvm.ClassFile.FieldType.array Jvm.ClassFile.FieldType.byte))).before args0 about1 = true := code_word (m := ⟨10, 7⟩) (meth := k10m7) (c := k10c7) (by decide +kernel) rfl rfl rfl (by decide +kernel)
set_option maxRecDepth 65536 in
theorem w_c9 : (Jvm.Cond.code ({ cls := "java/lang/StringUTF16", name := "compress", desc := "([CI[BII)I" } : Jvm.MethodName) jdk_52_method_21_code (7 : Nat) (Option.some Jvm.ClassFile.FieldType.int)).before args0 about1 = true := code_word (m := ⟨10, 8⟩) (meth := k10m8) (c := k10c8) (by decide +kernel) rfl rfl rfl (by decide +kernel)
set_option maxRecDepth 65536 in
theorem w_c10 : (Jvm.Cond.code ({ cls := "java/lang/StringUTF16", name := "coderFromArrayLen", desc := "([BI)B" } : Jvm.MethodName) jdk_52_method_15_code (2 : Nat) (Option.some Jvm.ClassFile.FieldType.byte)).before args0 about1 = true := code_word (m := ⟨10, 6⟩) (meth := k10m6) (c := k10c6) (by decide +kernel) rfl rfl rfl (by decide +kernel)
set_option maxRecDepth 65536 in
theorem w_c11 : (Jvm.Cond.code ({ cls := "java/lang/StringUTF16", name := "toBytes", desc := "([CII)[B" } : Jvm.MethodName) jdk_52_method_14_code (5 : Nat) (Option.some (Jvm.ClassFile.FieldType.array Jvm.ClassFile.FieldType.byte))).before args0 about1 = true := code_word (m := ⟨10, 5⟩) (meth := k10m5) (c := k10c5) (by decide +kernel) rfl rfl rfl (by decide +kernel)
set_option maxRecDepth 65536 in
theorem w_c12 : (Jvm.Cond.code ({ cls := "java/lang/StringUTF16", name := "newBytesFor", desc := "(I)[B" } : Jvm.MethodName) jdk_52_method_2_code (1 : Nat) (Option.some (Jvm.ClassFile.FieldType.array Jvm.ClassFile.FieldType.byte))).before args0 about1 = true := code_word (m := ⟨10, 1⟩) (meth := k10m1) (c := k10c1) (by decide +kernel) rfl rfl rfl (by decide +kernel)
set_option maxRecDepth 65536 in
theorem w_c13 : (Jvm.Cond.code ({ cls := "java/lang/StringUTF16", name := "newBytesLength", desc := "(I)I" } : Jvm.MethodName) jdk_52_method_3_code (1 : Nat) (Option.some Jvm.ClassFile.FieldType.int)).before args0 about1 = true := code_word (m := ⟨10, 2⟩) (meth := k10m2) (c := k10c2) (by decide +kernel) rfl rfl rfl (by decide +kernel)
set_option maxRecDepth 65536 in
theorem w_c14 : (Jvm.Cond.code ({ cls := "java/lang/StringUTF16", name := "putChar", desc := "([BII)V" } : Jvm.MethodName) jdk_52_method_4_code (3 : Nat) (Option.none : Option Jvm.ClassFile.FieldType)).before args0 about1 = true := code_word (m := ⟨10, 3⟩) (meth := k10m3) (c := k10c3) (by decide +kernel) rfl rfl rfl (by decide +kernel)
set_option maxRecDepth 65536 in
theorem w_c15 : (Jvm.Cond.code ({ cls := "java/lang/StringUTF16", name := "getChar", desc := "([BI)C" } : Jvm.MethodName) jdk_52_method_5_code (2 : Nat) (Option.some Jvm.ClassFile.FieldType.char)).before args0 about1 = true := code_word (m := ⟨10, 4⟩) (meth := k10m4) (c := k10c4) (by decide +kernel) rfl rfl rfl (by decide +kernel)
def codes1 : List Jvm.Cond := [Jvm.Cond.code x code maxLocals ret, Jvm.Cond.code ({ cls := "java/lang/String", name := "<init>", desc := "([C)V" } : Jvm.MethodName) jdk_42_method_3_code (2 : Nat) (Option.none : Option Jvm.ClassFile.FieldType), Jvm.Cond.code ({ cls := "java/lang/String", name := "<init>", desc := "([CIILjava/lang/Void;)V" } : Jvm.MethodName) jdk_42_method_149_code (6 : Nat) (Option.none : Option Jvm.ClassFile.FieldType), Jvm.Cond.code ({ cls := "java/lang/Object", name := "<init>", desc := "()V" } : Jvm.MethodName) object_method_1_code (1 : Nat) (Option.none : Option Jvm.ClassFile.FieldType), Jvm.Cond.code ({ cls := "com/example/remodel/remodel/SettingTable", name := "checkValue", desc := "(Ljava/lang/String;)Ljava/lang/String;" } : Jvm.MethodName) prog_23_method_3_code (1 : Nat) (Option.some (Jvm.ClassFile.FieldType.object "java/lang/String")), Jvm.Cond.code ({ cls := "java/util/Objects", name := "requireNonNull", desc := "(Ljava/lang/Object;Ljava/lang/String;)Ljava/lang/Object;" } : Jvm.MethodName) jdk_31_method_11_code (2 : Nat) (Option.some (Jvm.ClassFile.FieldType.object "java/lang/Object")), Jvm.Cond.code ({ cls := "java/lang/String", name := "length", desc := "()I" } : Jvm.MethodName) jdk_42_method_54_code (1 : Nat) (Option.some Jvm.ClassFile.FieldType.int), Jvm.Cond.code ({ cls := "java/lang/String", name := "coder", desc := "()B" } : Jvm.MethodName) jdk_42_method_152_code (1 : Nat) (Option.some Jvm.ClassFile.FieldType.byte), Jvm.Cond.code ({ cls := "java/lang/StringUTF16", name := "compress", desc := "([CII)[B" } : Jvm.MethodName) jdk_52_method_16_code (6 : Nat) (Option.some (Jvm.ClassFile.FieldType.array Jvm.ClassFile.FieldType.byte)), Jvm.Cond.code ({ cls := "java/lang/StringUTF16", name := "compress", desc := "([CI[BII)I" } : Jvm.MethodName) jdk_52_method_21_code (7 : Nat) (Option.some Jvm.ClassFile.FieldType.int), Jvm.Cond.code ({ cls := "java/lang/StringUTF16", name := "coderFromArrayLen", desc := "([BI)B" } : Jvm.MethodName) jdk_52_method_15_code (2 : Nat) (Option.some Jvm.ClassFile.FieldType.byte), Jvm.Cond.code ({ cls := "java/lang/StringUTF16", name := "toBytes", desc := "([CII)[B" } : Jvm.MethodName) jdk_52_method_14_code (5 : Nat) (Option.some (Jvm.ClassFile.FieldType.array Jvm.ClassFile.FieldType.byte)), Jvm.Cond.code ({ cls := "java/lang/StringUTF16", name := "newBytesFor", desc := "(I)[B" } : Jvm.MethodName) jdk_52_method_2_code (1 : Nat) (Option.some (Jvm.ClassFile.FieldType.array Jvm.ClassFile.FieldType.byte)), Jvm.Cond.code ({ cls := "java/lang/StringUTF16", name := "newBytesLength", desc := "(I)I" } : Jvm.MethodName) jdk_52_method_3_code (1 : Nat) (Option.some Jvm.ClassFile.FieldType.int), Jvm.Cond.code ({ cls := "java/lang/StringUTF16", name := "putChar", desc := "([BII)V" } : Jvm.MethodName) jdk_52_method_4_code (3 : Nat) (Option.none : Option Jvm.ClassFile.FieldType), Jvm.Cond.code ({ cls := "java/lang/StringUTF16", name := "getChar", desc := "([BI)C" } : Jvm.MethodName) jdk_52_method_5_code (2 : Nat) (Option.some Jvm.ClassFile.FieldType.char)]
set_option maxRecDepth 65536 in
theorem codes_eq : words1.filter isCode = codes1 := rfl
theorem w_codes : ∀ c ∈ words1.filter isCode, c.before args0 about1 = true := by
  rw [codes_eq]
  intro c hc
  simp only [codes1, List.mem_cons, List.not_mem_nil, or_false] at hc
  rcases hc with rfl | rfl | rfl | rfl | rfl | rfl | rfl | rfl | rfl | rfl | rfl | rfl | rfl | rfl | rfl | rfl
  · exact w_c0
  · exact w_c1
  · exact w_c2
  · exact w_c3
  · exact w_c4
  · exact w_c5
  · exact w_c6
  · exact w_c7
  · exact w_c8
  · exact w_c9
  · exact w_c10
  · exact w_c11
  · exact w_c12
  · exact w_c13
  · exact w_c14
  · exact w_c15
set_option maxRecDepth 65536 in
theorem w_t1 : (words1.take 24).all (fun c => isCode c || c.before args0 about1) = true := by decide +kernel
set_option maxRecDepth 65536 in
theorem w_t2 : ((words1.drop 24).take 24).all (fun c => isCode c || c.before args0 about1) = true := by decide +kernel
set_option maxRecDepth 65536 in
theorem w_t3 : (((words1.drop 24).drop 24).take 24).all (fun c => isCode c || c.before args0 about1) = true := by decide +kernel
set_option maxRecDepth 65536 in
theorem w_t4 : (((words1.drop 24).drop 24).drop 24).all (fun c => isCode c || c.before args0 about1) = true := by decide +kernel
theorem w_tables : (allAtoms (Jvm.Cond.code x code maxLocals ret :: tables_1)).before args0 about1 = true := by
  rw [allAtoms_all]
  show words1.all (fun c => c.before args0 about1) = true
  refine all_split ?_ w_codes
  rw [← List.take_append_drop 24 words1, List.all_append, w_t1, ← List.take_append_drop 24 (words1.drop 24), List.all_append, w_t2, ← List.take_append_drop 24 ((words1.drop 24).drop 24), List.all_append, w_t3, w_t4]
  rfl
set_option maxRecDepth 65536 in
theorem w_rest : rest_1_c.before args0 about1 = true := by decide +kernel
set_option maxRecDepth 65536 in
theorem w_case : (Jvm.Cond.and given_1 narrow_1).before args0 about1 = true := by decide +kernel
set_option maxRecDepth 65536 in
theorem w_consts : constsHeld consts_1 about1 := Jvm.Lit.constsHeldB_iff.mp (by decide +kernel)
theorem w_applies : (headSpec (Jvm.Cond.code x code maxLocals ret :: tables_1) room_1).applies x e0.platform about1 = true :=
  (Spec.applies_iff w_frames).mpr ⟨w_running, w_runnable, w_alone, w_named, w_hears, w_ripe, w_room, w_tables⟩
theorem atStart : AtStart classFile x code maxLocals ret World_1 tables_1 room_1 Calls_1 rest_1 Pre_1 launch0 p0 e0 about1 theMethod args0 below0 :=
  ⟨lists_1, trivial, launch0.admits_env _ _ _, launch0.least_env, fairChoices_fair.cas, fairChoices_fair.clock, w_frames, w_args, w_heap, w_applies, ⟨w_consts, trivial⟩, w_rest, w_case⟩
end start1
theorem witness_1 : WitnessClaimed_1 := ⟨start1.p0, start1.e0, start1.about1, start1.theMethod, start1.args0, start1.below0, start1.atStart⟩
end Jvm.Pilot.@@N@@
