import JvmDerived
import JvmDerived.Pilot.@@N@@Statement
import JvmDerived.Pilot.@@N@@Code
set_option linter.unusedVariables false
set_option linter.unusedSimpArgs false
namespace Jvm.RoadKit
open Sem ClassFile Op Lib Jvm.Stand Jvm.Free Jvm.LawKit
section New
variable {p : Program} {l : Launch} {e : Env} {R : Room} {s : State} {m : MethodId} {args : Array Value} {below : List Frame} {meth : Method} {c : Code} {T : State} {locs : List Loc} {cells slots : Nat}
theorem retI (X : Stand p l e R s m args below meth c T locs cells slots) (hx : p.tables.exec = Jvm.exec) {pc : Nat} {Ls : Array Slot} {z : Int32} {rest : List Value} (hret : meth.sig.returnType = some .int) (hd : decode c.code pc = .ok (.ireturn, 1)) {fs : List Frame}
    (hl : ∀ (f : JFrame) (acts : List Action), f.method = m → f.locked = none → f.entered = [] → (doReturn e (T.setTop f) acts (some (.int z))).1 = T.setFrames fs) : Steps p.tables e below (T.setTop (mkF m pc Ls (.int z :: rest))) (T.setFrames fs) := by
  have hm' : T.vm.method? m = some meth := X.method'
  have hn : narrow .int (.int z) = .int z := rfl
  show Steps p.tables e below (T.setTop { method := m, pc := pc, locals := Ls, stack := _ :: rest, locked := none }) _
  jvm_step X.here [X.here.top, hx, hd, hm', hret, hn]
  first | (intro acts; rw [hl _ acts rfl rfl rfl]) | rw [hl _ _ rfl rfl rfl]
  exact Steps.refl _
end New
end Jvm.RoadKit
namespace Jvm.Pilot.@@N@@
open Jvm Jvm.ClassFile Sem Op Lib Jvm.Free Jvm.Stand Jvm.LawKit Jvm.RoadKit Bundle Jvm.Pilot.@@N@@.Jvm.D
def Rch (p : Program) (e : Env) (below : List Frame) (S0 T : State) (g : JFrame) : Prop := ∀ t, Steps p.tables e below (T.setTop g) t → Steps p.tables e below S0 t
theorem own_le {Z : State} {n0 : Nat} {h : Heap} (O : Old Z n0 h) : n0 ≤ h.size := O.1 ▸ O.2.1
theorem own_ge {Z : State} {n0 : Nat} {h : Heap} {x : Nat} (O : Old Z n0 h) (g : h.size ≤ x) : n0 ≤ x := Nat.le_trans (own_le O) g
theorem own_ne {y x k : Nat} (h : y < k) (g : k ≤ x) : y ≠ x := Nat.ne_of_lt (Nat.lt_of_lt_of_le h g)
section Own
variable {p : Program} {l : Launch} {e : Env} {R : Room} {s : State} {m : MethodId} {args : Array Value} {below : List Frame} {meth : Method} {c : Code} {T : State} {locs : List Loc} {cells slots : Nat}
def Like (X : Stand p l e R s m args below meth c T locs cells slots) (T' : State) : Prop := Stand p l e R s m args below meth c T' locs cells slots
theorem Like.out {X : Stand p l e R s m args below meth c T locs cells slots} {T' : State} (h : Like X T') : Stand p l e R s m args below meth c T' locs cells slots := h
end Own
theorem own_eqi {args : Array Value} {first s : State} {o : Option Outcome} {idx : List Nat} {a : Term} {n : Int32} (h : (Jvm.Cond.eq a (Jvm.Term.int n)).value args first o s idx = some true) : a.eval args first o idx s = some (.int n) := by
  simp only [Cond.value, Term.int_eval] at h
  cases ha : a.eval args first o idx s with
  | none => simp [ha] at h
  | some x => cases x <;> simp [ha] at h ⊢; exact h
theorem own_eqr {args : Array Value} {first s : State} {o : Option Outcome} {idx : List Nat} {a b : Term} {w : Addr} (eb : b.eval args first o idx s = some (.ref w)) (h : (Jvm.Cond.eq a b).value args first o s idx = some true) : a.eval args first o idx s = some (.ref w) := by
  simp only [Cond.value, eb] at h
  cases ha : a.eval args first o idx s with
  | none => simp [ha] at h
  | some x => cases x <;> simp [ha] at h ⊢; exact h
theorem own_irr (x : Int32) : ¬ x < x := by rw [Int32.lt_iff_toInt_lt]; omega
theorem own_ext {h h' : Heap} (K : Keep h h' []) : Ext h h' := ⟨K.1, fun a c q => K.2.1 a c q nin0⟩
theorem own_eql {args : Array Value} {first s : State} {o : Option Outcome} {idx : List Nat} {a : Term} {n : Int64} (h : (Jvm.Cond.eq a (Jvm.Term.long n)).value args first o s idx = some true) : a.eval args first o idx s = some (.long n) := by
  simp only [Cond.value, long_at] at h
  cases ha : a.eval args first o idx s with
  | none => simp [ha] at h
  | some x => cases x <;> simp [ha] at h ⊢; exact h
def Q_rmN (Z : State) (a1 : Addr) (a2 : Addr) (a3 : Addr) (h0 : Heap) (n0 : Nat) (v : Option Value) (h : Heap) (L : List Loc) : Prop := v = none ∧ Fr n0 L ∧ Keep h0 h [a1] ∧ Fld Z h a1 "com/example/lumenplan/lumenplan/network/RankedPath" "km" "Ljava/math/BigDecimal;" (.ref a2) ∧ Fld Z h a1 "com/example/lumenplan/lumenplan/network/RankedPath" "nodes" "[I" (.ref a3)
theorem ef_2 (m : MethodId) (x0 : Addr) (x1 : Addr) (x2 : Addr) : entryFrame m #[(.ref x0), (.ref x1), (.ref x2)] 3 = mkF m 0 #[.val (.ref x0), .val (.ref x1), .val (.ref x2)] [] := by first | (simp [entryFrame, mkF, argsToLocals, Value.category]; done) | rfl
theorem pn_RankedPath : plainName "com/example/lumenplan/lumenplan/network/RankedPath" = true := by first | (simp [plainName, overriddenIn]; done) | decide +kernel
theorem d2_0 : decode prog_24_method_4_code 0 = .ok (.aload_n 0, 1) := by decide +kernel
theorem d2_1 : decode prog_24_method_4_code 1 = .ok (.invokespecial 57, 3) := by decide +kernel
theorem d2_4 : decode prog_24_method_4_code 4 = .ok (.aload_n 0, 1) := by decide +kernel
theorem d2_5 : decode prog_24_method_4_code 5 = .ok (.aload_n 1, 1) := by decide +kernel
theorem d2_6 : decode prog_24_method_4_code 6 = .ok (.putfield 60, 3) := by decide +kernel
theorem d2_9 : decode prog_24_method_4_code 9 = .ok (.aload_n 0, 1) := by decide +kernel
theorem d2_10 : decode prog_24_method_4_code 10 = .ok (.aload_n 2, 1) := by decide +kernel
theorem d2_11 : decode prog_24_method_4_code 11 = .ok (.putfield 63, 3) := by decide +kernel
theorem d2_14 : decode prog_24_method_4_code 14 = .ok (.return_, 1) := by decide +kernel
set_option maxRecDepth 65536 in
set_option maxHeartbeats 40000000 in
theorem rmN (l : Launch) (Z : State) (a0 : Array Value) (hw : ∀ d ∈ tables_1, d.before a0 Z = true) (ws : List Jvm.Cond) (a1 : Addr) (a2 : Addr) (a3 : Addr) (h0 : Heap) (n0 : Nat) (O0 : Old Z n0 h0) (ge_a1 : n0 ≤ a1) (E_a1 : Exa Z h0 a1 "com/example/lumenplan/lumenplan/network/RankedPath") (F_a1_km : Fld Z h0 a1 "com/example/lumenplan/lumenplan/network/RankedPath" "km" "Ljava/math/BigDecimal;" .null) (F_a1_nodes : Fld Z h0 a1 "com/example/lumenplan/lumenplan/network/RankedPath" "nodes" "[I" .null) :
    MetFree l (⟨"com/example/lumenplan/lumenplan/network/RankedPath", "<init>", "(Ljava/math/BigDecimal;[I)V"⟩ : MethodName) (head1 (Jvm.Cond.code (⟨"com/example/lumenplan/lumenplan/network/RankedPath", "<init>", "(Ljava/math/BigDecimal;[I)V"⟩ : MethodName) prog_24_method_4_code 3 none :: ws) ({ frames := 1, cells := 0, slots := 0, locals := 24 } : Room)) (fun a U => a = #[(.ref a1), (.ref a2), (.ref a3)] ∧ Z.Warmed39 U.vm ∧ U.heap = h0) (fun _ _ _ _ _ => True) (fun _ U o U' => ∃ v L, o = .returned v ∧ Q_rmN Z a1 a2 a3 h0 n0 v U'.heap L ∧ FrameEnd U o U' L ({ frames := 1, cells := 0, slots := 0, locals := 24 } : Room).cells ({ frames := 1, cells := 0, slots := 0, locals := 24 } : Room).slots) := by
  refine MetFree.of_bodySF (plainFor_of_name pn_RankedPath) hisR ?_
  intro p e s m args below meth c s₁ Bd hml0 hP hK
  obtain ⟨rfl, hZ, hh⟩ := hP
  have hx := Bd.exec
  have hby := Bd.bytes
  have hml : c.maxLocals = 3 := hml0
  have hown : s.vm.findClass "com/example/lumenplan/lumenplan/network/RankedPath" = some m.cls := findClass_of_methodNamed Bd.named
  have hnm := (name_of_methodNamed Bd.named Bd.method).1
  have X0 : Stand p l e ({ frames := 1, cells := 0, slots := 0, locals := 24 } : Room) s m #[(.ref a1), (.ref a2), (.ref a3)] below meth c s₁ [] 0 0 := Stand.of_body Bd
  have e0 : s₁.heap = h0 := by rw [← hh, Bd.state]; rfl
  have N0 := Fr.nil n0
  obtain ⟨S0, hS0⟩ : ∃ z, z = s₁.setTop (entryFrame m #[(.ref a1), (.ref a2), (.ref a3)] 3) := ⟨_, rfl⟩
  have k0 : Rch p e below S0 s₁ (mkF m 0 #[.val (.ref a1), .val (.ref a2), .val (.ref a3)] []) := fun t k => hS0 ▸ castTop (ef_2 m a1 a2 a3) k
  have K0 : Keep h0 h0 [a1] := Keep.refl h0 _
  have k2 : Rch p e below S0 s₁ (mkF m 1 #[.val (.ref a1), .val (.ref a2), .val (.ref a3)] [(.ref a1)]) := fun t h => k0 t (by
      show Steps p.tables e below (s₁.setTop (mkF m 0 #[.val (.ref a1), .val (.ref a2), .val (.ref a3)] [])) _
      refine XS.aloadN X0.here hx rfl (hb hby d2_0) rfl rfl ?_
      show Steps p.tables e below (s₁.setTop (mkF m 1 #[.val (.ref a1), .val (.ref a2), .val (.ref a3)] [(.ref a1)])) _
      exact h)
  obtain ⟨T1, X1, e1, st1⟩ := initO X0 hx hZ hown (hw _ (List.mem_of_getElem? (i := 12) rfl)) (hw _ (List.mem_of_getElem? (i := 13) rfl)) (hw _ (List.mem_of_getElem? (i := 14) rfl)) e0 (g := (mkF m 1 #[.val (.ref a1), .val (.ref a2), .val (.ref a3)] [(.ref a1)])) rfl (by rw [hml]; rfl) rfl (hb hby d2_1) (by decide) (W := 0) (by show 2 * 0 + _ ≤ _; exact Nat.le_of_eq rfl) (by decide)
  have k3 : Rch p e below S0 T1 (mkF m 4 #[.val (.ref a1), .val (.ref a2), .val (.ref a3)] []) := fun t h => k2 t (st1 t h)
  have k5 : Rch p e below S0 T1 (mkF m 6 #[.val (.ref a1), .val (.ref a2), .val (.ref a3)] [(.ref a2), (.ref a1)]) := fun t h => k3 t (by
      show Steps p.tables e below (T1.setTop (mkF m 4 #[.val (.ref a1), .val (.ref a2), .val (.ref a3)] [])) _
      refine XS.aloadN X1.here hx rfl (hb hby d2_4) rfl rfl ?_
      show Steps p.tables e below (T1.setTop (mkF m 5 #[.val (.ref a1), .val (.ref a2), .val (.ref a3)] [(.ref a1)])) _
      refine XS.aloadN X1.here hx rfl (hb hby d2_5) rfl rfl ?_
      show Steps p.tables e below (T1.setTop (mkF m 6 #[.val (.ref a1), .val (.ref a2), .val (.ref a3)] [(.ref a2), (.ref a1)])) _
      exact h)
  obtain ⟨T4, h4, X4, e4, W4, st4⟩ := putF X1 hx hZ hown (host := "") (Or.inl (hw _ (List.mem_of_getElem? (i := 15) rfl))) Via.refl e1 F_a1_km E_a1 (Or.inr ⟨(hw _ (List.mem_of_getElem? (i := 16) rfl)), rfl, hnm⟩) (hw _ (List.mem_of_getElem? (i := 5) rfl)) (ty := (.object "java/math/BigDecimal")) (by decide) rfl rfl (g := (mkF m 6 #[.val (.ref a1), .val (.ref a2), .val (.ref a3)] [(.ref a2), (.ref a1)])) rfl rfl (hb hby d2_6)
  have k6 : Rch p e below S0 T4 (mkF m 9 #[.val (.ref a1), .val (.ref a2), .val (.ref a3)] []) := fun t h => k5 t (st4 t h)
  have N4 := Fr.snoc X4 N0 ge_a1
  replace F_a1_km := F_a1_km.same W4
  have O7 := O0.wr W4 ge_a1
  have K8 := K0.wr W4 (Or.inl (List.mem_of_getElem? (i := 0) rfl))
  replace E_a1 := E_a1.wr W4
  replace F_a1_nodes := F_a1_nodes.other W4 (Or.inr (slot_ne (Or.inr (hw _ (List.mem_of_getElem? (i := 18) rfl))) (Or.inr (hw _ (List.mem_of_getElem? (i := 16) rfl))) (by decide) (t := (.array .int)) (t' := (.object "java/math/BigDecimal")) (by decide) (by decide)))
  have k10 : Rch p e below S0 T4 (mkF m 11 #[.val (.ref a1), .val (.ref a2), .val (.ref a3)] [(.ref a3), (.ref a1)]) := fun t h => k6 t (by
      show Steps p.tables e below (T4.setTop (mkF m 9 #[.val (.ref a1), .val (.ref a2), .val (.ref a3)] [])) _
      refine XS.aloadN X4.here hx rfl (hb hby d2_9) rfl rfl ?_
      show Steps p.tables e below (T4.setTop (mkF m 10 #[.val (.ref a1), .val (.ref a2), .val (.ref a3)] [(.ref a1)])) _
      refine XS.aloadN X4.here hx rfl (hb hby d2_10) rfl rfl ?_
      show Steps p.tables e below (T4.setTop (mkF m 11 #[.val (.ref a1), .val (.ref a2), .val (.ref a3)] [(.ref a3), (.ref a1)])) _
      exact h)
  obtain ⟨T9, h9, X9, e9, W9, st9⟩ := putF X4 hx hZ hown (host := "") (Or.inl (hw _ (List.mem_of_getElem? (i := 17) rfl))) Via.refl e4 F_a1_nodes E_a1 (Or.inr ⟨(hw _ (List.mem_of_getElem? (i := 18) rfl)), rfl, hnm⟩) (hw _ (List.mem_of_getElem? (i := 5) rfl)) (ty := (.array .int)) (by decide) rfl rfl (g := (mkF m 11 #[.val (.ref a1), .val (.ref a2), .val (.ref a3)] [(.ref a3), (.ref a1)])) rfl rfl (hb hby d2_11)
  have k11 : Rch p e below S0 T9 (mkF m 14 #[.val (.ref a1), .val (.ref a2), .val (.ref a3)] []) := fun t h => k10 t (st9 t h)
  have N9 := Fr.snoc X9 N4 ge_a1
  replace F_a1_nodes := F_a1_nodes.same W9
  have O12 := O7.wr W9 ge_a1
  have K13 := K8.wr W9 (Or.inl (List.mem_of_getElem? (i := 0) rfl))
  replace E_a1 := E_a1.wr W9
  replace F_a1_km := F_a1_km.other W9 (Or.inr (slot_ne (Or.inr (hw _ (List.mem_of_getElem? (i := 16) rfl))) (Or.inr (hw _ (List.mem_of_getElem? (i := 18) rfl))) (by decide) (t := (.object "java/math/BigDecimal")) (t' := (.array .int)) (by decide) (by decide)))
  obtain ⟨fs, hr, hrun, hended, hW, hsame⟩ := X9.leave (v := none) (fun _ => rfl)
  refine ⟨_, _, ?_, hrun, hended, _, _, rfl, ?_, ⟨_, rfl⟩, hW, hsame.mono (by decide) (by decide)⟩
  · rw [← hS0]
    refine k11 _ ?_
    show Steps p.tables e below (T9.setTop (mkF m 14 #[.val (.ref a1), .val (.ref a2), .val (.ref a3)] [])) _
    exact X9.returnOut hx Bd.returns (hb hby d2_14) hr
  · show Q_rmN Z a1 a2 a3 h0 n0 _ T9.heap _
    rw [e9]
    exact ⟨rfl, N9, K13, F_a1_km, F_a1_nodes⟩
def Q_rmT (Z : State) (p1 : Int32) (wZ : Addr) (h0 : Heap) (n0 : Nat) (v : Option Value) (h : Heap) (L : List Loc) : Prop := ∃ x b kb, v = some (.ref x) ∧ Fr n0 L ∧ Ext h0 h ∧ h0.size ≤ x ∧ h0.size ≤ b ∧ Exa Z h x "com/example/lumenplan/lumenplan/network/RankedPath" ∧ Fld Z h x "com/example/lumenplan/lumenplan/network/RankedPath" "km" "Ljava/math/BigDecimal;" (.ref wZ) ∧ Fld Z h x "com/example/lumenplan/lumenplan/network/RankedPath" "nodes" "[I" (.ref b) ∧ Arv Z h b kb .int (1 : Int32) [.int p1] (.int (0 : Int32))
theorem ef_1 (m : MethodId) (x0 : Int32) : entryFrame m #[(.int x0)] 1 = mkF m 0 #[.val (.int x0)] [] := by first | (simp [entryFrame, mkF, argsToLocals, Value.category]; done) | rfl
theorem d1_0 : decode prog_24_method_1_code 0 = .ok (.new 1, 3) := by decide +kernel
theorem d1_3 : decode prog_24_method_1_code 3 = .ok (.dup, 1) := by decide +kernel
theorem d1_4 : decode prog_24_method_1_code 4 = .ok (.getstatic 3, 3) := by decide +kernel
theorem d1_7 : decode prog_24_method_1_code 7 = .ok (.iconst 1, 1) := by decide +kernel
theorem d1_8 : decode prog_24_method_1_code 8 = .ok (.newarray .int, 2) := by decide +kernel
theorem d1_10 : decode prog_24_method_1_code 10 = .ok (.dup, 1) := by decide +kernel
theorem d1_11 : decode prog_24_method_1_code 11 = .ok (.iconst 0, 1) := by decide +kernel
theorem d1_12 : decode prog_24_method_1_code 12 = .ok (.iload_n 0, 1) := by decide +kernel
theorem d1_13 : decode prog_24_method_1_code 13 = .ok (.iastore, 1) := by decide +kernel
theorem pd_1 : parseMethodDescriptor "(Ljava/math/BigDecimal;[I)V" = some ⟨[(.object "java/math/BigDecimal"), (.array .int)], none⟩ := by decide +kernel
theorem d1_14 : decode prog_24_method_1_code 14 = .ok (.invokespecial 9, 3) := by decide +kernel
theorem d1_17 : decode prog_24_method_1_code 17 = .ok (.areturn, 1) := by decide +kernel
set_option maxRecDepth 65536 in
set_option maxHeartbeats 40000000 in
theorem rmT (l : Launch) (Z : State) (a0 : Array Value) (hw : ∀ d ∈ tables_1, d.before a0 Z = true) (ws : List Jvm.Cond) (p1 : Int32) (wZ : Addr) (h0 : Heap) (n0 : Nat) (O0 : Old Z n0 h0) (SZ : Sta Z Z.heap "java/math/BigDecimal" "ZERO" "Ljava/math/BigDecimal;" (.ref wZ)) :
    MetFree l (⟨"com/example/lumenplan/lumenplan/network/RankedPath", "at", "(I)Lcom/example/lumenplan/lumenplan/network/RankedPath;"⟩ : MethodName) (head1 (Jvm.Cond.code (⟨"com/example/lumenplan/lumenplan/network/RankedPath", "at", "(I)Lcom/example/lumenplan/lumenplan/network/RankedPath;"⟩ : MethodName) prog_24_method_1_code 1 (some (.object "com/example/lumenplan/lumenplan/network/RankedPath")) :: ws) ({ frames := 2, cells := 2, slots := 3, locals := 50 } : Room)) (fun a U => a = #[(.int p1)] ∧ Z.Warmed39 U.vm ∧ U.heap = h0) (fun _ _ _ _ _ => True) (fun _ U o U' => ∃ v L, o = .returned v ∧ Q_rmT Z p1 wZ h0 n0 v U'.heap L ∧ FrameEnd U o U' L ({ frames := 2, cells := 2, slots := 3, locals := 50 } : Room).cells ({ frames := 2, cells := 2, slots := 3, locals := 50 } : Room).slots) := by
  refine MetFree.of_bodySF (plainFor_of_name pn_RankedPath) hisR ?_
  intro p e s m args below meth c s₁ Bd hml0 hP hK
  obtain ⟨rfl, hZ, hh⟩ := hP
  have hx := Bd.exec
  have hby := Bd.bytes
  have hml : c.maxLocals = 1 := hml0
  have hown : s.vm.findClass "com/example/lumenplan/lumenplan/network/RankedPath" = some m.cls := findClass_of_methodNamed Bd.named
  have hnm := (name_of_methodNamed Bd.named Bd.method).1
  have X0 : Stand p l e ({ frames := 2, cells := 2, slots := 3, locals := 50 } : Room) s m #[(.int p1)] below meth c s₁ [] 0 0 := Stand.of_body Bd
  have e0 : s₁.heap = h0 := by rw [← hh, Bd.state]; rfl
  have N0 := Fr.nil n0
  obtain ⟨S0, hS0⟩ : ∃ z, z = s₁.setTop (entryFrame m #[(.int p1)] 1) := ⟨_, rfl⟩
  have k0 : Rch p e below S0 s₁ (mkF m 0 #[.val (.int p1)] []) := fun t k => hS0 ▸ castTop (ef_1 m p1) k
  have K0 : Keep h0 h0 [] := Keep.refl h0 _
  obtain ⟨T14, h14, X14, e14, E14, A14, D14, -, st14⟩ := newO X0 hx hZ hown (hw _ (List.mem_of_getElem? (i := 4) rfl)) (hw _ (List.mem_of_getElem? (i := 5) rfl)) (hw _ (List.mem_of_getElem? (i := 2) rfl)) e0 (g := (mkF m 0 #[.val (.int p1)] [])) rfl (hb hby d1_0) (by decide) (by decide)
  obtain ⟨b14, g14⟩ : ∃ z, z = h0.size := ⟨_, rfl⟩
  rw [← g14] at A14 D14 st14
  have k15 : Rch p e below S0 T14 (mkF m 3 #[.val (.int p1)] [(.ref b14)]) := fun t h => k0 t (st14 t h)
  have ge_b14 : n0 ≤ b14 := own_ge O0 (Nat.le_of_eq g14.symm)
  have sz_b14 : h0.size ≤ b14 := Nat.le_trans K0.1 (Nat.le_of_eq g14.symm)
  have O16 := O0.ext E14
  have K17 := K0.ext E14
  have E_b14 := A14
  have F_b14_km : Fld Z h14 b14 "com/example/lumenplan/lumenplan/network/RankedPath" "km" "Ljava/math/BigDecimal;" .null := D14 (Or.inr (hw _ (List.mem_of_getElem? (i := 16) rfl))) (ty := (.object "java/math/BigDecimal")) (by decide)
  have F_b14_nodes : Fld Z h14 b14 "com/example/lumenplan/lumenplan/network/RankedPath" "nodes" "[I" .null := D14 (Or.inr (hw _ (List.mem_of_getElem? (i := 18) rfl))) (ty := (.array .int)) (by decide)
  have k19 : Rch p e below S0 T14 (mkF m 4 #[.val (.int p1)] [(.ref b14), (.ref b14)]) := fun t h => k15 t (by
      show Steps p.tables e below (T14.setTop (mkF m 3 #[.val (.int p1)] [(.ref b14)])) _
      refine XS.dup X14.here hx rfl (hb hby d1_3) rfl rfl ?_
      show Steps p.tables e below (T14.setTop (mkF m 4 #[.val (.int p1)] [(.ref b14), (.ref b14)])) _
      exact h)
  obtain ⟨T18, X18, e18, st18⟩ := getS2 X14 hx hZ hown (host := "") (Or.inl (hw _ (List.mem_of_getElem? (i := 6) rfl))) Via.refl e14 (SZ.ext O16.2) (g := (mkF m 4 #[.val (.int p1)] [(.ref b14), (.ref b14)])) rfl (hb hby d1_4)
  have k20 : Rch p e below S0 T18 (mkF m 7 #[.val (.int p1)] [(.ref wZ), (.ref b14), (.ref b14)]) := fun t h => k19 t (st18 t h)
  have k22 : Rch p e below S0 T18 (mkF m 8 #[.val (.int p1)] [(.int (1 : Int32)), (.ref wZ), (.ref b14), (.ref b14)]) := fun t h => k20 t (by
      show Steps p.tables e below (T18.setTop (mkF m 7 #[.val (.int p1)] [(.ref wZ), (.ref b14), (.ref b14)])) _
      refine XS.iconst X18.here hx rfl (hb hby d1_7) ?_
      show Steps p.tables e below (T18.setTop (mkF m 8 #[.val (.int p1)] [(.int (1 : Int32)), (.ref wZ), (.ref b14), (.ref b14)])) _
      exact h)
  obtain ⟨T21, h21, k21, X21, e21, E21, A21, st21⟩ := newP X18 hx hZ (hw _ (List.mem_of_getElem? (i := 8) rfl)) e18 (g := (mkF m 8 #[.val (.int p1)] [(.int (1 : Int32)), (.ref wZ), (.ref b14), (.ref b14)])) rfl (hb hby d1_8) rfl (by decide) (cap := 1) (by decide) (by decide) (by decide) (by decide)
  obtain ⟨b21, g21⟩ : ∃ z, z = h14.size := ⟨_, rfl⟩
  rw [← g21] at A21 st21
  have k23 : Rch p e below S0 T21 (mkF m 10 #[.val (.int p1)] [(.ref b21), (.ref wZ), (.ref b14), (.ref b14)]) := fun t h => k22 t (st21 t h)
  have ne_b14_b21 : b14 ≠ b21 := own_ne E_b14.lt (Nat.le_of_eq g21.symm)
  have ge_b21 : n0 ≤ b21 := own_ge O16 (Nat.le_of_eq g21.symm)
  have sz_b21 : h0.size ≤ b21 := Nat.le_trans K17.1 (Nat.le_of_eq g21.symm)
  have O24 := O16.ext E21
  have K25 := K17.ext E21
  replace E_b14 := E_b14.ext E21
  replace F_b14_km := F_b14_km.ext E21
  replace F_b14_nodes := F_b14_nodes.ext E21
  have V_b21 : Arv Z h21 b21 k21 .int (1 : Int32) [(.int (0 : Int32))] (.int (0 : Int32)) := (Arv.new A21 (by decide)).pad (pad_rep [] (.int (0 : Int32)) 1)
  have k27 : Rch p e below S0 T21 (mkF m 13 #[.val (.int p1)] [(.int p1), (.int (0 : Int32)), (.ref b21), (.ref b21), (.ref wZ), (.ref b14), (.ref b14)]) := fun t h => k23 t (by
      show Steps p.tables e below (T21.setTop (mkF m 10 #[.val (.int p1)] [(.ref b21), (.ref wZ), (.ref b14), (.ref b14)])) _
      refine XS.dup X21.here hx rfl (hb hby d1_10) rfl rfl ?_
      show Steps p.tables e below (T21.setTop (mkF m 11 #[.val (.int p1)] [(.ref b21), (.ref b21), (.ref wZ), (.ref b14), (.ref b14)])) _
      refine XS.iconst X21.here hx rfl (hb hby d1_11) ?_
      show Steps p.tables e below (T21.setTop (mkF m 12 #[.val (.int p1)] [(.int (0 : Int32)), (.ref b21), (.ref b21), (.ref wZ), (.ref b14), (.ref b14)])) _
      refine XS.iloadN X21.here hx rfl (hb hby d1_12) rfl ?_
      show Steps p.tables e below (T21.setTop (mkF m 13 #[.val (.int p1)] [(.int p1), (.int (0 : Int32)), (.ref b21), (.ref b21), (.ref wZ), (.ref b14), (.ref b14)])) _
      exact h)
  obtain ⟨cl26, Ar26, q26, Sz26, Ng26, Hs26, G26⟩ := id V_b21
  have hin26 : ¬ ((0 : Int32) < 0 ∨ cl26.slots.size ≤ ((0 : Int32)).toNatClampNeg) := inb_of Sz26 ⟨by decide, by decide⟩
  obtain ⟨T26, h26, X26, e26, W26, st26⟩ := stI X21 hx hZ e21 Ar26 (j := (0 : Int32)) hin26 (g := (mkF m 13 #[.val (.int p1)] [(.int p1), (.int (0 : Int32)), (.ref b21), (.ref b21), (.ref wZ), (.ref b14), (.ref b14)])) rfl rfl (hb hby d1_13)
  have k28 : Rch p e below S0 T26 (mkF m 14 #[.val (.int p1)] [(.ref b21), (.ref wZ), (.ref b14), (.ref b14)]) := fun t h => k27 t (st26 t h)
  have N26 := Fr.snoc X26 N0 ge_b21
  have V_b21' := Arv.set Ar26 q26 Sz26 Ng26 Hs26 G26 rfl W26 0 rfl (Nat.le_of_ble_eq_true rfl)
  replace V_b21 : Arv Z h26 b21 k21 .int (1 : Int32) [(.int p1)] (.int (0 : Int32)) := V_b21'
  have O29 := O24.wr W26 ge_b21
  have K30 := K25.wr W26 (Or.inr sz_b21)
  replace E_b14 := E_b14.wr W26
  replace F_b14_km := F_b14_km.other W26 (Or.inl ne_b14_b21)
  replace F_b14_nodes := F_b14_nodes.other W26 (Or.inl ne_b14_b21)
  obtain ⟨_, _, ⟨T31, L31, kk31, n31⟩, -, X31, ⟨Lc31, hQ31, l31, y31, z31⟩, st31⟩ := X26.specialBack hx (y := (⟨"com/example/lumenplan/lumenplan/network/RankedPath", "<init>", "(Ljava/math/BigDecimal;[I)V"⟩ : MethodName)) rfl hown (mvT hZ (hw _ (List.mem_of_getElem? (i := 9) rfl))) (mvT hZ (hw _ (List.mem_of_getElem? (i := 10) rfl))) (mvT hZ (hw _ (List.mem_of_getElem? (i := 11) rfl))) (by decide) (backOf (W := 1) (rmN l Z a0 hw [] b14 wZ b21  h26 n0 O29 ge_b14 E_b14 F_b14_km F_b14_nodes) hZ (hw _ (List.mem_of_getElem? (i := 11) rfl)) (hw _ (List.mem_of_getElem? (i := 2) rfl)) (by decide) (by decide)) (g := (mkF m 14 #[.val (.int p1)] [(.ref b21), (.ref wZ), (.ref b14), (.ref b14)])) rfl (by rw [hml]; rfl) (Steps.refl _) (a := b14) (argsL := [(.ref wZ), (.ref b21)]) (rest := [(.ref b14)]) (lenOf pd_1 rfl) rfl (by show 2 * 0 + _ ≤ _; exact Nat.le_of_eq rfl) (hb hby d1_14) (fun _ _ => ⟨rfl, e26, (by decide : 2 + 0 ≤ _), (by decide : 3 + 0 ≤ _)⟩)
  dsimp only [Pt.U, Pt.locs, Pt.cells, Pt.slots] at X31 l31 y31 z31 st31 hQ31
  subst l31 y31 z31
  obtain ⟨rfl, Nq31, K31, Fk31, Fn31⟩ := hQ31
  have N31 := Fr.app N26 Nq31
  have k32 : Rch p e below S0 T31 (mkF m 17 #[.val (.int p1)] [(.ref b14)]) := fun t h => k28 t (st31.trans h)
  have O33 := O29.keep K31 (allS ge_b14 all0)
  have K34 := K30.trans K31 (allS (Or.inr sz_b14) all0)
  replace E_b14 := E_b14.keep K31
  replace V_b21 := V_b21.keep K31 (ninS (Ne.symm ne_b14_b21) nin0)
  obtain ⟨fs, hr, hrun, hended, hW, hsame⟩ := X31.leave (v := (some (.ref b14))) (fun h => by rw [Bd.returns] at h; cases h)
  refine ⟨_, _, ?_, hrun, hended, _, _, rfl, ?_, ⟨_, rfl⟩, hW, hsame.mono (by decide) (by decide)⟩
  · rw [← hS0]
    refine k32 _ ?_
    show Steps p.tables e below (T31.setTop (mkF m 17 #[.val (.int p1)] [(.ref b14)])) _
    jvm_step X31.here [X31.here.top, hx, (hb hby d1_17), X31.method', Bd.returns, Value.isRef, FieldType.isReference]
    first | (intro acts; rw [hr _ acts rfl rfl rfl]) | rw [hr _ _ rfl rfl rfl]
    exact Steps.refl _
  · show Q_rmT Z p1 wZ h0 n0 _ T31.heap _
    exact ⟨b14, b21, k21, rfl, N31, own_ext K34, sz_b14, sz_b21, E_b14, Fk31, Fn31, V_b21⟩
def Q_rmSz (Z : State)  (h0 : Heap) (n0 : Nat) (v : Option Value) (h : Heap) (L : List Loc) : Prop := v = some (.int (1 : Int32)) ∧ Fr n0 L ∧ h = h0
theorem ef_4 (m : MethodId) (x0 : Addr) : entryFrame m #[(.ref x0)] 1 = mkF m 0 #[.val (.ref x0)] [] := by first | (simp [entryFrame, mkF, argsToLocals, Value.category]; done) | rfl
theorem d4_0 : decode prog_24_method_7_code 0 = .ok (.aload_n 0, 1) := by decide +kernel
theorem d4_1 : decode prog_24_method_7_code 1 = .ok (.getfield 63, 3) := by decide +kernel
theorem d4_4 : decode prog_24_method_7_code 4 = .ok (.arraylength, 1) := by decide +kernel
theorem d4_5 : decode prog_24_method_7_code 5 = .ok (.ireturn, 1) := by decide +kernel
set_option maxRecDepth 65536 in
set_option maxHeartbeats 40000000 in
theorem rmSz (l : Launch) (Z : State) (a0 : Array Value) (hw : ∀ d ∈ tables_1, d.before a0 Z = true) (ws : List Jvm.Cond) (a1 : Addr) (rb : Addr) (kb : ClassId) (x : Int32) (h0 : Heap) (n0 : Nat) (O0 : Old Z n0 h0) (Fn : Fld Z h0 a1 "com/example/lumenplan/lumenplan/network/RankedPath" "nodes" "[I" (.ref rb)) (Vb : Arv Z h0 rb kb .int (1 : Int32) [.int x] (.int (0 : Int32))) :
    MetFree l (⟨"com/example/lumenplan/lumenplan/network/RankedPath", "size", "()I"⟩ : MethodName) (head1 (Jvm.Cond.code (⟨"com/example/lumenplan/lumenplan/network/RankedPath", "size", "()I"⟩ : MethodName) prog_24_method_7_code 1 (some .int) :: ws) ({ frames := 0, cells := 0, slots := 0, locals := 0 } : Room)) (fun a U => a = #[(.ref a1)] ∧ Z.Warmed39 U.vm ∧ U.heap = h0) (fun _ _ _ _ _ => True) (fun _ U o U' => ∃ v L, o = .returned v ∧ Q_rmSz Z  h0 n0 v U'.heap L ∧ FrameEnd U o U' L ({ frames := 0, cells := 0, slots := 0, locals := 0 } : Room).cells ({ frames := 0, cells := 0, slots := 0, locals := 0 } : Room).slots) := by
  refine MetFree.of_bodySF (plainFor_of_name pn_RankedPath) hisR ?_
  intro p e s m args below meth c s₁ Bd hml0 hP hK
  obtain ⟨rfl, hZ, hh⟩ := hP
  have hx := Bd.exec
  have hby := Bd.bytes
  have hml : c.maxLocals = 1 := hml0
  have hown : s.vm.findClass "com/example/lumenplan/lumenplan/network/RankedPath" = some m.cls := findClass_of_methodNamed Bd.named
  have hnm := (name_of_methodNamed Bd.named Bd.method).1
  have X0 : Stand p l e ({ frames := 0, cells := 0, slots := 0, locals := 0 } : Room) s m #[(.ref a1)] below meth c s₁ [] 0 0 := Stand.of_body Bd
  have e0 : s₁.heap = h0 := by rw [← hh, Bd.state]; rfl
  have N0 := Fr.nil n0
  obtain ⟨S0, hS0⟩ : ∃ z, z = s₁.setTop (entryFrame m #[(.ref a1)] 1) := ⟨_, rfl⟩
  have k0 : Rch p e below S0 s₁ (mkF m 0 #[.val (.ref a1)] []) := fun t k => hS0 ▸ castTop (ef_4 m a1) k
  have k36 : Rch p e below S0 s₁ (mkF m 1 #[.val (.ref a1)] [(.ref a1)]) := fun t h => k0 t (by
      show Steps p.tables e below (s₁.setTop (mkF m 0 #[.val (.ref a1)] [])) _
      refine XS.aloadN X0.here hx rfl (hb hby d4_0) rfl rfl ?_
      show Steps p.tables e below (s₁.setTop (mkF m 1 #[.val (.ref a1)] [(.ref a1)])) _
      exact h)
  obtain ⟨T35, X35, e35, st35⟩ := getF X0 hx hZ hown (host := "") (Or.inl (hw _ (List.mem_of_getElem? (i := 17) rfl))) Via.refl e0 Fn (g := (mkF m 1 #[.val (.ref a1)] [(.ref a1)])) rfl rfl (hb hby d4_1)
  have k37 : Rch p e below S0 T35 (mkF m 4 #[.val (.ref a1)] [(.ref rb)]) := fun t h => k36 t (st35 t h)
  obtain ⟨cl38, Ar38, q38, Sz38, Ng38, Hs38, G38⟩ := id Vb
  have k39 : Rch p e below S0 T35 (mkF m 5 #[.val (.ref a1)] [(.int (1 : Int32))]) := fun t h => k37 t (by
      show Steps p.tables e below (T35.setTop (mkF m 4 #[.val (.ref a1)] [(.ref rb)])) _
      refine X35.arraylength hx (by rw [e35]; exact Ar38.1) (State.isArrayOf_alike hZ.alike Ar38.2.1) (g := (mkF m 4 #[.val (.ref a1)] [(.ref rb)])) rfl rfl (hb hby d4_4) _ ?_
      rw [len_of Sz38 Ng38]
      show Steps p.tables e below (T35.setTop (mkF m 5 #[.val (.ref a1)] [(.int (1 : Int32))])) _
      exact h)
  obtain ⟨fs, hr, hrun, hended, hW, hsame⟩ := X35.leave (v := (some (.int (1 : Int32)))) (fun h => by rw [Bd.returns] at h; cases h)
  refine ⟨_, _, ?_, hrun, hended, _, _, rfl, ?_, ⟨_, rfl⟩, hW, hsame.mono (by decide) (by decide)⟩
  · rw [← hS0]
    refine k39 _ ?_
    show Steps p.tables e below (T35.setTop (mkF m 5 #[.val (.ref a1)] [(.int (1 : Int32))])) _
    exact retI X35 hx Bd.returns (hb hby d4_5) hr
  · show Q_rmSz Z  h0 n0 _ T35.heap _
    rw [e35]
    exact ⟨rfl, N0, rfl⟩
def Q_rmNd (Z : State) (x : Int32) (h0 : Heap) (n0 : Nat) (v : Option Value) (h : Heap) (L : List Loc) : Prop := v = some (.int x) ∧ Fr n0 L ∧ h = h0
theorem ef_5 (m : MethodId) (x0 : Addr) (x1 : Int32) : entryFrame m #[(.ref x0), (.int x1)] 2 = mkF m 0 #[.val (.ref x0), .val (.int x1)] [] := by first | (simp [entryFrame, mkF, argsToLocals, Value.category]; done) | rfl
theorem d5_0 : decode prog_24_method_8_code 0 = .ok (.aload_n 0, 1) := by decide +kernel
theorem d5_1 : decode prog_24_method_8_code 1 = .ok (.getfield 63, 3) := by decide +kernel
theorem d5_4 : decode prog_24_method_8_code 4 = .ok (.iload_n 1, 1) := by decide +kernel
theorem d5_5 : decode prog_24_method_8_code 5 = .ok (.iaload, 1) := by decide +kernel
theorem d5_6 : decode prog_24_method_8_code 6 = .ok (.ireturn, 1) := by decide +kernel
set_option maxRecDepth 65536 in
set_option maxHeartbeats 40000000 in
theorem rmNd (l : Launch) (Z : State) (a0 : Array Value) (hw : ∀ d ∈ tables_1, d.before a0 Z = true) (ws : List Jvm.Cond) (a1 : Addr) (rb : Addr) (kb : ClassId) (x : Int32) (h0 : Heap) (n0 : Nat) (O0 : Old Z n0 h0) (Fn : Fld Z h0 a1 "com/example/lumenplan/lumenplan/network/RankedPath" "nodes" "[I" (.ref rb)) (Vb : Arv Z h0 rb kb .int (1 : Int32) [.int x] (.int (0 : Int32))) :
    MetFree l (⟨"com/example/lumenplan/lumenplan/network/RankedPath", "node", "(I)I"⟩ : MethodName) (head1 (Jvm.Cond.code (⟨"com/example/lumenplan/lumenplan/network/RankedPath", "node", "(I)I"⟩ : MethodName) prog_24_method_8_code 2 (some .int) :: ws) ({ frames := 0, cells := 0, slots := 0, locals := 0 } : Room)) (fun a U => a = #[(.ref a1), (.int (0 : Int32))] ∧ Z.Warmed39 U.vm ∧ U.heap = h0) (fun _ _ _ _ _ => True) (fun _ U o U' => ∃ v L, o = .returned v ∧ Q_rmNd Z x h0 n0 v U'.heap L ∧ FrameEnd U o U' L ({ frames := 0, cells := 0, slots := 0, locals := 0 } : Room).cells ({ frames := 0, cells := 0, slots := 0, locals := 0 } : Room).slots) := by
  refine MetFree.of_bodySF (plainFor_of_name pn_RankedPath) hisR ?_
  intro p e s m args below meth c s₁ Bd hml0 hP hK
  obtain ⟨rfl, hZ, hh⟩ := hP
  have hx := Bd.exec
  have hby := Bd.bytes
  have hml : c.maxLocals = 2 := hml0
  have hown : s.vm.findClass "com/example/lumenplan/lumenplan/network/RankedPath" = some m.cls := findClass_of_methodNamed Bd.named
  have hnm := (name_of_methodNamed Bd.named Bd.method).1
  have X0 : Stand p l e ({ frames := 0, cells := 0, slots := 0, locals := 0 } : Room) s m #[(.ref a1), (.int (0 : Int32))] below meth c s₁ [] 0 0 := Stand.of_body Bd
  have e0 : s₁.heap = h0 := by rw [← hh, Bd.state]; rfl
  have N0 := Fr.nil n0
  obtain ⟨S0, hS0⟩ : ∃ z, z = s₁.setTop (entryFrame m #[(.ref a1), (.int (0 : Int32))] 2) := ⟨_, rfl⟩
  have k0 : Rch p e below S0 s₁ (mkF m 0 #[.val (.ref a1), .val (.int (0 : Int32))] []) := fun t k => hS0 ▸ castTop (ef_5 m a1 (0 : Int32)) k
  have k41 : Rch p e below S0 s₁ (mkF m 1 #[.val (.ref a1), .val (.int (0 : Int32))] [(.ref a1)]) := fun t h => k0 t (by
      show Steps p.tables e below (s₁.setTop (mkF m 0 #[.val (.ref a1), .val (.int (0 : Int32))] [])) _
      refine XS.aloadN X0.here hx rfl (hb hby d5_0) rfl rfl ?_
      show Steps p.tables e below (s₁.setTop (mkF m 1 #[.val (.ref a1), .val (.int (0 : Int32))] [(.ref a1)])) _
      exact h)
  obtain ⟨T40, X40, e40, st40⟩ := getF X0 hx hZ hown (host := "") (Or.inl (hw _ (List.mem_of_getElem? (i := 17) rfl))) Via.refl e0 Fn (g := (mkF m 1 #[.val (.ref a1), .val (.int (0 : Int32))] [(.ref a1)])) rfl rfl (hb hby d5_1)
  have k42 : Rch p e below S0 T40 (mkF m 4 #[.val (.ref a1), .val (.int (0 : Int32))] [(.ref rb)]) := fun t h => k41 t (st40 t h)
  have k44 : Rch p e below S0 T40 (mkF m 5 #[.val (.ref a1), .val (.int (0 : Int32))] [(.int (0 : Int32)), (.ref rb)]) := fun t h => k42 t (by
      show Steps p.tables e below (T40.setTop (mkF m 4 #[.val (.ref a1), .val (.int (0 : Int32))] [(.ref rb)])) _
      refine XS.iloadN X40.here hx rfl (hb hby d5_4) rfl ?_
      show Steps p.tables e below (T40.setTop (mkF m 5 #[.val (.ref a1), .val (.int (0 : Int32))] [(.int (0 : Int32)), (.ref rb)])) _
      exact h)
  obtain ⟨cl43, Ar43, q43, Sz43, Ng43, Hs43, G43⟩ := id Vb
  have hin43 : ¬ ((0 : Int32) < 0 ∨ cl43.slots.size ≤ ((0 : Int32)).toNatClampNeg) := inb_of Sz43 ⟨by decide, by decide⟩
  have hat43 : cl43.slots[((0 : Int32)).toNatClampNeg]? = some (.int x) := Hs43.at hin43 (rfl)
  have k45 : Rch p e below S0 T40 (mkF m 6 #[.val (.ref a1), .val (.int (0 : Int32))] [(.int x)]) := fun t h => k44 t (by
      show Steps p.tables e below (T40.setTop (mkF m 5 #[.val (.ref a1), .val (.int (0 : Int32))] [(.int (0 : Int32)), (.ref rb)])) _
      refine X40.iaload hx (j := (0 : Int32)) (v := (.int x)) (by rw [e40]; exact Ar43.1) (State.isArrayOf_alike hZ.alike Ar43.2.1) Ar43.2.2 hin43 hat43 (g := (mkF m 5 #[.val (.ref a1), .val (.int (0 : Int32))] [(.int (0 : Int32)), (.ref rb)])) rfl rfl (hb hby d5_5) _ ?_
      show Steps p.tables e below (T40.setTop (mkF m 6 #[.val (.ref a1), .val (.int (0 : Int32))] [(.int x)])) _
      exact h)
  obtain ⟨fs, hr, hrun, hended, hW, hsame⟩ := X40.leave (v := (some (.int x))) (fun h => by rw [Bd.returns] at h; cases h)
  refine ⟨_, _, ?_, hrun, hended, _, _, rfl, ?_, ⟨_, rfl⟩, hW, hsame.mono (by decide) (by decide)⟩
  · rw [← hS0]
    refine k45 _ ?_
    show Steps p.tables e below (T40.setTop (mkF m 6 #[.val (.ref a1), .val (.int (0 : Int32))] [(.int x)])) _
    exact retI X40 hx Bd.returns (hb hby d5_6) hr
  · show Q_rmNd Z x h0 n0 _ T40.heap _
    rw [e40]
    exact ⟨rfl, N0, rfl⟩
def Q_rmLa (Z : State) (x : Int32) (h0 : Heap) (n0 : Nat) (v : Option Value) (h : Heap) (L : List Loc) : Prop := v = some (.int x) ∧ Fr n0 L ∧ h = h0
theorem ef_6 (m : MethodId) (x0 : Addr) : entryFrame m #[(.ref x0)] 1 = mkF m 0 #[.val (.ref x0)] [] := by first | (simp [entryFrame, mkF, argsToLocals, Value.category]; done) | rfl
theorem d6_0 : decode prog_24_method_10_code 0 = .ok (.aload_n 0, 1) := by decide +kernel
theorem d6_1 : decode prog_24_method_10_code 1 = .ok (.getfield 63, 3) := by decide +kernel
theorem d6_4 : decode prog_24_method_10_code 4 = .ok (.aload_n 0, 1) := by decide +kernel
theorem d6_5 : decode prog_24_method_10_code 5 = .ok (.getfield 63, 3) := by decide +kernel
theorem d6_8 : decode prog_24_method_10_code 8 = .ok (.arraylength, 1) := by decide +kernel
theorem d6_9 : decode prog_24_method_10_code 9 = .ok (.iconst 1, 1) := by decide +kernel
theorem d6_10 : decode prog_24_method_10_code 10 = .ok (.isub, 1) := by decide +kernel
theorem d6_11 : decode prog_24_method_10_code 11 = .ok (.iaload, 1) := by decide +kernel
theorem d6_12 : decode prog_24_method_10_code 12 = .ok (.ireturn, 1) := by decide +kernel
set_option maxRecDepth 65536 in
set_option maxHeartbeats 40000000 in
theorem rmLa (l : Launch) (Z : State) (a0 : Array Value) (hw : ∀ d ∈ tables_1, d.before a0 Z = true) (ws : List Jvm.Cond) (a1 : Addr) (rb : Addr) (kb : ClassId) (x : Int32) (h0 : Heap) (n0 : Nat) (O0 : Old Z n0 h0) (Fn : Fld Z h0 a1 "com/example/lumenplan/lumenplan/network/RankedPath" "nodes" "[I" (.ref rb)) (Vb : Arv Z h0 rb kb .int (1 : Int32) [.int x] (.int (0 : Int32))) :
    MetFree l (⟨"com/example/lumenplan/lumenplan/network/RankedPath", "last", "()I"⟩ : MethodName) (head1 (Jvm.Cond.code (⟨"com/example/lumenplan/lumenplan/network/RankedPath", "last", "()I"⟩ : MethodName) prog_24_method_10_code 1 (some .int) :: ws) ({ frames := 0, cells := 0, slots := 0, locals := 0 } : Room)) (fun a U => a = #[(.ref a1)] ∧ Z.Warmed39 U.vm ∧ U.heap = h0) (fun _ _ _ _ _ => True) (fun _ U o U' => ∃ v L, o = .returned v ∧ Q_rmLa Z x h0 n0 v U'.heap L ∧ FrameEnd U o U' L ({ frames := 0, cells := 0, slots := 0, locals := 0 } : Room).cells ({ frames := 0, cells := 0, slots := 0, locals := 0 } : Room).slots) := by
  refine MetFree.of_bodySF (plainFor_of_name pn_RankedPath) hisR ?_
  intro p e s m args below meth c s₁ Bd hml0 hP hK
  obtain ⟨rfl, hZ, hh⟩ := hP
  have hx := Bd.exec
  have hby := Bd.bytes
  have hml : c.maxLocals = 1 := hml0
  have hown : s.vm.findClass "com/example/lumenplan/lumenplan/network/RankedPath" = some m.cls := findClass_of_methodNamed Bd.named
  have hnm := (name_of_methodNamed Bd.named Bd.method).1
  have X0 : Stand p l e ({ frames := 0, cells := 0, slots := 0, locals := 0 } : Room) s m #[(.ref a1)] below meth c s₁ [] 0 0 := Stand.of_body Bd
  have e0 : s₁.heap = h0 := by rw [← hh, Bd.state]; rfl
  have N0 := Fr.nil n0
  obtain ⟨S0, hS0⟩ : ∃ z, z = s₁.setTop (entryFrame m #[(.ref a1)] 1) := ⟨_, rfl⟩
  have k0 : Rch p e below S0 s₁ (mkF m 0 #[.val (.ref a1)] []) := fun t k => hS0 ▸ castTop (ef_6 m a1) k
  have k47 : Rch p e below S0 s₁ (mkF m 1 #[.val (.ref a1)] [(.ref a1)]) := fun t h => k0 t (by
      show Steps p.tables e below (s₁.setTop (mkF m 0 #[.val (.ref a1)] [])) _
      refine XS.aloadN X0.here hx rfl (hb hby d6_0) rfl rfl ?_
      show Steps p.tables e below (s₁.setTop (mkF m 1 #[.val (.ref a1)] [(.ref a1)])) _
      exact h)
  obtain ⟨T46, X46, e46, st46⟩ := getF X0 hx hZ hown (host := "") (Or.inl (hw _ (List.mem_of_getElem? (i := 17) rfl))) Via.refl e0 Fn (g := (mkF m 1 #[.val (.ref a1)] [(.ref a1)])) rfl rfl (hb hby d6_1)
  have k48 : Rch p e below S0 T46 (mkF m 4 #[.val (.ref a1)] [(.ref rb)]) := fun t h => k47 t (st46 t h)
  have k50 : Rch p e below S0 T46 (mkF m 5 #[.val (.ref a1)] [(.ref a1), (.ref rb)]) := fun t h => k48 t (by
      show Steps p.tables e below (T46.setTop (mkF m 4 #[.val (.ref a1)] [(.ref rb)])) _
      refine XS.aloadN X46.here hx rfl (hb hby d6_4) rfl rfl ?_
      show Steps p.tables e below (T46.setTop (mkF m 5 #[.val (.ref a1)] [(.ref a1), (.ref rb)])) _
      exact h)
  obtain ⟨T49, X49, e49, st49⟩ := getF X46 hx hZ hown (host := "") (Or.inl (hw _ (List.mem_of_getElem? (i := 17) rfl))) Via.refl e46 Fn (g := (mkF m 5 #[.val (.ref a1)] [(.ref a1), (.ref rb)])) rfl rfl (hb hby d6_5)
  have k51 : Rch p e below S0 T49 (mkF m 8 #[.val (.ref a1)] [(.ref rb), (.ref rb)]) := fun t h => k50 t (st49 t h)
  obtain ⟨cl52, Ar52, q52, Sz52, Ng52, Hs52, G52⟩ := id Vb
  have k54 : Rch p e below S0 T49 (mkF m 11 #[.val (.ref a1)] [(.int (0 : Int32)), (.ref rb)]) := fun t h => k51 t (by
      show Steps p.tables e below (T49.setTop (mkF m 8 #[.val (.ref a1)] [(.ref rb), (.ref rb)])) _
      refine X49.arraylength hx (by rw [e49]; exact Ar52.1) (State.isArrayOf_alike hZ.alike Ar52.2.1) (g := (mkF m 8 #[.val (.ref a1)] [(.ref rb), (.ref rb)])) rfl rfl (hb hby d6_8) _ ?_
      rw [len_of Sz52 Ng52]
      show Steps p.tables e below (T49.setTop (mkF m 9 #[.val (.ref a1)] [(.int (1 : Int32)), (.ref rb)])) _
      refine XS.iconst X49.here hx rfl (hb hby d6_9) ?_
      show Steps p.tables e below (T49.setTop (mkF m 10 #[.val (.ref a1)] [(.int (1 : Int32)), (.int (1 : Int32)), (.ref rb)])) _
      refine XS.isub X49.here hx rfl (hb hby d6_10) rfl ?_
      rw [(by decide : ((1 : Int32) - (1 : Int32)) = (0 : Int32))]
      show Steps p.tables e below (T49.setTop (mkF m 11 #[.val (.ref a1)] [(.int (0 : Int32)), (.ref rb)])) _
      exact h)
  obtain ⟨cl53, Ar53, q53, Sz53, Ng53, Hs53, G53⟩ := id Vb
  have hin53 : ¬ ((0 : Int32) < 0 ∨ cl53.slots.size ≤ ((0 : Int32)).toNatClampNeg) := inb_of Sz53 ⟨by decide, by decide⟩
  have hat53 : cl53.slots[((0 : Int32)).toNatClampNeg]? = some (.int x) := Hs53.at hin53 (rfl)
  have k55 : Rch p e below S0 T49 (mkF m 12 #[.val (.ref a1)] [(.int x)]) := fun t h => k54 t (by
      show Steps p.tables e below (T49.setTop (mkF m 11 #[.val (.ref a1)] [(.int (0 : Int32)), (.ref rb)])) _
      refine X49.iaload hx (j := (0 : Int32)) (v := (.int x)) (by rw [e49]; exact Ar53.1) (State.isArrayOf_alike hZ.alike Ar53.2.1) Ar53.2.2 hin53 hat53 (g := (mkF m 11 #[.val (.ref a1)] [(.int (0 : Int32)), (.ref rb)])) rfl rfl (hb hby d6_11) _ ?_
      show Steps p.tables e below (T49.setTop (mkF m 12 #[.val (.ref a1)] [(.int x)])) _
      exact h)
  obtain ⟨fs, hr, hrun, hended, hW, hsame⟩ := X49.leave (v := (some (.int x))) (fun h => by rw [Bd.returns] at h; cases h)
  refine ⟨_, _, ?_, hrun, hended, _, _, rfl, ?_, ⟨_, rfl⟩, hW, hsame.mono (by decide) (by decide)⟩
  · rw [← hS0]
    refine k55 _ ?_
    show Steps p.tables e below (T49.setTop (mkF m 12 #[.val (.ref a1)] [(.int x)])) _
    exact retI X49 hx Bd.returns (hb hby d6_12) hr
  · show Q_rmLa Z x h0 n0 _ T49.heap _
    rw [e49]
    exact ⟨rfl, N0, rfl⟩
def Q_rmPa_y (Z : State)  (h0 : Heap) (n0 : Nat) (v : Option Value) (h : Heap) (L : List Loc) : Prop := v = some (.int (1 : Int32)) ∧ Fr n0 L ∧ h = h0
theorem ef_7 (m : MethodId) (x0 : Addr) (x1 : Int32) : entryFrame m #[(.ref x0), (.int x1)] 6 = mkF m 0 #[.val (.ref x0), .val (.int x1), .unset, .unset, .unset, .unset] [] := by first | (simp [entryFrame, mkF, argsToLocals, Value.category]; done) | rfl
theorem d7_0 : decode prog_24_method_6_code 0 = .ok (.aload_n 0, 1) := by decide +kernel
theorem d7_1 : decode prog_24_method_6_code 1 = .ok (.getfield 63, 3) := by decide +kernel
theorem d7_4 : decode prog_24_method_6_code 4 = .ok (.astore_n 2, 1) := by decide +kernel
theorem d7_5 : decode prog_24_method_6_code 5 = .ok (.aload_n 2, 1) := by decide +kernel
theorem d7_6 : decode prog_24_method_6_code 6 = .ok (.arraylength, 1) := by decide +kernel
theorem d7_7 : decode prog_24_method_6_code 7 = .ok (.istore_n 3, 1) := by decide +kernel
theorem d7_8 : decode prog_24_method_6_code 8 = .ok (.iconst 0, 1) := by decide +kernel
theorem d7_9 : decode prog_24_method_6_code 9 = .ok (.istore 4, 2) := by decide +kernel
theorem d7_11 : decode prog_24_method_6_code 11 = .ok (.iload 4, 2) := by decide +kernel
theorem d7_13 : decode prog_24_method_6_code 13 = .ok (.iload_n 3, 1) := by decide +kernel
theorem d7_14 : decode prog_24_method_6_code 14 = .ok (.if_icmp .ge 23, 3) := by decide +kernel
theorem d7_17 : decode prog_24_method_6_code 17 = .ok (.aload_n 2, 1) := by decide +kernel
theorem d7_18 : decode prog_24_method_6_code 18 = .ok (.iload 4, 2) := by decide +kernel
theorem d7_20 : decode prog_24_method_6_code 20 = .ok (.iaload, 1) := by decide +kernel
theorem d7_21 : decode prog_24_method_6_code 21 = .ok (.istore 5, 2) := by decide +kernel
theorem d7_23 : decode prog_24_method_6_code 23 = .ok (.iload 5, 2) := by decide +kernel
theorem d7_25 : decode prog_24_method_6_code 25 = .ok (.iload_n 1, 1) := by decide +kernel
theorem d7_26 : decode prog_24_method_6_code 26 = .ok (.if_icmp .ne 5, 3) := by decide +kernel
theorem d7_29 : decode prog_24_method_6_code 29 = .ok (.iconst 1, 1) := by decide +kernel
theorem d7_30 : decode prog_24_method_6_code 30 = .ok (.ireturn, 1) := by decide +kernel
set_option maxRecDepth 65536 in
set_option maxHeartbeats 40000000 in
theorem rmPa_y (l : Launch) (Z : State) (a0 : Array Value) (hw : ∀ d ∈ tables_1, d.before a0 Z = true) (ws : List Jvm.Cond) (a1 : Addr) (rb : Addr) (kb : ClassId) (x : Int32) (q : Int32) (h0 : Heap) (n0 : Nat) (O0 : Old Z n0 h0) (Fn : Fld Z h0 a1 "com/example/lumenplan/lumenplan/network/RankedPath" "nodes" "[I" (.ref rb)) (Vb : Arv Z h0 rb kb .int (1 : Int32) [.int x] (.int (0 : Int32))) (hq : x = q) :
    MetFree l (⟨"com/example/lumenplan/lumenplan/network/RankedPath", "passes", "(I)Z"⟩ : MethodName) (head1 (Jvm.Cond.code (⟨"com/example/lumenplan/lumenplan/network/RankedPath", "passes", "(I)Z"⟩ : MethodName) prog_24_method_6_code 6 (some .boolean) :: ws) ({ frames := 0, cells := 0, slots := 0, locals := 0 } : Room)) (fun a U => a = #[(.ref a1), (.int q)] ∧ Z.Warmed39 U.vm ∧ U.heap = h0) (fun _ _ _ _ _ => True) (fun _ U o U' => ∃ v L, o = .returned v ∧ Q_rmPa_y Z  h0 n0 v U'.heap L ∧ FrameEnd U o U' L ({ frames := 0, cells := 0, slots := 0, locals := 0 } : Room).cells ({ frames := 0, cells := 0, slots := 0, locals := 0 } : Room).slots) := by
  refine MetFree.of_bodySF (plainFor_of_name pn_RankedPath) hisR ?_
  intro p e s m args below meth c s₁ Bd hml0 hP hK
  obtain ⟨rfl, hZ, hh⟩ := hP
  have hx := Bd.exec
  have hby := Bd.bytes
  have hml : c.maxLocals = 6 := hml0
  have hown : s.vm.findClass "com/example/lumenplan/lumenplan/network/RankedPath" = some m.cls := findClass_of_methodNamed Bd.named
  have hnm := (name_of_methodNamed Bd.named Bd.method).1
  have X0 : Stand p l e ({ frames := 0, cells := 0, slots := 0, locals := 0 } : Room) s m #[(.ref a1), (.int q)] below meth c s₁ [] 0 0 := Stand.of_body Bd
  have e0 : s₁.heap = h0 := by rw [← hh, Bd.state]; rfl
  have N0 := Fr.nil n0
  obtain ⟨S0, hS0⟩ : ∃ z, z = s₁.setTop (entryFrame m #[(.ref a1), (.int q)] 6) := ⟨_, rfl⟩
  have k0 : Rch p e below S0 s₁ (mkF m 0 #[.val (.ref a1), .val (.int q), .unset, .unset, .unset, .unset] []) := fun t k => hS0 ▸ castTop (ef_7 m a1 q) k
  have k57 : Rch p e below S0 s₁ (mkF m 1 #[.val (.ref a1), .val (.int q), .unset, .unset, .unset, .unset] [(.ref a1)]) := fun t h => k0 t (by
      show Steps p.tables e below (s₁.setTop (mkF m 0 #[.val (.ref a1), .val (.int q), .unset, .unset, .unset, .unset] [])) _
      refine XS.aloadN X0.here hx rfl (hb hby d7_0) rfl rfl ?_
      show Steps p.tables e below (s₁.setTop (mkF m 1 #[.val (.ref a1), .val (.int q), .unset, .unset, .unset, .unset] [(.ref a1)])) _
      exact h)
  obtain ⟨T56, X56, e56, st56⟩ := getF X0 hx hZ hown (host := "") (Or.inl (hw _ (List.mem_of_getElem? (i := 17) rfl))) Via.refl e0 Fn (g := (mkF m 1 #[.val (.ref a1), .val (.int q), .unset, .unset, .unset, .unset] [(.ref a1)])) rfl rfl (hb hby d7_1)
  have k58 : Rch p e below S0 T56 (mkF m 4 #[.val (.ref a1), .val (.int q), .unset, .unset, .unset, .unset] [(.ref rb)]) := fun t h => k57 t (st56 t h)
  have k60 : Rch p e below S0 T56 (mkF m 6 #[.val (.ref a1), .val (.int q), .val (.ref rb), .unset, .unset, .unset] [(.ref rb)]) := fun t h => k58 t (by
      show Steps p.tables e below (T56.setTop (mkF m 4 #[.val (.ref a1), .val (.int q), .unset, .unset, .unset, .unset] [(.ref rb)])) _
      refine XS.astoreN X56.here hx rfl (hb hby d7_4) rfl rfl (l' := #[.val (.ref a1), .val (.int q), .val (.ref rb), .unset, .unset, .unset]) rfl ?_
      show Steps p.tables e below (T56.setTop (mkF m 5 #[.val (.ref a1), .val (.int q), .val (.ref rb), .unset, .unset, .unset] [])) _
      refine XS.aloadN X56.here hx rfl (hb hby d7_5) rfl rfl ?_
      show Steps p.tables e below (T56.setTop (mkF m 6 #[.val (.ref a1), .val (.int q), .val (.ref rb), .unset, .unset, .unset] [(.ref rb)])) _
      exact h)
  obtain ⟨cl59, Ar59, q59, Sz59, Ng59, Hs59, G59⟩ := id Vb
  have k62 : Rch p e below S0 T56 (mkF m 20 #[.val (.ref a1), .val (.int q), .val (.ref rb), .val (.int (1 : Int32)), .val (.int (0 : Int32)), .unset] [(.int (0 : Int32)), (.ref rb)]) := fun t h => k60 t (by
      show Steps p.tables e below (T56.setTop (mkF m 6 #[.val (.ref a1), .val (.int q), .val (.ref rb), .unset, .unset, .unset] [(.ref rb)])) _
      refine X56.arraylength hx (by rw [e56]; exact Ar59.1) (State.isArrayOf_alike hZ.alike Ar59.2.1) (g := (mkF m 6 #[.val (.ref a1), .val (.int q), .val (.ref rb), .unset, .unset, .unset] [(.ref rb)])) rfl rfl (hb hby d7_6) _ ?_
      rw [len_of Sz59 Ng59]
      show Steps p.tables e below (T56.setTop (mkF m 7 #[.val (.ref a1), .val (.int q), .val (.ref rb), .unset, .unset, .unset] [(.int (1 : Int32))])) _
      refine XS.istoreN X56.here hx rfl (hb hby d7_7) rfl (l' := #[.val (.ref a1), .val (.int q), .val (.ref rb), .val (.int (1 : Int32)), .unset, .unset]) rfl ?_
      show Steps p.tables e below (T56.setTop (mkF m 8 #[.val (.ref a1), .val (.int q), .val (.ref rb), .val (.int (1 : Int32)), .unset, .unset] [])) _
      refine XS.iconst X56.here hx rfl (hb hby d7_8) ?_
      show Steps p.tables e below (T56.setTop (mkF m 9 #[.val (.ref a1), .val (.int q), .val (.ref rb), .val (.int (1 : Int32)), .unset, .unset] [(.int (0 : Int32))])) _
      refine XS.istore X56.here hx rfl (hb hby d7_9) rfl (l' := #[.val (.ref a1), .val (.int q), .val (.ref rb), .val (.int (1 : Int32)), .val (.int (0 : Int32)), .unset]) rfl ?_
      show Steps p.tables e below (T56.setTop (mkF m 11 #[.val (.ref a1), .val (.int q), .val (.ref rb), .val (.int (1 : Int32)), .val (.int (0 : Int32)), .unset] [])) _
      refine XS.iload X56.here hx rfl (hb hby d7_11) rfl ?_
      show Steps p.tables e below (T56.setTop (mkF m 13 #[.val (.ref a1), .val (.int q), .val (.ref rb), .val (.int (1 : Int32)), .val (.int (0 : Int32)), .unset] [(.int (0 : Int32))])) _
      refine XS.iloadN X56.here hx rfl (hb hby d7_13) rfl ?_
      show Steps p.tables e below (T56.setTop (mkF m 14 #[.val (.ref a1), .val (.int q), .val (.ref rb), .val (.int (1 : Int32)), .val (.int (0 : Int32)), .unset] [(.int (1 : Int32)), (.int (0 : Int32))])) _
      refine XS.icmpNo X56.here hx rfl (hb hby d7_14) rfl (tlt (by decide : (0 : Int32) < (1 : Int32))).2.1 ?_
      show Steps p.tables e below (T56.setTop (mkF m 17 #[.val (.ref a1), .val (.int q), .val (.ref rb), .val (.int (1 : Int32)), .val (.int (0 : Int32)), .unset] [])) _
      refine XS.aloadN X56.here hx rfl (hb hby d7_17) rfl rfl ?_
      show Steps p.tables e below (T56.setTop (mkF m 18 #[.val (.ref a1), .val (.int q), .val (.ref rb), .val (.int (1 : Int32)), .val (.int (0 : Int32)), .unset] [(.ref rb)])) _
      refine XS.iload X56.here hx rfl (hb hby d7_18) rfl ?_
      show Steps p.tables e below (T56.setTop (mkF m 20 #[.val (.ref a1), .val (.int q), .val (.ref rb), .val (.int (1 : Int32)), .val (.int (0 : Int32)), .unset] [(.int (0 : Int32)), (.ref rb)])) _
      exact h)
  obtain ⟨cl61, Ar61, q61, Sz61, Ng61, Hs61, G61⟩ := id Vb
  have hin61 : ¬ ((0 : Int32) < 0 ∨ cl61.slots.size ≤ ((0 : Int32)).toNatClampNeg) := inb_of Sz61 ⟨by decide, by decide⟩
  have hat61 : cl61.slots[((0 : Int32)).toNatClampNeg]? = some (.int x) := Hs61.at hin61 (rfl)
  have k63 : Rch p e below S0 T56 (mkF m 30 #[.val (.ref a1), .val (.int q), .val (.ref rb), .val (.int (1 : Int32)), .val (.int (0 : Int32)), .val (.int x)] [(.int (1 : Int32))]) := fun t h => k62 t (by
      show Steps p.tables e below (T56.setTop (mkF m 20 #[.val (.ref a1), .val (.int q), .val (.ref rb), .val (.int (1 : Int32)), .val (.int (0 : Int32)), .unset] [(.int (0 : Int32)), (.ref rb)])) _
      refine X56.iaload hx (j := (0 : Int32)) (v := (.int x)) (by rw [e56]; exact Ar61.1) (State.isArrayOf_alike hZ.alike Ar61.2.1) Ar61.2.2 hin61 hat61 (g := (mkF m 20 #[.val (.ref a1), .val (.int q), .val (.ref rb), .val (.int (1 : Int32)), .val (.int (0 : Int32)), .unset] [(.int (0 : Int32)), (.ref rb)])) rfl rfl (hb hby d7_20) _ ?_
      show Steps p.tables e below (T56.setTop (mkF m 21 #[.val (.ref a1), .val (.int q), .val (.ref rb), .val (.int (1 : Int32)), .val (.int (0 : Int32)), .unset] [(.int x)])) _
      refine XS.istore X56.here hx rfl (hb hby d7_21) rfl (l' := #[.val (.ref a1), .val (.int q), .val (.ref rb), .val (.int (1 : Int32)), .val (.int (0 : Int32)), .val (.int x)]) rfl ?_
      show Steps p.tables e below (T56.setTop (mkF m 23 #[.val (.ref a1), .val (.int q), .val (.ref rb), .val (.int (1 : Int32)), .val (.int (0 : Int32)), .val (.int x)] [])) _
      refine XS.iload X56.here hx rfl (hb hby d7_23) rfl ?_
      show Steps p.tables e below (T56.setTop (mkF m 25 #[.val (.ref a1), .val (.int q), .val (.ref rb), .val (.int (1 : Int32)), .val (.int (0 : Int32)), .val (.int x)] [(.int x)])) _
      refine XS.iloadN X56.here hx rfl (hb hby d7_25) rfl ?_
      show Steps p.tables e below (T56.setTop (mkF m 26 #[.val (.ref a1), .val (.int q), .val (.ref rb), .val (.int (1 : Int32)), .val (.int (0 : Int32)), .val (.int x)] [(.int q), (.int x)])) _
      refine XS.icmpNo X56.here hx rfl (hb hby d7_26) rfl (teq (hq : x = q)).2 ?_
      show Steps p.tables e below (T56.setTop (mkF m 29 #[.val (.ref a1), .val (.int q), .val (.ref rb), .val (.int (1 : Int32)), .val (.int (0 : Int32)), .val (.int x)] [])) _
      refine XS.iconst X56.here hx rfl (hb hby d7_29) ?_
      show Steps p.tables e below (T56.setTop (mkF m 30 #[.val (.ref a1), .val (.int q), .val (.ref rb), .val (.int (1 : Int32)), .val (.int (0 : Int32)), .val (.int x)] [(.int (1 : Int32))])) _
      exact h)
  obtain ⟨fs, hr, hrun, hended, hW, hsame⟩ := X56.leave (v := (some (.int (1 : Int32)))) (fun h => by rw [Bd.returns] at h; cases h)
  refine ⟨_, _, ?_, hrun, hended, _, _, rfl, ?_, ⟨_, rfl⟩, hW, hsame.mono (by decide) (by decide)⟩
  · rw [← hS0]
    refine k63 _ ?_
    show Steps p.tables e below (T56.setTop (mkF m 30 #[.val (.ref a1), .val (.int q), .val (.ref rb), .val (.int (1 : Int32)), .val (.int (0 : Int32)), .val (.int x)] [(.int (1 : Int32))])) _
    exact retN X56 hx (t := .boolean) Bd.returns (by simp) (hb hby d7_30) hr
  · show Q_rmPa_y Z  h0 n0 _ T56.heap _
    rw [e56]
    exact ⟨rfl, N0, rfl⟩
def Q_rmPa_n (Z : State)  (h0 : Heap) (n0 : Nat) (v : Option Value) (h : Heap) (L : List Loc) : Prop := v = some (.int (0 : Int32)) ∧ Fr n0 L ∧ h = h0
theorem d7_31 : decode prog_24_method_6_code 31 = .ok (.iinc 4 1, 3) := by decide +kernel
theorem d7_34 : decode prog_24_method_6_code 34 = .ok (.goto (-23), 3) := by decide +kernel
theorem d7_37 : decode prog_24_method_6_code 37 = .ok (.iconst 0, 1) := by decide +kernel
theorem d7_38 : decode prog_24_method_6_code 38 = .ok (.ireturn, 1) := by decide +kernel
set_option maxRecDepth 65536 in
set_option maxHeartbeats 40000000 in
theorem rmPa_n (l : Launch) (Z : State) (a0 : Array Value) (hw : ∀ d ∈ tables_1, d.before a0 Z = true) (ws : List Jvm.Cond) (a1 : Addr) (rb : Addr) (kb : ClassId) (x : Int32) (q : Int32) (h0 : Heap) (n0 : Nat) (O0 : Old Z n0 h0) (Fn : Fld Z h0 a1 "com/example/lumenplan/lumenplan/network/RankedPath" "nodes" "[I" (.ref rb)) (Vb : Arv Z h0 rb kb .int (1 : Int32) [.int x] (.int (0 : Int32))) (hq : ¬ (x = q)) :
    MetFree l (⟨"com/example/lumenplan/lumenplan/network/RankedPath", "passes", "(I)Z"⟩ : MethodName) (head1 (Jvm.Cond.code (⟨"com/example/lumenplan/lumenplan/network/RankedPath", "passes", "(I)Z"⟩ : MethodName) prog_24_method_6_code 6 (some .boolean) :: ws) ({ frames := 0, cells := 0, slots := 0, locals := 0 } : Room)) (fun a U => a = #[(.ref a1), (.int q)] ∧ Z.Warmed39 U.vm ∧ U.heap = h0) (fun _ _ _ _ _ => True) (fun _ U o U' => ∃ v L, o = .returned v ∧ Q_rmPa_n Z  h0 n0 v U'.heap L ∧ FrameEnd U o U' L ({ frames := 0, cells := 0, slots := 0, locals := 0 } : Room).cells ({ frames := 0, cells := 0, slots := 0, locals := 0 } : Room).slots) := by
  refine MetFree.of_bodySF (plainFor_of_name pn_RankedPath) hisR ?_
  intro p e s m args below meth c s₁ Bd hml0 hP hK
  obtain ⟨rfl, hZ, hh⟩ := hP
  have hx := Bd.exec
  have hby := Bd.bytes
  have hml : c.maxLocals = 6 := hml0
  have hown : s.vm.findClass "com/example/lumenplan/lumenplan/network/RankedPath" = some m.cls := findClass_of_methodNamed Bd.named
  have hnm := (name_of_methodNamed Bd.named Bd.method).1
  have X0 : Stand p l e ({ frames := 0, cells := 0, slots := 0, locals := 0 } : Room) s m #[(.ref a1), (.int q)] below meth c s₁ [] 0 0 := Stand.of_body Bd
  have e0 : s₁.heap = h0 := by rw [← hh, Bd.state]; rfl
  have N0 := Fr.nil n0
  obtain ⟨S0, hS0⟩ : ∃ z, z = s₁.setTop (entryFrame m #[(.ref a1), (.int q)] 6) := ⟨_, rfl⟩
  have k0 : Rch p e below S0 s₁ (mkF m 0 #[.val (.ref a1), .val (.int q), .unset, .unset, .unset, .unset] []) := fun t k => hS0 ▸ castTop (ef_7 m a1 q) k
  have k65 : Rch p e below S0 s₁ (mkF m 1 #[.val (.ref a1), .val (.int q), .unset, .unset, .unset, .unset] [(.ref a1)]) := fun t h => k0 t (by
      show Steps p.tables e below (s₁.setTop (mkF m 0 #[.val (.ref a1), .val (.int q), .unset, .unset, .unset, .unset] [])) _
      refine XS.aloadN X0.here hx rfl (hb hby d7_0) rfl rfl ?_
      show Steps p.tables e below (s₁.setTop (mkF m 1 #[.val (.ref a1), .val (.int q), .unset, .unset, .unset, .unset] [(.ref a1)])) _
      exact h)
  obtain ⟨T64, X64, e64, st64⟩ := getF X0 hx hZ hown (host := "") (Or.inl (hw _ (List.mem_of_getElem? (i := 17) rfl))) Via.refl e0 Fn (g := (mkF m 1 #[.val (.ref a1), .val (.int q), .unset, .unset, .unset, .unset] [(.ref a1)])) rfl rfl (hb hby d7_1)
  have k66 : Rch p e below S0 T64 (mkF m 4 #[.val (.ref a1), .val (.int q), .unset, .unset, .unset, .unset] [(.ref rb)]) := fun t h => k65 t (st64 t h)
  have k68 : Rch p e below S0 T64 (mkF m 6 #[.val (.ref a1), .val (.int q), .val (.ref rb), .unset, .unset, .unset] [(.ref rb)]) := fun t h => k66 t (by
      show Steps p.tables e below (T64.setTop (mkF m 4 #[.val (.ref a1), .val (.int q), .unset, .unset, .unset, .unset] [(.ref rb)])) _
      refine XS.astoreN X64.here hx rfl (hb hby d7_4) rfl rfl (l' := #[.val (.ref a1), .val (.int q), .val (.ref rb), .unset, .unset, .unset]) rfl ?_
      show Steps p.tables e below (T64.setTop (mkF m 5 #[.val (.ref a1), .val (.int q), .val (.ref rb), .unset, .unset, .unset] [])) _
      refine XS.aloadN X64.here hx rfl (hb hby d7_5) rfl rfl ?_
      show Steps p.tables e below (T64.setTop (mkF m 6 #[.val (.ref a1), .val (.int q), .val (.ref rb), .unset, .unset, .unset] [(.ref rb)])) _
      exact h)
  obtain ⟨cl67, Ar67, q67, Sz67, Ng67, Hs67, G67⟩ := id Vb
  have k70 : Rch p e below S0 T64 (mkF m 20 #[.val (.ref a1), .val (.int q), .val (.ref rb), .val (.int (1 : Int32)), .val (.int (0 : Int32)), .unset] [(.int (0 : Int32)), (.ref rb)]) := fun t h => k68 t (by
      show Steps p.tables e below (T64.setTop (mkF m 6 #[.val (.ref a1), .val (.int q), .val (.ref rb), .unset, .unset, .unset] [(.ref rb)])) _
      refine X64.arraylength hx (by rw [e64]; exact Ar67.1) (State.isArrayOf_alike hZ.alike Ar67.2.1) (g := (mkF m 6 #[.val (.ref a1), .val (.int q), .val (.ref rb), .unset, .unset, .unset] [(.ref rb)])) rfl rfl (hb hby d7_6) _ ?_
      rw [len_of Sz67 Ng67]
      show Steps p.tables e below (T64.setTop (mkF m 7 #[.val (.ref a1), .val (.int q), .val (.ref rb), .unset, .unset, .unset] [(.int (1 : Int32))])) _
      refine XS.istoreN X64.here hx rfl (hb hby d7_7) rfl (l' := #[.val (.ref a1), .val (.int q), .val (.ref rb), .val (.int (1 : Int32)), .unset, .unset]) rfl ?_
      show Steps p.tables e below (T64.setTop (mkF m 8 #[.val (.ref a1), .val (.int q), .val (.ref rb), .val (.int (1 : Int32)), .unset, .unset] [])) _
      refine XS.iconst X64.here hx rfl (hb hby d7_8) ?_
      show Steps p.tables e below (T64.setTop (mkF m 9 #[.val (.ref a1), .val (.int q), .val (.ref rb), .val (.int (1 : Int32)), .unset, .unset] [(.int (0 : Int32))])) _
      refine XS.istore X64.here hx rfl (hb hby d7_9) rfl (l' := #[.val (.ref a1), .val (.int q), .val (.ref rb), .val (.int (1 : Int32)), .val (.int (0 : Int32)), .unset]) rfl ?_
      show Steps p.tables e below (T64.setTop (mkF m 11 #[.val (.ref a1), .val (.int q), .val (.ref rb), .val (.int (1 : Int32)), .val (.int (0 : Int32)), .unset] [])) _
      refine XS.iload X64.here hx rfl (hb hby d7_11) rfl ?_
      show Steps p.tables e below (T64.setTop (mkF m 13 #[.val (.ref a1), .val (.int q), .val (.ref rb), .val (.int (1 : Int32)), .val (.int (0 : Int32)), .unset] [(.int (0 : Int32))])) _
      refine XS.iloadN X64.here hx rfl (hb hby d7_13) rfl ?_
      show Steps p.tables e below (T64.setTop (mkF m 14 #[.val (.ref a1), .val (.int q), .val (.ref rb), .val (.int (1 : Int32)), .val (.int (0 : Int32)), .unset] [(.int (1 : Int32)), (.int (0 : Int32))])) _
      refine XS.icmpNo X64.here hx rfl (hb hby d7_14) rfl (tlt (by decide : (0 : Int32) < (1 : Int32))).2.1 ?_
      show Steps p.tables e below (T64.setTop (mkF m 17 #[.val (.ref a1), .val (.int q), .val (.ref rb), .val (.int (1 : Int32)), .val (.int (0 : Int32)), .unset] [])) _
      refine XS.aloadN X64.here hx rfl (hb hby d7_17) rfl rfl ?_
      show Steps p.tables e below (T64.setTop (mkF m 18 #[.val (.ref a1), .val (.int q), .val (.ref rb), .val (.int (1 : Int32)), .val (.int (0 : Int32)), .unset] [(.ref rb)])) _
      refine XS.iload X64.here hx rfl (hb hby d7_18) rfl ?_
      show Steps p.tables e below (T64.setTop (mkF m 20 #[.val (.ref a1), .val (.int q), .val (.ref rb), .val (.int (1 : Int32)), .val (.int (0 : Int32)), .unset] [(.int (0 : Int32)), (.ref rb)])) _
      exact h)
  obtain ⟨cl69, Ar69, q69, Sz69, Ng69, Hs69, G69⟩ := id Vb
  have hin69 : ¬ ((0 : Int32) < 0 ∨ cl69.slots.size ≤ ((0 : Int32)).toNatClampNeg) := inb_of Sz69 ⟨by decide, by decide⟩
  have hat69 : cl69.slots[((0 : Int32)).toNatClampNeg]? = some (.int x) := Hs69.at hin69 (rfl)
  have k71 : Rch p e below S0 T64 (mkF m 38 #[.val (.ref a1), .val (.int q), .val (.ref rb), .val (.int (1 : Int32)), .val (.int (1 : Int32)), .val (.int x)] [(.int (0 : Int32))]) := fun t h => k70 t (by
      show Steps p.tables e below (T64.setTop (mkF m 20 #[.val (.ref a1), .val (.int q), .val (.ref rb), .val (.int (1 : Int32)), .val (.int (0 : Int32)), .unset] [(.int (0 : Int32)), (.ref rb)])) _
      refine X64.iaload hx (j := (0 : Int32)) (v := (.int x)) (by rw [e64]; exact Ar69.1) (State.isArrayOf_alike hZ.alike Ar69.2.1) Ar69.2.2 hin69 hat69 (g := (mkF m 20 #[.val (.ref a1), .val (.int q), .val (.ref rb), .val (.int (1 : Int32)), .val (.int (0 : Int32)), .unset] [(.int (0 : Int32)), (.ref rb)])) rfl rfl (hb hby d7_20) _ ?_
      show Steps p.tables e below (T64.setTop (mkF m 21 #[.val (.ref a1), .val (.int q), .val (.ref rb), .val (.int (1 : Int32)), .val (.int (0 : Int32)), .unset] [(.int x)])) _
      refine XS.istore X64.here hx rfl (hb hby d7_21) rfl (l' := #[.val (.ref a1), .val (.int q), .val (.ref rb), .val (.int (1 : Int32)), .val (.int (0 : Int32)), .val (.int x)]) rfl ?_
      show Steps p.tables e below (T64.setTop (mkF m 23 #[.val (.ref a1), .val (.int q), .val (.ref rb), .val (.int (1 : Int32)), .val (.int (0 : Int32)), .val (.int x)] [])) _
      refine XS.iload X64.here hx rfl (hb hby d7_23) rfl ?_
      show Steps p.tables e below (T64.setTop (mkF m 25 #[.val (.ref a1), .val (.int q), .val (.ref rb), .val (.int (1 : Int32)), .val (.int (0 : Int32)), .val (.int x)] [(.int x)])) _
      refine XS.iloadN X64.here hx rfl (hb hby d7_25) rfl ?_
      show Steps p.tables e below (T64.setTop (mkF m 26 #[.val (.ref a1), .val (.int q), .val (.ref rb), .val (.int (1 : Int32)), .val (.int (0 : Int32)), .val (.int x)] [(.int q), (.int x)])) _
      refine XS.icmpYes X64.here hx rfl (pc0 := 26) (pc' := 31) rfl (hb hby d7_26) rfl (feq (hq : ¬ (x = q))).2 (by decide) (by decide) ?_
      show Steps p.tables e below (T64.setTop (mkF m 31 #[.val (.ref a1), .val (.int q), .val (.ref rb), .val (.int (1 : Int32)), .val (.int (0 : Int32)), .val (.int x)] [])) _
      refine XS.iinc X64.here hx rfl (hb hby d7_31) rfl (l' := #[.val (.ref a1), .val (.int q), .val (.ref rb), .val (.int (1 : Int32)), .val (.int ((0 : Int32) + (1 : Int32))), .val (.int x)]) rfl ?_
      rw [(by decide : ((0 : Int32) + (1 : Int32)) = (1 : Int32))]
      show Steps p.tables e below (T64.setTop (mkF m 34 #[.val (.ref a1), .val (.int q), .val (.ref rb), .val (.int (1 : Int32)), .val (.int (1 : Int32)), .val (.int x)] [])) _
      refine XS.goto X64.here hx rfl (pc0 := 34) (pc' := 11) rfl (hb hby d7_34) (by decide) (by decide) ?_
      show Steps p.tables e below (T64.setTop (mkF m 11 #[.val (.ref a1), .val (.int q), .val (.ref rb), .val (.int (1 : Int32)), .val (.int (1 : Int32)), .val (.int x)] [])) _
      refine XS.iload X64.here hx rfl (hb hby d7_11) rfl ?_
      show Steps p.tables e below (T64.setTop (mkF m 13 #[.val (.ref a1), .val (.int q), .val (.ref rb), .val (.int (1 : Int32)), .val (.int (1 : Int32)), .val (.int x)] [(.int (1 : Int32))])) _
      refine XS.iloadN X64.here hx rfl (hb hby d7_13) rfl ?_
      show Steps p.tables e below (T64.setTop (mkF m 14 #[.val (.ref a1), .val (.int q), .val (.ref rb), .val (.int (1 : Int32)), .val (.int (1 : Int32)), .val (.int x)] [(.int (1 : Int32)), (.int (1 : Int32))])) _
      refine XS.icmpYes X64.here hx rfl (pc0 := 14) (pc' := 37) rfl (hb hby d7_14) rfl (flt (by decide : ¬ ((1 : Int32) < (1 : Int32)))).2.1 (by decide) (by decide) ?_
      show Steps p.tables e below (T64.setTop (mkF m 37 #[.val (.ref a1), .val (.int q), .val (.ref rb), .val (.int (1 : Int32)), .val (.int (1 : Int32)), .val (.int x)] [])) _
      refine XS.iconst X64.here hx rfl (hb hby d7_37) ?_
      show Steps p.tables e below (T64.setTop (mkF m 38 #[.val (.ref a1), .val (.int q), .val (.ref rb), .val (.int (1 : Int32)), .val (.int (1 : Int32)), .val (.int x)] [(.int (0 : Int32))])) _
      exact h)
  obtain ⟨fs, hr, hrun, hended, hW, hsame⟩ := X64.leave (v := (some (.int (0 : Int32)))) (fun h => by rw [Bd.returns] at h; cases h)
  refine ⟨_, _, ?_, hrun, hended, _, _, rfl, ?_, ⟨_, rfl⟩, hW, hsame.mono (by decide) (by decide)⟩
  · rw [← hS0]
    refine k71 _ ?_
    show Steps p.tables e below (T64.setTop (mkF m 38 #[.val (.ref a1), .val (.int q), .val (.ref rb), .val (.int (1 : Int32)), .val (.int (1 : Int32)), .val (.int x)] [(.int (0 : Int32))])) _
    exact retN X64 hx (t := .boolean) Bd.returns (by simp) (hb hby d7_38) hr
  · show Q_rmPa_n Z  h0 n0 _ T64.heap _
    rw [e64]
    exact ⟨rfl, N0, rfl⟩
def Q_rmRC (Z : State)  (h0 : Heap) (n0 : Nat) (v : Option Value) (h : Heap) (L : List Loc) : Prop := v = none ∧ Fr n0 L ∧ h = h0
theorem ef_10 (m : MethodId) (x0 : Int32) (x1 : Int32) (x2 : Int32) : entryFrame m #[(.int x0), (.int x1), (.int x2)] 3 = mkF m 0 #[.val (.int x0), .val (.int x1), .val (.int x2)] [] := by first | (simp [entryFrame, mkF, argsToLocals, Value.category]; done) | rfl
theorem pn_Arrays : plainName "java/util/Arrays" = true := by first | (simp [plainName, overriddenIn]; done) | decide +kernel
theorem d10_0 : decode jdk_65_method_30_code 0 = .ok (.iload_n 1, 1) := by decide +kernel
theorem d10_1 : decode jdk_65_method_30_code 1 = .ok (.iload_n 2, 1) := by decide +kernel
theorem d10_2 : decode jdk_65_method_30_code 2 = .ok (.if_icmp .le 44, 3) := by decide +kernel
theorem d10_46 : decode jdk_65_method_30_code 46 = .ok (.iload_n 1, 1) := by decide +kernel
theorem d10_47 : decode jdk_65_method_30_code 47 = .ok (.ifCond .ge 12, 3) := by decide +kernel
theorem d10_59 : decode jdk_65_method_30_code 59 = .ok (.iload_n 2, 1) := by decide +kernel
theorem d10_60 : decode jdk_65_method_30_code 60 = .ok (.iload_n 0, 1) := by decide +kernel
theorem d10_61 : decode jdk_65_method_30_code 61 = .ok (.if_icmp .le 12, 3) := by decide +kernel
theorem d10_73 : decode jdk_65_method_30_code 73 = .ok (.return_, 1) := by decide +kernel
set_option maxRecDepth 65536 in
set_option maxHeartbeats 40000000 in
theorem rmRC (l : Launch) (Z : State) (a0 : Array Value) (hw : ∀ d ∈ tables_1, d.before a0 Z = true) (ws : List Jvm.Cond)  (h0 : Heap) (n0 : Nat) (O0 : Old Z n0 h0) :
    MetFree l (⟨"java/util/Arrays", "rangeCheck", "(III)V"⟩ : MethodName) (head1 (Jvm.Cond.code (⟨"java/util/Arrays", "rangeCheck", "(III)V"⟩ : MethodName) jdk_65_method_30_code 3 none :: ws) ({ frames := 0, cells := 0, slots := 0, locals := 0 } : Room)) (fun a U => a = #[(.int (1 : Int32)), (.int (0 : Int32)), (.int (1 : Int32))] ∧ Z.Warmed39 U.vm ∧ U.heap = h0) (fun _ _ _ _ _ => True) (fun _ U o U' => ∃ v L, o = .returned v ∧ Q_rmRC Z  h0 n0 v U'.heap L ∧ FrameEnd U o U' L ({ frames := 0, cells := 0, slots := 0, locals := 0 } : Room).cells ({ frames := 0, cells := 0, slots := 0, locals := 0 } : Room).slots) := by
  refine MetFree.of_bodySF (plainFor_of_name pn_Arrays) hisR ?_
  intro p e s m args below meth c s₁ Bd hml0 hP hK
  obtain ⟨rfl, hZ, hh⟩ := hP
  have hx := Bd.exec
  have hby := Bd.bytes
  have hml : c.maxLocals = 3 := hml0
  have hown : s.vm.findClass "java/util/Arrays" = some m.cls := findClass_of_methodNamed Bd.named
  have hnm := (name_of_methodNamed Bd.named Bd.method).1
  have X0 : Stand p l e ({ frames := 0, cells := 0, slots := 0, locals := 0 } : Room) s m #[(.int (1 : Int32)), (.int (0 : Int32)), (.int (1 : Int32))] below meth c s₁ [] 0 0 := Stand.of_body Bd
  have e0 : s₁.heap = h0 := by rw [← hh, Bd.state]; rfl
  have N0 := Fr.nil n0
  obtain ⟨S0, hS0⟩ : ∃ z, z = s₁.setTop (entryFrame m #[(.int (1 : Int32)), (.int (0 : Int32)), (.int (1 : Int32))] 3) := ⟨_, rfl⟩
  have k0 : Rch p e below S0 s₁ (mkF m 0 #[.val (.int (1 : Int32)), .val (.int (0 : Int32)), .val (.int (1 : Int32))] []) := fun t k => hS0 ▸ castTop (ef_10 m (1 : Int32) (0 : Int32) (1 : Int32)) k
  have k72 : Rch p e below S0 s₁ (mkF m 73 #[.val (.int (1 : Int32)), .val (.int (0 : Int32)), .val (.int (1 : Int32))] []) := fun t h => k0 t (by
      show Steps p.tables e below (s₁.setTop (mkF m 0 #[.val (.int (1 : Int32)), .val (.int (0 : Int32)), .val (.int (1 : Int32))] [])) _
      refine XS.iloadN X0.here hx rfl (hb hby d10_0) rfl ?_
      show Steps p.tables e below (s₁.setTop (mkF m 1 #[.val (.int (1 : Int32)), .val (.int (0 : Int32)), .val (.int (1 : Int32))] [(.int (0 : Int32))])) _
      refine XS.iloadN X0.here hx rfl (hb hby d10_1) rfl ?_
      show Steps p.tables e below (s₁.setTop (mkF m 2 #[.val (.int (1 : Int32)), .val (.int (0 : Int32)), .val (.int (1 : Int32))] [(.int (1 : Int32)), (.int (0 : Int32))])) _
      refine XS.icmpYes X0.here hx rfl (pc0 := 2) (pc' := 46) rfl (hb hby d10_2) rfl (flt (by decide : ¬ ((1 : Int32) < (0 : Int32)))).2.2.2 (by decide) (by decide) ?_
      show Steps p.tables e below (s₁.setTop (mkF m 46 #[.val (.int (1 : Int32)), .val (.int (0 : Int32)), .val (.int (1 : Int32))] [])) _
      refine XS.iloadN X0.here hx rfl (hb hby d10_46) rfl ?_
      show Steps p.tables e below (s₁.setTop (mkF m 47 #[.val (.int (1 : Int32)), .val (.int (0 : Int32)), .val (.int (1 : Int32))] [(.int (0 : Int32))])) _
      refine XS.ifYes X0.here hx rfl (pc0 := 47) (pc' := 59) rfl (hb hby d10_47) rfl ((if0 _ _).trans (flt (by decide : ¬ ((0 : Int32) < (0 : Int32)))).2.1) (by decide) (by decide) ?_
      show Steps p.tables e below (s₁.setTop (mkF m 59 #[.val (.int (1 : Int32)), .val (.int (0 : Int32)), .val (.int (1 : Int32))] [])) _
      refine XS.iloadN X0.here hx rfl (hb hby d10_59) rfl ?_
      show Steps p.tables e below (s₁.setTop (mkF m 60 #[.val (.int (1 : Int32)), .val (.int (0 : Int32)), .val (.int (1 : Int32))] [(.int (1 : Int32))])) _
      refine XS.iloadN X0.here hx rfl (hb hby d10_60) rfl ?_
      show Steps p.tables e below (s₁.setTop (mkF m 61 #[.val (.int (1 : Int32)), .val (.int (0 : Int32)), .val (.int (1 : Int32))] [(.int (1 : Int32)), (.int (1 : Int32))])) _
      refine XS.icmpYes X0.here hx rfl (pc0 := 61) (pc' := 73) rfl (hb hby d10_61) rfl (flt (by decide : ¬ ((1 : Int32) < (1 : Int32)))).2.2.2 (by decide) (by decide) ?_
      show Steps p.tables e below (s₁.setTop (mkF m 73 #[.val (.int (1 : Int32)), .val (.int (0 : Int32)), .val (.int (1 : Int32))] [])) _
      exact h)
  obtain ⟨fs, hr, hrun, hended, hW, hsame⟩ := X0.leave (v := none) (fun _ => rfl)
  refine ⟨_, _, ?_, hrun, hended, _, _, rfl, ?_, ⟨_, rfl⟩, hW, hsame.mono (by decide) (by decide)⟩
  · rw [← hS0]
    refine k72 _ ?_
    show Steps p.tables e below (s₁.setTop (mkF m 73 #[.val (.int (1 : Int32)), .val (.int (0 : Int32)), .val (.int (1 : Int32))] [])) _
    exact X0.returnOut hx Bd.returns (hb hby d10_73) hr
  · show Q_rmRC Z  h0 n0 _ s₁.heap _
    rw [e0]
    exact ⟨rfl, N0, rfl⟩
def Q_rmM5e (Z : State)  (h0 : Heap) (n0 : Nat) (v : Option Value) (h : Heap) (L : List Loc) : Prop := v = some (.int (-1 : Int32)) ∧ Fr n0 L ∧ h = h0
theorem ef_11 (m : MethodId) (x0 : Addr) (x1 : Int32) (x2 : Addr) (x3 : Int32) (x4 : Int32) : entryFrame m #[(.ref x0), (.int x1), (.ref x2), (.int x3), (.int x4)] 8 = mkF m 0 #[.val (.ref x0), .val (.int x1), .val (.ref x2), .val (.int x3), .val (.int x4), .unset, .unset, .unset] [] := by first | (simp [entryFrame, mkF, argsToLocals, Value.category]; done) | rfl
theorem pn_ArraysSupport : plainName "jdk/internal/util/ArraysSupport" = true := by first | (simp [plainName, overriddenIn]; done) | decide +kernel
theorem d11_0 : decode jdk_48_method_20_code 0 = .ok (.iconst 0, 1) := by decide +kernel
theorem d11_1 : decode jdk_48_method_20_code 1 = .ok (.istore 5, 2) := by decide +kernel
theorem d11_3 : decode jdk_48_method_20_code 3 = .ok (.iload 4, 2) := by decide +kernel
theorem d11_5 : decode jdk_48_method_20_code 5 = .ok (.iconst 1, 1) := by decide +kernel
theorem d11_6 : decode jdk_48_method_20_code 6 = .ok (.if_icmp .le 71, 3) := by decide +kernel
theorem d11_77 : decode jdk_48_method_20_code 77 = .ok (.iload 5, 2) := by decide +kernel
theorem d11_79 : decode jdk_48_method_20_code 79 = .ok (.iload 4, 2) := by decide +kernel
theorem d11_81 : decode jdk_48_method_20_code 81 = .ok (.if_icmp .ge 27, 3) := by decide +kernel
theorem d11_84 : decode jdk_48_method_20_code 84 = .ok (.aload_n 0, 1) := by decide +kernel
theorem d11_85 : decode jdk_48_method_20_code 85 = .ok (.iload_n 1, 1) := by decide +kernel
theorem d11_86 : decode jdk_48_method_20_code 86 = .ok (.iload 5, 2) := by decide +kernel
theorem d11_88 : decode jdk_48_method_20_code 88 = .ok (.iadd, 1) := by decide +kernel
theorem d11_89 : decode jdk_48_method_20_code 89 = .ok (.iaload, 1) := by decide +kernel
theorem d11_90 : decode jdk_48_method_20_code 90 = .ok (.aload_n 2, 1) := by decide +kernel
theorem d11_91 : decode jdk_48_method_20_code 91 = .ok (.iload_n 3, 1) := by decide +kernel
theorem d11_92 : decode jdk_48_method_20_code 92 = .ok (.iload 5, 2) := by decide +kernel
theorem d11_94 : decode jdk_48_method_20_code 94 = .ok (.iadd, 1) := by decide +kernel
theorem d11_95 : decode jdk_48_method_20_code 95 = .ok (.iaload, 1) := by decide +kernel
theorem d11_96 : decode jdk_48_method_20_code 96 = .ok (.if_icmp .eq 6, 3) := by decide +kernel
theorem d11_102 : decode jdk_48_method_20_code 102 = .ok (.iinc 5 1, 3) := by decide +kernel
theorem d11_105 : decode jdk_48_method_20_code 105 = .ok (.goto (-28), 3) := by decide +kernel
theorem d11_108 : decode jdk_48_method_20_code 108 = .ok (.iconst (-1), 1) := by decide +kernel
theorem d11_109 : decode jdk_48_method_20_code 109 = .ok (.ireturn, 1) := by decide +kernel
set_option maxRecDepth 65536 in
set_option maxHeartbeats 40000000 in
theorem rmM5e (l : Launch) (Z : State) (a0 : Array Value) (hw : ∀ d ∈ tables_1, d.before a0 Z = true) (ws : List Jvm.Cond) (ra : Addr) (ka : ClassId) (x : Int32) (rb : Addr) (kb : ClassId) (y : Int32) (h0 : Heap) (n0 : Nat) (O0 : Old Z n0 h0) (Va : Arv Z h0 ra ka .int (1 : Int32) [.int x] (.int (0 : Int32))) (Vb : Arv Z h0 rb kb .int (1 : Int32) [.int y] (.int (0 : Int32))) (hq : x = y) :
    MetFree l (⟨"jdk/internal/util/ArraysSupport", "mismatch", "([II[III)I"⟩ : MethodName) (head1 (Jvm.Cond.code (⟨"jdk/internal/util/ArraysSupport", "mismatch", "([II[III)I"⟩ : MethodName) jdk_48_method_20_code 8 (some .int) :: ws) ({ frames := 0, cells := 0, slots := 0, locals := 0 } : Room)) (fun a U => a = #[(.ref ra), (.int (0 : Int32)), (.ref rb), (.int (0 : Int32)), (.int (1 : Int32))] ∧ Z.Warmed39 U.vm ∧ U.heap = h0) (fun _ _ _ _ _ => True) (fun _ U o U' => ∃ v L, o = .returned v ∧ Q_rmM5e Z  h0 n0 v U'.heap L ∧ FrameEnd U o U' L ({ frames := 0, cells := 0, slots := 0, locals := 0 } : Room).cells ({ frames := 0, cells := 0, slots := 0, locals := 0 } : Room).slots) := by
  refine MetFree.of_bodySF (plainFor_of_name pn_ArraysSupport) hisR ?_
  intro p e s m args below meth c s₁ Bd hml0 hP hK
  obtain ⟨rfl, hZ, hh⟩ := hP
  have hx := Bd.exec
  have hby := Bd.bytes
  have hml : c.maxLocals = 8 := hml0
  have hown : s.vm.findClass "jdk/internal/util/ArraysSupport" = some m.cls := findClass_of_methodNamed Bd.named
  have hnm := (name_of_methodNamed Bd.named Bd.method).1
  have X0 : Stand p l e ({ frames := 0, cells := 0, slots := 0, locals := 0 } : Room) s m #[(.ref ra), (.int (0 : Int32)), (.ref rb), (.int (0 : Int32)), (.int (1 : Int32))] below meth c s₁ [] 0 0 := Stand.of_body Bd
  have e0 : s₁.heap = h0 := by rw [← hh, Bd.state]; rfl
  have N0 := Fr.nil n0
  obtain ⟨S0, hS0⟩ : ∃ z, z = s₁.setTop (entryFrame m #[(.ref ra), (.int (0 : Int32)), (.ref rb), (.int (0 : Int32)), (.int (1 : Int32))] 8) := ⟨_, rfl⟩
  have k0 : Rch p e below S0 s₁ (mkF m 0 #[.val (.ref ra), .val (.int (0 : Int32)), .val (.ref rb), .val (.int (0 : Int32)), .val (.int (1 : Int32)), .unset, .unset, .unset] []) := fun t k => hS0 ▸ castTop (ef_11 m ra (0 : Int32) rb (0 : Int32) (1 : Int32)) k
  have k74 : Rch p e below S0 s₁ (mkF m 89 #[.val (.ref ra), .val (.int (0 : Int32)), .val (.ref rb), .val (.int (0 : Int32)), .val (.int (1 : Int32)), .val (.int (0 : Int32)), .unset, .unset] [(.int (0 : Int32)), (.ref ra)]) := fun t h => k0 t (by
      show Steps p.tables e below (s₁.setTop (mkF m 0 #[.val (.ref ra), .val (.int (0 : Int32)), .val (.ref rb), .val (.int (0 : Int32)), .val (.int (1 : Int32)), .unset, .unset, .unset] [])) _
      refine XS.iconst X0.here hx rfl (hb hby d11_0) ?_
      show Steps p.tables e below (s₁.setTop (mkF m 1 #[.val (.ref ra), .val (.int (0 : Int32)), .val (.ref rb), .val (.int (0 : Int32)), .val (.int (1 : Int32)), .unset, .unset, .unset] [(.int (0 : Int32))])) _
      refine XS.istore X0.here hx rfl (hb hby d11_1) rfl (l' := #[.val (.ref ra), .val (.int (0 : Int32)), .val (.ref rb), .val (.int (0 : Int32)), .val (.int (1 : Int32)), .val (.int (0 : Int32)), .unset, .unset]) rfl ?_
      show Steps p.tables e below (s₁.setTop (mkF m 3 #[.val (.ref ra), .val (.int (0 : Int32)), .val (.ref rb), .val (.int (0 : Int32)), .val (.int (1 : Int32)), .val (.int (0 : Int32)), .unset, .unset] [])) _
      refine XS.iload X0.here hx rfl (hb hby d11_3) rfl ?_
      show Steps p.tables e below (s₁.setTop (mkF m 5 #[.val (.ref ra), .val (.int (0 : Int32)), .val (.ref rb), .val (.int (0 : Int32)), .val (.int (1 : Int32)), .val (.int (0 : Int32)), .unset, .unset] [(.int (1 : Int32))])) _
      refine XS.iconst X0.here hx rfl (hb hby d11_5) ?_
      show Steps p.tables e below (s₁.setTop (mkF m 6 #[.val (.ref ra), .val (.int (0 : Int32)), .val (.ref rb), .val (.int (0 : Int32)), .val (.int (1 : Int32)), .val (.int (0 : Int32)), .unset, .unset] [(.int (1 : Int32)), (.int (1 : Int32))])) _
      refine XS.icmpYes X0.here hx rfl (pc0 := 6) (pc' := 77) rfl (hb hby d11_6) rfl (flt (by decide : ¬ ((1 : Int32) < (1 : Int32)))).2.2.2 (by decide) (by decide) ?_
      show Steps p.tables e below (s₁.setTop (mkF m 77 #[.val (.ref ra), .val (.int (0 : Int32)), .val (.ref rb), .val (.int (0 : Int32)), .val (.int (1 : Int32)), .val (.int (0 : Int32)), .unset, .unset] [])) _
      refine XS.iload X0.here hx rfl (hb hby d11_77) rfl ?_
      show Steps p.tables e below (s₁.setTop (mkF m 79 #[.val (.ref ra), .val (.int (0 : Int32)), .val (.ref rb), .val (.int (0 : Int32)), .val (.int (1 : Int32)), .val (.int (0 : Int32)), .unset, .unset] [(.int (0 : Int32))])) _
      refine XS.iload X0.here hx rfl (hb hby d11_79) rfl ?_
      show Steps p.tables e below (s₁.setTop (mkF m 81 #[.val (.ref ra), .val (.int (0 : Int32)), .val (.ref rb), .val (.int (0 : Int32)), .val (.int (1 : Int32)), .val (.int (0 : Int32)), .unset, .unset] [(.int (1 : Int32)), (.int (0 : Int32))])) _
      refine XS.icmpNo X0.here hx rfl (hb hby d11_81) rfl (tlt (by decide : (0 : Int32) < (1 : Int32))).2.1 ?_
      show Steps p.tables e below (s₁.setTop (mkF m 84 #[.val (.ref ra), .val (.int (0 : Int32)), .val (.ref rb), .val (.int (0 : Int32)), .val (.int (1 : Int32)), .val (.int (0 : Int32)), .unset, .unset] [])) _
      refine XS.aloadN X0.here hx rfl (hb hby d11_84) rfl rfl ?_
      show Steps p.tables e below (s₁.setTop (mkF m 85 #[.val (.ref ra), .val (.int (0 : Int32)), .val (.ref rb), .val (.int (0 : Int32)), .val (.int (1 : Int32)), .val (.int (0 : Int32)), .unset, .unset] [(.ref ra)])) _
      refine XS.iloadN X0.here hx rfl (hb hby d11_85) rfl ?_
      show Steps p.tables e below (s₁.setTop (mkF m 86 #[.val (.ref ra), .val (.int (0 : Int32)), .val (.ref rb), .val (.int (0 : Int32)), .val (.int (1 : Int32)), .val (.int (0 : Int32)), .unset, .unset] [(.int (0 : Int32)), (.ref ra)])) _
      refine XS.iload X0.here hx rfl (hb hby d11_86) rfl ?_
      show Steps p.tables e below (s₁.setTop (mkF m 88 #[.val (.ref ra), .val (.int (0 : Int32)), .val (.ref rb), .val (.int (0 : Int32)), .val (.int (1 : Int32)), .val (.int (0 : Int32)), .unset, .unset] [(.int (0 : Int32)), (.int (0 : Int32)), (.ref ra)])) _
      refine XS.iadd X0.here hx rfl (hb hby d11_88) rfl ?_
      rw [(by decide : ((0 : Int32) + (0 : Int32)) = (0 : Int32))]
      show Steps p.tables e below (s₁.setTop (mkF m 89 #[.val (.ref ra), .val (.int (0 : Int32)), .val (.ref rb), .val (.int (0 : Int32)), .val (.int (1 : Int32)), .val (.int (0 : Int32)), .unset, .unset] [(.int (0 : Int32)), (.ref ra)])) _
      exact h)
  obtain ⟨cl73, Ar73, q73, Sz73, Ng73, Hs73, G73⟩ := id Va
  have hin73 : ¬ ((0 : Int32) < 0 ∨ cl73.slots.size ≤ ((0 : Int32)).toNatClampNeg) := inb_of Sz73 ⟨by decide, by decide⟩
  have hat73 : cl73.slots[((0 : Int32)).toNatClampNeg]? = some (.int x) := Hs73.at hin73 (rfl)
  have k76 : Rch p e below S0 s₁ (mkF m 95 #[.val (.ref ra), .val (.int (0 : Int32)), .val (.ref rb), .val (.int (0 : Int32)), .val (.int (1 : Int32)), .val (.int (0 : Int32)), .unset, .unset] [(.int (0 : Int32)), (.ref rb), (.int x)]) := fun t h => k74 t (by
      show Steps p.tables e below (s₁.setTop (mkF m 89 #[.val (.ref ra), .val (.int (0 : Int32)), .val (.ref rb), .val (.int (0 : Int32)), .val (.int (1 : Int32)), .val (.int (0 : Int32)), .unset, .unset] [(.int (0 : Int32)), (.ref ra)])) _
      refine X0.iaload hx (j := (0 : Int32)) (v := (.int x)) (by rw [e0]; exact Ar73.1) (State.isArrayOf_alike hZ.alike Ar73.2.1) Ar73.2.2 hin73 hat73 (g := (mkF m 89 #[.val (.ref ra), .val (.int (0 : Int32)), .val (.ref rb), .val (.int (0 : Int32)), .val (.int (1 : Int32)), .val (.int (0 : Int32)), .unset, .unset] [(.int (0 : Int32)), (.ref ra)])) rfl rfl (hb hby d11_89) _ ?_
      show Steps p.tables e below (s₁.setTop (mkF m 90 #[.val (.ref ra), .val (.int (0 : Int32)), .val (.ref rb), .val (.int (0 : Int32)), .val (.int (1 : Int32)), .val (.int (0 : Int32)), .unset, .unset] [(.int x)])) _
      refine XS.aloadN X0.here hx rfl (hb hby d11_90) rfl rfl ?_
      show Steps p.tables e below (s₁.setTop (mkF m 91 #[.val (.ref ra), .val (.int (0 : Int32)), .val (.ref rb), .val (.int (0 : Int32)), .val (.int (1 : Int32)), .val (.int (0 : Int32)), .unset, .unset] [(.ref rb), (.int x)])) _
      refine XS.iloadN X0.here hx rfl (hb hby d11_91) rfl ?_
      show Steps p.tables e below (s₁.setTop (mkF m 92 #[.val (.ref ra), .val (.int (0 : Int32)), .val (.ref rb), .val (.int (0 : Int32)), .val (.int (1 : Int32)), .val (.int (0 : Int32)), .unset, .unset] [(.int (0 : Int32)), (.ref rb), (.int x)])) _
      refine XS.iload X0.here hx rfl (hb hby d11_92) rfl ?_
      show Steps p.tables e below (s₁.setTop (mkF m 94 #[.val (.ref ra), .val (.int (0 : Int32)), .val (.ref rb), .val (.int (0 : Int32)), .val (.int (1 : Int32)), .val (.int (0 : Int32)), .unset, .unset] [(.int (0 : Int32)), (.int (0 : Int32)), (.ref rb), (.int x)])) _
      refine XS.iadd X0.here hx rfl (hb hby d11_94) rfl ?_
      rw [(by decide : ((0 : Int32) + (0 : Int32)) = (0 : Int32))]
      show Steps p.tables e below (s₁.setTop (mkF m 95 #[.val (.ref ra), .val (.int (0 : Int32)), .val (.ref rb), .val (.int (0 : Int32)), .val (.int (1 : Int32)), .val (.int (0 : Int32)), .unset, .unset] [(.int (0 : Int32)), (.ref rb), (.int x)])) _
      exact h)
  obtain ⟨cl75, Ar75, q75, Sz75, Ng75, Hs75, G75⟩ := id Vb
  have hin75 : ¬ ((0 : Int32) < 0 ∨ cl75.slots.size ≤ ((0 : Int32)).toNatClampNeg) := inb_of Sz75 ⟨by decide, by decide⟩
  have hat75 : cl75.slots[((0 : Int32)).toNatClampNeg]? = some (.int y) := Hs75.at hin75 (rfl)
  have k77 : Rch p e below S0 s₁ (mkF m 109 #[.val (.ref ra), .val (.int (0 : Int32)), .val (.ref rb), .val (.int (0 : Int32)), .val (.int (1 : Int32)), .val (.int (1 : Int32)), .unset, .unset] [(.int (-1 : Int32))]) := fun t h => k76 t (by
      show Steps p.tables e below (s₁.setTop (mkF m 95 #[.val (.ref ra), .val (.int (0 : Int32)), .val (.ref rb), .val (.int (0 : Int32)), .val (.int (1 : Int32)), .val (.int (0 : Int32)), .unset, .unset] [(.int (0 : Int32)), (.ref rb), (.int x)])) _
      refine X0.iaload hx (j := (0 : Int32)) (v := (.int y)) (by rw [e0]; exact Ar75.1) (State.isArrayOf_alike hZ.alike Ar75.2.1) Ar75.2.2 hin75 hat75 (g := (mkF m 95 #[.val (.ref ra), .val (.int (0 : Int32)), .val (.ref rb), .val (.int (0 : Int32)), .val (.int (1 : Int32)), .val (.int (0 : Int32)), .unset, .unset] [(.int (0 : Int32)), (.ref rb), (.int x)])) rfl rfl (hb hby d11_95) _ ?_
      show Steps p.tables e below (s₁.setTop (mkF m 96 #[.val (.ref ra), .val (.int (0 : Int32)), .val (.ref rb), .val (.int (0 : Int32)), .val (.int (1 : Int32)), .val (.int (0 : Int32)), .unset, .unset] [(.int y), (.int x)])) _
      refine XS.icmpYes X0.here hx rfl (pc0 := 96) (pc' := 102) rfl (hb hby d11_96) rfl (teq (hq : x = y)).1 (by decide) (by decide) ?_
      show Steps p.tables e below (s₁.setTop (mkF m 102 #[.val (.ref ra), .val (.int (0 : Int32)), .val (.ref rb), .val (.int (0 : Int32)), .val (.int (1 : Int32)), .val (.int (0 : Int32)), .unset, .unset] [])) _
      refine XS.iinc X0.here hx rfl (hb hby d11_102) rfl (l' := #[.val (.ref ra), .val (.int (0 : Int32)), .val (.ref rb), .val (.int (0 : Int32)), .val (.int (1 : Int32)), .val (.int ((0 : Int32) + (1 : Int32))), .unset, .unset]) rfl ?_
      rw [(by decide : ((0 : Int32) + (1 : Int32)) = (1 : Int32))]
      show Steps p.tables e below (s₁.setTop (mkF m 105 #[.val (.ref ra), .val (.int (0 : Int32)), .val (.ref rb), .val (.int (0 : Int32)), .val (.int (1 : Int32)), .val (.int (1 : Int32)), .unset, .unset] [])) _
      refine XS.goto X0.here hx rfl (pc0 := 105) (pc' := 77) rfl (hb hby d11_105) (by decide) (by decide) ?_
      show Steps p.tables e below (s₁.setTop (mkF m 77 #[.val (.ref ra), .val (.int (0 : Int32)), .val (.ref rb), .val (.int (0 : Int32)), .val (.int (1 : Int32)), .val (.int (1 : Int32)), .unset, .unset] [])) _
      refine XS.iload X0.here hx rfl (hb hby d11_77) rfl ?_
      show Steps p.tables e below (s₁.setTop (mkF m 79 #[.val (.ref ra), .val (.int (0 : Int32)), .val (.ref rb), .val (.int (0 : Int32)), .val (.int (1 : Int32)), .val (.int (1 : Int32)), .unset, .unset] [(.int (1 : Int32))])) _
      refine XS.iload X0.here hx rfl (hb hby d11_79) rfl ?_
      show Steps p.tables e below (s₁.setTop (mkF m 81 #[.val (.ref ra), .val (.int (0 : Int32)), .val (.ref rb), .val (.int (0 : Int32)), .val (.int (1 : Int32)), .val (.int (1 : Int32)), .unset, .unset] [(.int (1 : Int32)), (.int (1 : Int32))])) _
      refine XS.icmpYes X0.here hx rfl (pc0 := 81) (pc' := 108) rfl (hb hby d11_81) rfl (flt (by decide : ¬ ((1 : Int32) < (1 : Int32)))).2.1 (by decide) (by decide) ?_
      show Steps p.tables e below (s₁.setTop (mkF m 108 #[.val (.ref ra), .val (.int (0 : Int32)), .val (.ref rb), .val (.int (0 : Int32)), .val (.int (1 : Int32)), .val (.int (1 : Int32)), .unset, .unset] [])) _
      refine XS.iconst X0.here hx rfl (hb hby d11_108) ?_
      show Steps p.tables e below (s₁.setTop (mkF m 109 #[.val (.ref ra), .val (.int (0 : Int32)), .val (.ref rb), .val (.int (0 : Int32)), .val (.int (1 : Int32)), .val (.int (1 : Int32)), .unset, .unset] [(.int (-1 : Int32))])) _
      exact h)
  obtain ⟨fs, hr, hrun, hended, hW, hsame⟩ := X0.leave (v := (some (.int (-1 : Int32)))) (fun h => by rw [Bd.returns] at h; cases h)
  refine ⟨_, _, ?_, hrun, hended, _, _, rfl, ?_, ⟨_, rfl⟩, hW, hsame.mono (by decide) (by decide)⟩
  · rw [← hS0]
    refine k77 _ ?_
    show Steps p.tables e below (s₁.setTop (mkF m 109 #[.val (.ref ra), .val (.int (0 : Int32)), .val (.ref rb), .val (.int (0 : Int32)), .val (.int (1 : Int32)), .val (.int (1 : Int32)), .unset, .unset] [(.int (-1 : Int32))])) _
    exact retI X0 hx Bd.returns (hb hby d11_109) hr
  · show Q_rmM5e Z  h0 n0 _ s₁.heap _
    rw [e0]
    exact ⟨rfl, N0, rfl⟩
def Q_rmM5n (Z : State)  (h0 : Heap) (n0 : Nat) (v : Option Value) (h : Heap) (L : List Loc) : Prop := v = some (.int (0 : Int32)) ∧ Fr n0 L ∧ h = h0
theorem d11_99 : decode jdk_48_method_20_code 99 = .ok (.iload 5, 2) := by decide +kernel
theorem d11_101 : decode jdk_48_method_20_code 101 = .ok (.ireturn, 1) := by decide +kernel
set_option maxRecDepth 65536 in
set_option maxHeartbeats 40000000 in
theorem rmM5n (l : Launch) (Z : State) (a0 : Array Value) (hw : ∀ d ∈ tables_1, d.before a0 Z = true) (ws : List Jvm.Cond) (ra : Addr) (ka : ClassId) (x : Int32) (rb : Addr) (kb : ClassId) (y : Int32) (h0 : Heap) (n0 : Nat) (O0 : Old Z n0 h0) (Va : Arv Z h0 ra ka .int (1 : Int32) [.int x] (.int (0 : Int32))) (Vb : Arv Z h0 rb kb .int (1 : Int32) [.int y] (.int (0 : Int32))) (hq : ¬ (x = y)) :
    MetFree l (⟨"jdk/internal/util/ArraysSupport", "mismatch", "([II[III)I"⟩ : MethodName) (head1 (Jvm.Cond.code (⟨"jdk/internal/util/ArraysSupport", "mismatch", "([II[III)I"⟩ : MethodName) jdk_48_method_20_code 8 (some .int) :: ws) ({ frames := 0, cells := 0, slots := 0, locals := 0 } : Room)) (fun a U => a = #[(.ref ra), (.int (0 : Int32)), (.ref rb), (.int (0 : Int32)), (.int (1 : Int32))] ∧ Z.Warmed39 U.vm ∧ U.heap = h0) (fun _ _ _ _ _ => True) (fun _ U o U' => ∃ v L, o = .returned v ∧ Q_rmM5n Z  h0 n0 v U'.heap L ∧ FrameEnd U o U' L ({ frames := 0, cells := 0, slots := 0, locals := 0 } : Room).cells ({ frames := 0, cells := 0, slots := 0, locals := 0 } : Room).slots) := by
  refine MetFree.of_bodySF (plainFor_of_name pn_ArraysSupport) hisR ?_
  intro p e s m args below meth c s₁ Bd hml0 hP hK
  obtain ⟨rfl, hZ, hh⟩ := hP
  have hx := Bd.exec
  have hby := Bd.bytes
  have hml : c.maxLocals = 8 := hml0
  have hown : s.vm.findClass "jdk/internal/util/ArraysSupport" = some m.cls := findClass_of_methodNamed Bd.named
  have hnm := (name_of_methodNamed Bd.named Bd.method).1
  have X0 : Stand p l e ({ frames := 0, cells := 0, slots := 0, locals := 0 } : Room) s m #[(.ref ra), (.int (0 : Int32)), (.ref rb), (.int (0 : Int32)), (.int (1 : Int32))] below meth c s₁ [] 0 0 := Stand.of_body Bd
  have e0 : s₁.heap = h0 := by rw [← hh, Bd.state]; rfl
  have N0 := Fr.nil n0
  obtain ⟨S0, hS0⟩ : ∃ z, z = s₁.setTop (entryFrame m #[(.ref ra), (.int (0 : Int32)), (.ref rb), (.int (0 : Int32)), (.int (1 : Int32))] 8) := ⟨_, rfl⟩
  have k0 : Rch p e below S0 s₁ (mkF m 0 #[.val (.ref ra), .val (.int (0 : Int32)), .val (.ref rb), .val (.int (0 : Int32)), .val (.int (1 : Int32)), .unset, .unset, .unset] []) := fun t k => hS0 ▸ castTop (ef_11 m ra (0 : Int32) rb (0 : Int32) (1 : Int32)) k
  have k79 : Rch p e below S0 s₁ (mkF m 89 #[.val (.ref ra), .val (.int (0 : Int32)), .val (.ref rb), .val (.int (0 : Int32)), .val (.int (1 : Int32)), .val (.int (0 : Int32)), .unset, .unset] [(.int (0 : Int32)), (.ref ra)]) := fun t h => k0 t (by
      show Steps p.tables e below (s₁.setTop (mkF m 0 #[.val (.ref ra), .val (.int (0 : Int32)), .val (.ref rb), .val (.int (0 : Int32)), .val (.int (1 : Int32)), .unset, .unset, .unset] [])) _
      refine XS.iconst X0.here hx rfl (hb hby d11_0) ?_
      show Steps p.tables e below (s₁.setTop (mkF m 1 #[.val (.ref ra), .val (.int (0 : Int32)), .val (.ref rb), .val (.int (0 : Int32)), .val (.int (1 : Int32)), .unset, .unset, .unset] [(.int (0 : Int32))])) _
      refine XS.istore X0.here hx rfl (hb hby d11_1) rfl (l' := #[.val (.ref ra), .val (.int (0 : Int32)), .val (.ref rb), .val (.int (0 : Int32)), .val (.int (1 : Int32)), .val (.int (0 : Int32)), .unset, .unset]) rfl ?_
      show Steps p.tables e below (s₁.setTop (mkF m 3 #[.val (.ref ra), .val (.int (0 : Int32)), .val (.ref rb), .val (.int (0 : Int32)), .val (.int (1 : Int32)), .val (.int (0 : Int32)), .unset, .unset] [])) _
      refine XS.iload X0.here hx rfl (hb hby d11_3) rfl ?_
      show Steps p.tables e below (s₁.setTop (mkF m 5 #[.val (.ref ra), .val (.int (0 : Int32)), .val (.ref rb), .val (.int (0 : Int32)), .val (.int (1 : Int32)), .val (.int (0 : Int32)), .unset, .unset] [(.int (1 : Int32))])) _
      refine XS.iconst X0.here hx rfl (hb hby d11_5) ?_
      show Steps p.tables e below (s₁.setTop (mkF m 6 #[.val (.ref ra), .val (.int (0 : Int32)), .val (.ref rb), .val (.int (0 : Int32)), .val (.int (1 : Int32)), .val (.int (0 : Int32)), .unset, .unset] [(.int (1 : Int32)), (.int (1 : Int32))])) _
      refine XS.icmpYes X0.here hx rfl (pc0 := 6) (pc' := 77) rfl (hb hby d11_6) rfl (flt (by decide : ¬ ((1 : Int32) < (1 : Int32)))).2.2.2 (by decide) (by decide) ?_
      show Steps p.tables e below (s₁.setTop (mkF m 77 #[.val (.ref ra), .val (.int (0 : Int32)), .val (.ref rb), .val (.int (0 : Int32)), .val (.int (1 : Int32)), .val (.int (0 : Int32)), .unset, .unset] [])) _
      refine XS.iload X0.here hx rfl (hb hby d11_77) rfl ?_
      show Steps p.tables e below (s₁.setTop (mkF m 79 #[.val (.ref ra), .val (.int (0 : Int32)), .val (.ref rb), .val (.int (0 : Int32)), .val (.int (1 : Int32)), .val (.int (0 : Int32)), .unset, .unset] [(.int (0 : Int32))])) _
      refine XS.iload X0.here hx rfl (hb hby d11_79) rfl ?_
      show Steps p.tables e below (s₁.setTop (mkF m 81 #[.val (.ref ra), .val (.int (0 : Int32)), .val (.ref rb), .val (.int (0 : Int32)), .val (.int (1 : Int32)), .val (.int (0 : Int32)), .unset, .unset] [(.int (1 : Int32)), (.int (0 : Int32))])) _
      refine XS.icmpNo X0.here hx rfl (hb hby d11_81) rfl (tlt (by decide : (0 : Int32) < (1 : Int32))).2.1 ?_
      show Steps p.tables e below (s₁.setTop (mkF m 84 #[.val (.ref ra), .val (.int (0 : Int32)), .val (.ref rb), .val (.int (0 : Int32)), .val (.int (1 : Int32)), .val (.int (0 : Int32)), .unset, .unset] [])) _
      refine XS.aloadN X0.here hx rfl (hb hby d11_84) rfl rfl ?_
      show Steps p.tables e below (s₁.setTop (mkF m 85 #[.val (.ref ra), .val (.int (0 : Int32)), .val (.ref rb), .val (.int (0 : Int32)), .val (.int (1 : Int32)), .val (.int (0 : Int32)), .unset, .unset] [(.ref ra)])) _
      refine XS.iloadN X0.here hx rfl (hb hby d11_85) rfl ?_
      show Steps p.tables e below (s₁.setTop (mkF m 86 #[.val (.ref ra), .val (.int (0 : Int32)), .val (.ref rb), .val (.int (0 : Int32)), .val (.int (1 : Int32)), .val (.int (0 : Int32)), .unset, .unset] [(.int (0 : Int32)), (.ref ra)])) _
      refine XS.iload X0.here hx rfl (hb hby d11_86) rfl ?_
      show Steps p.tables e below (s₁.setTop (mkF m 88 #[.val (.ref ra), .val (.int (0 : Int32)), .val (.ref rb), .val (.int (0 : Int32)), .val (.int (1 : Int32)), .val (.int (0 : Int32)), .unset, .unset] [(.int (0 : Int32)), (.int (0 : Int32)), (.ref ra)])) _
      refine XS.iadd X0.here hx rfl (hb hby d11_88) rfl ?_
      rw [(by decide : ((0 : Int32) + (0 : Int32)) = (0 : Int32))]
      show Steps p.tables e below (s₁.setTop (mkF m 89 #[.val (.ref ra), .val (.int (0 : Int32)), .val (.ref rb), .val (.int (0 : Int32)), .val (.int (1 : Int32)), .val (.int (0 : Int32)), .unset, .unset] [(.int (0 : Int32)), (.ref ra)])) _
      exact h)
  obtain ⟨cl78, Ar78, q78, Sz78, Ng78, Hs78, G78⟩ := id Va
  have hin78 : ¬ ((0 : Int32) < 0 ∨ cl78.slots.size ≤ ((0 : Int32)).toNatClampNeg) := inb_of Sz78 ⟨by decide, by decide⟩
  have hat78 : cl78.slots[((0 : Int32)).toNatClampNeg]? = some (.int x) := Hs78.at hin78 (rfl)
  have k81 : Rch p e below S0 s₁ (mkF m 95 #[.val (.ref ra), .val (.int (0 : Int32)), .val (.ref rb), .val (.int (0 : Int32)), .val (.int (1 : Int32)), .val (.int (0 : Int32)), .unset, .unset] [(.int (0 : Int32)), (.ref rb), (.int x)]) := fun t h => k79 t (by
      show Steps p.tables e below (s₁.setTop (mkF m 89 #[.val (.ref ra), .val (.int (0 : Int32)), .val (.ref rb), .val (.int (0 : Int32)), .val (.int (1 : Int32)), .val (.int (0 : Int32)), .unset, .unset] [(.int (0 : Int32)), (.ref ra)])) _
      refine X0.iaload hx (j := (0 : Int32)) (v := (.int x)) (by rw [e0]; exact Ar78.1) (State.isArrayOf_alike hZ.alike Ar78.2.1) Ar78.2.2 hin78 hat78 (g := (mkF m 89 #[.val (.ref ra), .val (.int (0 : Int32)), .val (.ref rb), .val (.int (0 : Int32)), .val (.int (1 : Int32)), .val (.int (0 : Int32)), .unset, .unset] [(.int (0 : Int32)), (.ref ra)])) rfl rfl (hb hby d11_89) _ ?_
      show Steps p.tables e below (s₁.setTop (mkF m 90 #[.val (.ref ra), .val (.int (0 : Int32)), .val (.ref rb), .val (.int (0 : Int32)), .val (.int (1 : Int32)), .val (.int (0 : Int32)), .unset, .unset] [(.int x)])) _
      refine XS.aloadN X0.here hx rfl (hb hby d11_90) rfl rfl ?_
      show Steps p.tables e below (s₁.setTop (mkF m 91 #[.val (.ref ra), .val (.int (0 : Int32)), .val (.ref rb), .val (.int (0 : Int32)), .val (.int (1 : Int32)), .val (.int (0 : Int32)), .unset, .unset] [(.ref rb), (.int x)])) _
      refine XS.iloadN X0.here hx rfl (hb hby d11_91) rfl ?_
      show Steps p.tables e below (s₁.setTop (mkF m 92 #[.val (.ref ra), .val (.int (0 : Int32)), .val (.ref rb), .val (.int (0 : Int32)), .val (.int (1 : Int32)), .val (.int (0 : Int32)), .unset, .unset] [(.int (0 : Int32)), (.ref rb), (.int x)])) _
      refine XS.iload X0.here hx rfl (hb hby d11_92) rfl ?_
      show Steps p.tables e below (s₁.setTop (mkF m 94 #[.val (.ref ra), .val (.int (0 : Int32)), .val (.ref rb), .val (.int (0 : Int32)), .val (.int (1 : Int32)), .val (.int (0 : Int32)), .unset, .unset] [(.int (0 : Int32)), (.int (0 : Int32)), (.ref rb), (.int x)])) _
      refine XS.iadd X0.here hx rfl (hb hby d11_94) rfl ?_
      rw [(by decide : ((0 : Int32) + (0 : Int32)) = (0 : Int32))]
      show Steps p.tables e below (s₁.setTop (mkF m 95 #[.val (.ref ra), .val (.int (0 : Int32)), .val (.ref rb), .val (.int (0 : Int32)), .val (.int (1 : Int32)), .val (.int (0 : Int32)), .unset, .unset] [(.int (0 : Int32)), (.ref rb), (.int x)])) _
      exact h)
  obtain ⟨cl80, Ar80, q80, Sz80, Ng80, Hs80, G80⟩ := id Vb
  have hin80 : ¬ ((0 : Int32) < 0 ∨ cl80.slots.size ≤ ((0 : Int32)).toNatClampNeg) := inb_of Sz80 ⟨by decide, by decide⟩
  have hat80 : cl80.slots[((0 : Int32)).toNatClampNeg]? = some (.int y) := Hs80.at hin80 (rfl)
  have k82 : Rch p e below S0 s₁ (mkF m 101 #[.val (.ref ra), .val (.int (0 : Int32)), .val (.ref rb), .val (.int (0 : Int32)), .val (.int (1 : Int32)), .val (.int (0 : Int32)), .unset, .unset] [(.int (0 : Int32))]) := fun t h => k81 t (by
      show Steps p.tables e below (s₁.setTop (mkF m 95 #[.val (.ref ra), .val (.int (0 : Int32)), .val (.ref rb), .val (.int (0 : Int32)), .val (.int (1 : Int32)), .val (.int (0 : Int32)), .unset, .unset] [(.int (0 : Int32)), (.ref rb), (.int x)])) _
      refine X0.iaload hx (j := (0 : Int32)) (v := (.int y)) (by rw [e0]; exact Ar80.1) (State.isArrayOf_alike hZ.alike Ar80.2.1) Ar80.2.2 hin80 hat80 (g := (mkF m 95 #[.val (.ref ra), .val (.int (0 : Int32)), .val (.ref rb), .val (.int (0 : Int32)), .val (.int (1 : Int32)), .val (.int (0 : Int32)), .unset, .unset] [(.int (0 : Int32)), (.ref rb), (.int x)])) rfl rfl (hb hby d11_95) _ ?_
      show Steps p.tables e below (s₁.setTop (mkF m 96 #[.val (.ref ra), .val (.int (0 : Int32)), .val (.ref rb), .val (.int (0 : Int32)), .val (.int (1 : Int32)), .val (.int (0 : Int32)), .unset, .unset] [(.int y), (.int x)])) _
      refine XS.icmpNo X0.here hx rfl (hb hby d11_96) rfl (feq (hq : ¬ (x = y))).1 ?_
      show Steps p.tables e below (s₁.setTop (mkF m 99 #[.val (.ref ra), .val (.int (0 : Int32)), .val (.ref rb), .val (.int (0 : Int32)), .val (.int (1 : Int32)), .val (.int (0 : Int32)), .unset, .unset] [])) _
      refine XS.iload X0.here hx rfl (hb hby d11_99) rfl ?_
      show Steps p.tables e below (s₁.setTop (mkF m 101 #[.val (.ref ra), .val (.int (0 : Int32)), .val (.ref rb), .val (.int (0 : Int32)), .val (.int (1 : Int32)), .val (.int (0 : Int32)), .unset, .unset] [(.int (0 : Int32))])) _
      exact h)
  obtain ⟨fs, hr, hrun, hended, hW, hsame⟩ := X0.leave (v := (some (.int (0 : Int32)))) (fun h => by rw [Bd.returns] at h; cases h)
  refine ⟨_, _, ?_, hrun, hended, _, _, rfl, ?_, ⟨_, rfl⟩, hW, hsame.mono (by decide) (by decide)⟩
  · rw [← hS0]
    refine k82 _ ?_
    show Steps p.tables e below (s₁.setTop (mkF m 101 #[.val (.ref ra), .val (.int (0 : Int32)), .val (.ref rb), .val (.int (0 : Int32)), .val (.int (1 : Int32)), .val (.int (0 : Int32)), .unset, .unset] [(.int (0 : Int32))])) _
    exact retI X0 hx Bd.returns (hb hby d11_101) hr
  · show Q_rmM5n Z  h0 n0 _ s₁.heap _
    rw [e0]
    exact ⟨rfl, N0, rfl⟩
def Q_rmM3e (Z : State)  (h0 : Heap) (n0 : Nat) (v : Option Value) (h : Heap) (L : List Loc) : Prop := v = some (.int (-1 : Int32)) ∧ Fr n0 L ∧ h = h0
theorem ef_17 (m : MethodId) (x0 : Addr) (x1 : Addr) (x2 : Int32) : entryFrame m #[(.ref x0), (.ref x1), (.int x2)] 4 = mkF m 0 #[.val (.ref x0), .val (.ref x1), .val (.int x2), .unset] [] := by first | (simp [entryFrame, mkF, argsToLocals, Value.category]; done) | rfl
theorem d17_0 : decode jdk_48_method_19_code 0 = .ok (.iconst 0, 1) := by decide +kernel
theorem d17_1 : decode jdk_48_method_19_code 1 = .ok (.istore_n 3, 1) := by decide +kernel
theorem d17_2 : decode jdk_48_method_19_code 2 = .ok (.iload_n 2, 1) := by decide +kernel
theorem d17_3 : decode jdk_48_method_19_code 3 = .ok (.iconst 1, 1) := by decide +kernel
theorem d17_4 : decode jdk_48_method_19_code 4 = .ok (.if_icmp .le 44, 3) := by decide +kernel
theorem d17_48 : decode jdk_48_method_19_code 48 = .ok (.iload_n 3, 1) := by decide +kernel
theorem d17_49 : decode jdk_48_method_19_code 49 = .ok (.iload_n 2, 1) := by decide +kernel
theorem d17_50 : decode jdk_48_method_19_code 50 = .ok (.if_icmp .ge 20, 3) := by decide +kernel
theorem d17_53 : decode jdk_48_method_19_code 53 = .ok (.aload_n 0, 1) := by decide +kernel
theorem d17_54 : decode jdk_48_method_19_code 54 = .ok (.iload_n 3, 1) := by decide +kernel
theorem d17_55 : decode jdk_48_method_19_code 55 = .ok (.iaload, 1) := by decide +kernel
theorem d17_56 : decode jdk_48_method_19_code 56 = .ok (.aload_n 1, 1) := by decide +kernel
theorem d17_57 : decode jdk_48_method_19_code 57 = .ok (.iload_n 3, 1) := by decide +kernel
theorem d17_58 : decode jdk_48_method_19_code 58 = .ok (.iaload, 1) := by decide +kernel
theorem d17_59 : decode jdk_48_method_19_code 59 = .ok (.if_icmp .eq 5, 3) := by decide +kernel
theorem d17_64 : decode jdk_48_method_19_code 64 = .ok (.iinc 3 1, 3) := by decide +kernel
theorem d17_67 : decode jdk_48_method_19_code 67 = .ok (.goto (-19), 3) := by decide +kernel
theorem d17_70 : decode jdk_48_method_19_code 70 = .ok (.iconst (-1), 1) := by decide +kernel
theorem d17_71 : decode jdk_48_method_19_code 71 = .ok (.ireturn, 1) := by decide +kernel
set_option maxRecDepth 65536 in
set_option maxHeartbeats 40000000 in
theorem rmM3e (l : Launch) (Z : State) (a0 : Array Value) (hw : ∀ d ∈ tables_1, d.before a0 Z = true) (ws : List Jvm.Cond) (ra : Addr) (ka : ClassId) (x : Int32) (rb : Addr) (kb : ClassId) (y : Int32) (h0 : Heap) (n0 : Nat) (O0 : Old Z n0 h0) (Va : Arv Z h0 ra ka .int (1 : Int32) [.int x] (.int (0 : Int32))) (Vb : Arv Z h0 rb kb .int (1 : Int32) [.int y] (.int (0 : Int32))) (hq : x = y) :
    MetFree l (⟨"jdk/internal/util/ArraysSupport", "mismatch", "([I[II)I"⟩ : MethodName) (head1 (Jvm.Cond.code (⟨"jdk/internal/util/ArraysSupport", "mismatch", "([I[II)I"⟩ : MethodName) jdk_48_method_19_code 4 (some .int) :: ws) ({ frames := 0, cells := 0, slots := 0, locals := 0 } : Room)) (fun a U => a = #[(.ref ra), (.ref rb), (.int (1 : Int32))] ∧ Z.Warmed39 U.vm ∧ U.heap = h0) (fun _ _ _ _ _ => True) (fun _ U o U' => ∃ v L, o = .returned v ∧ Q_rmM3e Z  h0 n0 v U'.heap L ∧ FrameEnd U o U' L ({ frames := 0, cells := 0, slots := 0, locals := 0 } : Room).cells ({ frames := 0, cells := 0, slots := 0, locals := 0 } : Room).slots) := by
  refine MetFree.of_bodySF (plainFor_of_name pn_ArraysSupport) hisR ?_
  intro p e s m args below meth c s₁ Bd hml0 hP hK
  obtain ⟨rfl, hZ, hh⟩ := hP
  have hx := Bd.exec
  have hby := Bd.bytes
  have hml : c.maxLocals = 4 := hml0
  have hown : s.vm.findClass "jdk/internal/util/ArraysSupport" = some m.cls := findClass_of_methodNamed Bd.named
  have hnm := (name_of_methodNamed Bd.named Bd.method).1
  have X0 : Stand p l e ({ frames := 0, cells := 0, slots := 0, locals := 0 } : Room) s m #[(.ref ra), (.ref rb), (.int (1 : Int32))] below meth c s₁ [] 0 0 := Stand.of_body Bd
  have e0 : s₁.heap = h0 := by rw [← hh, Bd.state]; rfl
  have N0 := Fr.nil n0
  obtain ⟨S0, hS0⟩ : ∃ z, z = s₁.setTop (entryFrame m #[(.ref ra), (.ref rb), (.int (1 : Int32))] 4) := ⟨_, rfl⟩
  have k0 : Rch p e below S0 s₁ (mkF m 0 #[.val (.ref ra), .val (.ref rb), .val (.int (1 : Int32)), .unset] []) := fun t k => hS0 ▸ castTop (ef_17 m ra rb (1 : Int32)) k
  have k84 : Rch p e below S0 s₁ (mkF m 55 #[.val (.ref ra), .val (.ref rb), .val (.int (1 : Int32)), .val (.int (0 : Int32))] [(.int (0 : Int32)), (.ref ra)]) := fun t h => k0 t (by
      show Steps p.tables e below (s₁.setTop (mkF m 0 #[.val (.ref ra), .val (.ref rb), .val (.int (1 : Int32)), .unset] [])) _
      refine XS.iconst X0.here hx rfl (hb hby d17_0) ?_
      show Steps p.tables e below (s₁.setTop (mkF m 1 #[.val (.ref ra), .val (.ref rb), .val (.int (1 : Int32)), .unset] [(.int (0 : Int32))])) _
      refine XS.istoreN X0.here hx rfl (hb hby d17_1) rfl (l' := #[.val (.ref ra), .val (.ref rb), .val (.int (1 : Int32)), .val (.int (0 : Int32))]) rfl ?_
      show Steps p.tables e below (s₁.setTop (mkF m 2 #[.val (.ref ra), .val (.ref rb), .val (.int (1 : Int32)), .val (.int (0 : Int32))] [])) _
      refine XS.iloadN X0.here hx rfl (hb hby d17_2) rfl ?_
      show Steps p.tables e below (s₁.setTop (mkF m 3 #[.val (.ref ra), .val (.ref rb), .val (.int (1 : Int32)), .val (.int (0 : Int32))] [(.int (1 : Int32))])) _
      refine XS.iconst X0.here hx rfl (hb hby d17_3) ?_
      show Steps p.tables e below (s₁.setTop (mkF m 4 #[.val (.ref ra), .val (.ref rb), .val (.int (1 : Int32)), .val (.int (0 : Int32))] [(.int (1 : Int32)), (.int (1 : Int32))])) _
      refine XS.icmpYes X0.here hx rfl (pc0 := 4) (pc' := 48) rfl (hb hby d17_4) rfl (flt (by decide : ¬ ((1 : Int32) < (1 : Int32)))).2.2.2 (by decide) (by decide) ?_
      show Steps p.tables e below (s₁.setTop (mkF m 48 #[.val (.ref ra), .val (.ref rb), .val (.int (1 : Int32)), .val (.int (0 : Int32))] [])) _
      refine XS.iloadN X0.here hx rfl (hb hby d17_48) rfl ?_
      show Steps p.tables e below (s₁.setTop (mkF m 49 #[.val (.ref ra), .val (.ref rb), .val (.int (1 : Int32)), .val (.int (0 : Int32))] [(.int (0 : Int32))])) _
      refine XS.iloadN X0.here hx rfl (hb hby d17_49) rfl ?_
      show Steps p.tables e below (s₁.setTop (mkF m 50 #[.val (.ref ra), .val (.ref rb), .val (.int (1 : Int32)), .val (.int (0 : Int32))] [(.int (1 : Int32)), (.int (0 : Int32))])) _
      refine XS.icmpNo X0.here hx rfl (hb hby d17_50) rfl (tlt (by decide : (0 : Int32) < (1 : Int32))).2.1 ?_
      show Steps p.tables e below (s₁.setTop (mkF m 53 #[.val (.ref ra), .val (.ref rb), .val (.int (1 : Int32)), .val (.int (0 : Int32))] [])) _
      refine XS.aloadN X0.here hx rfl (hb hby d17_53) rfl rfl ?_
      show Steps p.tables e below (s₁.setTop (mkF m 54 #[.val (.ref ra), .val (.ref rb), .val (.int (1 : Int32)), .val (.int (0 : Int32))] [(.ref ra)])) _
      refine XS.iloadN X0.here hx rfl (hb hby d17_54) rfl ?_
      show Steps p.tables e below (s₁.setTop (mkF m 55 #[.val (.ref ra), .val (.ref rb), .val (.int (1 : Int32)), .val (.int (0 : Int32))] [(.int (0 : Int32)), (.ref ra)])) _
      exact h)
  obtain ⟨cl83, Ar83, q83, Sz83, Ng83, Hs83, G83⟩ := id Va
  have hin83 : ¬ ((0 : Int32) < 0 ∨ cl83.slots.size ≤ ((0 : Int32)).toNatClampNeg) := inb_of Sz83 ⟨by decide, by decide⟩
  have hat83 : cl83.slots[((0 : Int32)).toNatClampNeg]? = some (.int x) := Hs83.at hin83 (rfl)
  have k86 : Rch p e below S0 s₁ (mkF m 58 #[.val (.ref ra), .val (.ref rb), .val (.int (1 : Int32)), .val (.int (0 : Int32))] [(.int (0 : Int32)), (.ref rb), (.int x)]) := fun t h => k84 t (by
      show Steps p.tables e below (s₁.setTop (mkF m 55 #[.val (.ref ra), .val (.ref rb), .val (.int (1 : Int32)), .val (.int (0 : Int32))] [(.int (0 : Int32)), (.ref ra)])) _
      refine X0.iaload hx (j := (0 : Int32)) (v := (.int x)) (by rw [e0]; exact Ar83.1) (State.isArrayOf_alike hZ.alike Ar83.2.1) Ar83.2.2 hin83 hat83 (g := (mkF m 55 #[.val (.ref ra), .val (.ref rb), .val (.int (1 : Int32)), .val (.int (0 : Int32))] [(.int (0 : Int32)), (.ref ra)])) rfl rfl (hb hby d17_55) _ ?_
      show Steps p.tables e below (s₁.setTop (mkF m 56 #[.val (.ref ra), .val (.ref rb), .val (.int (1 : Int32)), .val (.int (0 : Int32))] [(.int x)])) _
      refine XS.aloadN X0.here hx rfl (hb hby d17_56) rfl rfl ?_
      show Steps p.tables e below (s₁.setTop (mkF m 57 #[.val (.ref ra), .val (.ref rb), .val (.int (1 : Int32)), .val (.int (0 : Int32))] [(.ref rb), (.int x)])) _
      refine XS.iloadN X0.here hx rfl (hb hby d17_57) rfl ?_
      show Steps p.tables e below (s₁.setTop (mkF m 58 #[.val (.ref ra), .val (.ref rb), .val (.int (1 : Int32)), .val (.int (0 : Int32))] [(.int (0 : Int32)), (.ref rb), (.int x)])) _
      exact h)
  obtain ⟨cl85, Ar85, q85, Sz85, Ng85, Hs85, G85⟩ := id Vb
  have hin85 : ¬ ((0 : Int32) < 0 ∨ cl85.slots.size ≤ ((0 : Int32)).toNatClampNeg) := inb_of Sz85 ⟨by decide, by decide⟩
  have hat85 : cl85.slots[((0 : Int32)).toNatClampNeg]? = some (.int y) := Hs85.at hin85 (rfl)
  have k87 : Rch p e below S0 s₁ (mkF m 71 #[.val (.ref ra), .val (.ref rb), .val (.int (1 : Int32)), .val (.int (1 : Int32))] [(.int (-1 : Int32))]) := fun t h => k86 t (by
      show Steps p.tables e below (s₁.setTop (mkF m 58 #[.val (.ref ra), .val (.ref rb), .val (.int (1 : Int32)), .val (.int (0 : Int32))] [(.int (0 : Int32)), (.ref rb), (.int x)])) _
      refine X0.iaload hx (j := (0 : Int32)) (v := (.int y)) (by rw [e0]; exact Ar85.1) (State.isArrayOf_alike hZ.alike Ar85.2.1) Ar85.2.2 hin85 hat85 (g := (mkF m 58 #[.val (.ref ra), .val (.ref rb), .val (.int (1 : Int32)), .val (.int (0 : Int32))] [(.int (0 : Int32)), (.ref rb), (.int x)])) rfl rfl (hb hby d17_58) _ ?_
      show Steps p.tables e below (s₁.setTop (mkF m 59 #[.val (.ref ra), .val (.ref rb), .val (.int (1 : Int32)), .val (.int (0 : Int32))] [(.int y), (.int x)])) _
      refine XS.icmpYes X0.here hx rfl (pc0 := 59) (pc' := 64) rfl (hb hby d17_59) rfl (teq (hq : x = y)).1 (by decide) (by decide) ?_
      show Steps p.tables e below (s₁.setTop (mkF m 64 #[.val (.ref ra), .val (.ref rb), .val (.int (1 : Int32)), .val (.int (0 : Int32))] [])) _
      refine XS.iinc X0.here hx rfl (hb hby d17_64) rfl (l' := #[.val (.ref ra), .val (.ref rb), .val (.int (1 : Int32)), .val (.int ((0 : Int32) + (1 : Int32)))]) rfl ?_
      rw [(by decide : ((0 : Int32) + (1 : Int32)) = (1 : Int32))]
      show Steps p.tables e below (s₁.setTop (mkF m 67 #[.val (.ref ra), .val (.ref rb), .val (.int (1 : Int32)), .val (.int (1 : Int32))] [])) _
      refine XS.goto X0.here hx rfl (pc0 := 67) (pc' := 48) rfl (hb hby d17_67) (by decide) (by decide) ?_
      show Steps p.tables e below (s₁.setTop (mkF m 48 #[.val (.ref ra), .val (.ref rb), .val (.int (1 : Int32)), .val (.int (1 : Int32))] [])) _
      refine XS.iloadN X0.here hx rfl (hb hby d17_48) rfl ?_
      show Steps p.tables e below (s₁.setTop (mkF m 49 #[.val (.ref ra), .val (.ref rb), .val (.int (1 : Int32)), .val (.int (1 : Int32))] [(.int (1 : Int32))])) _
      refine XS.iloadN X0.here hx rfl (hb hby d17_49) rfl ?_
      show Steps p.tables e below (s₁.setTop (mkF m 50 #[.val (.ref ra), .val (.ref rb), .val (.int (1 : Int32)), .val (.int (1 : Int32))] [(.int (1 : Int32)), (.int (1 : Int32))])) _
      refine XS.icmpYes X0.here hx rfl (pc0 := 50) (pc' := 70) rfl (hb hby d17_50) rfl (flt (by decide : ¬ ((1 : Int32) < (1 : Int32)))).2.1 (by decide) (by decide) ?_
      show Steps p.tables e below (s₁.setTop (mkF m 70 #[.val (.ref ra), .val (.ref rb), .val (.int (1 : Int32)), .val (.int (1 : Int32))] [])) _
      refine XS.iconst X0.here hx rfl (hb hby d17_70) ?_
      show Steps p.tables e below (s₁.setTop (mkF m 71 #[.val (.ref ra), .val (.ref rb), .val (.int (1 : Int32)), .val (.int (1 : Int32))] [(.int (-1 : Int32))])) _
      exact h)
  obtain ⟨fs, hr, hrun, hended, hW, hsame⟩ := X0.leave (v := (some (.int (-1 : Int32)))) (fun h => by rw [Bd.returns] at h; cases h)
  refine ⟨_, _, ?_, hrun, hended, _, _, rfl, ?_, ⟨_, rfl⟩, hW, hsame.mono (by decide) (by decide)⟩
  · rw [← hS0]
    refine k87 _ ?_
    show Steps p.tables e below (s₁.setTop (mkF m 71 #[.val (.ref ra), .val (.ref rb), .val (.int (1 : Int32)), .val (.int (1 : Int32))] [(.int (-1 : Int32))])) _
    exact retI X0 hx Bd.returns (hb hby d17_71) hr
  · show Q_rmM3e Z  h0 n0 _ s₁.heap _
    rw [e0]
    exact ⟨rfl, N0, rfl⟩
def Q_rmM3n (Z : State)  (h0 : Heap) (n0 : Nat) (v : Option Value) (h : Heap) (L : List Loc) : Prop := v = some (.int (0 : Int32)) ∧ Fr n0 L ∧ h = h0
theorem d17_62 : decode jdk_48_method_19_code 62 = .ok (.iload_n 3, 1) := by decide +kernel
theorem d17_63 : decode jdk_48_method_19_code 63 = .ok (.ireturn, 1) := by decide +kernel
set_option maxRecDepth 65536 in
set_option maxHeartbeats 40000000 in
theorem rmM3n (l : Launch) (Z : State) (a0 : Array Value) (hw : ∀ d ∈ tables_1, d.before a0 Z = true) (ws : List Jvm.Cond) (ra : Addr) (ka : ClassId) (x : Int32) (rb : Addr) (kb : ClassId) (y : Int32) (h0 : Heap) (n0 : Nat) (O0 : Old Z n0 h0) (Va : Arv Z h0 ra ka .int (1 : Int32) [.int x] (.int (0 : Int32))) (Vb : Arv Z h0 rb kb .int (1 : Int32) [.int y] (.int (0 : Int32))) (hq : ¬ (x = y)) :
    MetFree l (⟨"jdk/internal/util/ArraysSupport", "mismatch", "([I[II)I"⟩ : MethodName) (head1 (Jvm.Cond.code (⟨"jdk/internal/util/ArraysSupport", "mismatch", "([I[II)I"⟩ : MethodName) jdk_48_method_19_code 4 (some .int) :: ws) ({ frames := 0, cells := 0, slots := 0, locals := 0 } : Room)) (fun a U => a = #[(.ref ra), (.ref rb), (.int (1 : Int32))] ∧ Z.Warmed39 U.vm ∧ U.heap = h0) (fun _ _ _ _ _ => True) (fun _ U o U' => ∃ v L, o = .returned v ∧ Q_rmM3n Z  h0 n0 v U'.heap L ∧ FrameEnd U o U' L ({ frames := 0, cells := 0, slots := 0, locals := 0 } : Room).cells ({ frames := 0, cells := 0, slots := 0, locals := 0 } : Room).slots) := by
  refine MetFree.of_bodySF (plainFor_of_name pn_ArraysSupport) hisR ?_
  intro p e s m args below meth c s₁ Bd hml0 hP hK
  obtain ⟨rfl, hZ, hh⟩ := hP
  have hx := Bd.exec
  have hby := Bd.bytes
  have hml : c.maxLocals = 4 := hml0
  have hown : s.vm.findClass "jdk/internal/util/ArraysSupport" = some m.cls := findClass_of_methodNamed Bd.named
  have hnm := (name_of_methodNamed Bd.named Bd.method).1
  have X0 : Stand p l e ({ frames := 0, cells := 0, slots := 0, locals := 0 } : Room) s m #[(.ref ra), (.ref rb), (.int (1 : Int32))] below meth c s₁ [] 0 0 := Stand.of_body Bd
  have e0 : s₁.heap = h0 := by rw [← hh, Bd.state]; rfl
  have N0 := Fr.nil n0
  obtain ⟨S0, hS0⟩ : ∃ z, z = s₁.setTop (entryFrame m #[(.ref ra), (.ref rb), (.int (1 : Int32))] 4) := ⟨_, rfl⟩
  have k0 : Rch p e below S0 s₁ (mkF m 0 #[.val (.ref ra), .val (.ref rb), .val (.int (1 : Int32)), .unset] []) := fun t k => hS0 ▸ castTop (ef_17 m ra rb (1 : Int32)) k
  have k89 : Rch p e below S0 s₁ (mkF m 55 #[.val (.ref ra), .val (.ref rb), .val (.int (1 : Int32)), .val (.int (0 : Int32))] [(.int (0 : Int32)), (.ref ra)]) := fun t h => k0 t (by
      show Steps p.tables e below (s₁.setTop (mkF m 0 #[.val (.ref ra), .val (.ref rb), .val (.int (1 : Int32)), .unset] [])) _
      refine XS.iconst X0.here hx rfl (hb hby d17_0) ?_
      show Steps p.tables e below (s₁.setTop (mkF m 1 #[.val (.ref ra), .val (.ref rb), .val (.int (1 : Int32)), .unset] [(.int (0 : Int32))])) _
      refine XS.istoreN X0.here hx rfl (hb hby d17_1) rfl (l' := #[.val (.ref ra), .val (.ref rb), .val (.int (1 : Int32)), .val (.int (0 : Int32))]) rfl ?_
      show Steps p.tables e below (s₁.setTop (mkF m 2 #[.val (.ref ra), .val (.ref rb), .val (.int (1 : Int32)), .val (.int (0 : Int32))] [])) _
      refine XS.iloadN X0.here hx rfl (hb hby d17_2) rfl ?_
      show Steps p.tables e below (s₁.setTop (mkF m 3 #[.val (.ref ra), .val (.ref rb), .val (.int (1 : Int32)), .val (.int (0 : Int32))] [(.int (1 : Int32))])) _
      refine XS.iconst X0.here hx rfl (hb hby d17_3) ?_
      show Steps p.tables e below (s₁.setTop (mkF m 4 #[.val (.ref ra), .val (.ref rb), .val (.int (1 : Int32)), .val (.int (0 : Int32))] [(.int (1 : Int32)), (.int (1 : Int32))])) _
      refine XS.icmpYes X0.here hx rfl (pc0 := 4) (pc' := 48) rfl (hb hby d17_4) rfl (flt (by decide : ¬ ((1 : Int32) < (1 : Int32)))).2.2.2 (by decide) (by decide) ?_
      show Steps p.tables e below (s₁.setTop (mkF m 48 #[.val (.ref ra), .val (.ref rb), .val (.int (1 : Int32)), .val (.int (0 : Int32))] [])) _
      refine XS.iloadN X0.here hx rfl (hb hby d17_48) rfl ?_
      show Steps p.tables e below (s₁.setTop (mkF m 49 #[.val (.ref ra), .val (.ref rb), .val (.int (1 : Int32)), .val (.int (0 : Int32))] [(.int (0 : Int32))])) _
      refine XS.iloadN X0.here hx rfl (hb hby d17_49) rfl ?_
      show Steps p.tables e below (s₁.setTop (mkF m 50 #[.val (.ref ra), .val (.ref rb), .val (.int (1 : Int32)), .val (.int (0 : Int32))] [(.int (1 : Int32)), (.int (0 : Int32))])) _
      refine XS.icmpNo X0.here hx rfl (hb hby d17_50) rfl (tlt (by decide : (0 : Int32) < (1 : Int32))).2.1 ?_
      show Steps p.tables e below (s₁.setTop (mkF m 53 #[.val (.ref ra), .val (.ref rb), .val (.int (1 : Int32)), .val (.int (0 : Int32))] [])) _
      refine XS.aloadN X0.here hx rfl (hb hby d17_53) rfl rfl ?_
      show Steps p.tables e below (s₁.setTop (mkF m 54 #[.val (.ref ra), .val (.ref rb), .val (.int (1 : Int32)), .val (.int (0 : Int32))] [(.ref ra)])) _
      refine XS.iloadN X0.here hx rfl (hb hby d17_54) rfl ?_
      show Steps p.tables e below (s₁.setTop (mkF m 55 #[.val (.ref ra), .val (.ref rb), .val (.int (1 : Int32)), .val (.int (0 : Int32))] [(.int (0 : Int32)), (.ref ra)])) _
      exact h)
  obtain ⟨cl88, Ar88, q88, Sz88, Ng88, Hs88, G88⟩ := id Va
  have hin88 : ¬ ((0 : Int32) < 0 ∨ cl88.slots.size ≤ ((0 : Int32)).toNatClampNeg) := inb_of Sz88 ⟨by decide, by decide⟩
  have hat88 : cl88.slots[((0 : Int32)).toNatClampNeg]? = some (.int x) := Hs88.at hin88 (rfl)
  have k91 : Rch p e below S0 s₁ (mkF m 58 #[.val (.ref ra), .val (.ref rb), .val (.int (1 : Int32)), .val (.int (0 : Int32))] [(.int (0 : Int32)), (.ref rb), (.int x)]) := fun t h => k89 t (by
      show Steps p.tables e below (s₁.setTop (mkF m 55 #[.val (.ref ra), .val (.ref rb), .val (.int (1 : Int32)), .val (.int (0 : Int32))] [(.int (0 : Int32)), (.ref ra)])) _
      refine X0.iaload hx (j := (0 : Int32)) (v := (.int x)) (by rw [e0]; exact Ar88.1) (State.isArrayOf_alike hZ.alike Ar88.2.1) Ar88.2.2 hin88 hat88 (g := (mkF m 55 #[.val (.ref ra), .val (.ref rb), .val (.int (1 : Int32)), .val (.int (0 : Int32))] [(.int (0 : Int32)), (.ref ra)])) rfl rfl (hb hby d17_55) _ ?_
      show Steps p.tables e below (s₁.setTop (mkF m 56 #[.val (.ref ra), .val (.ref rb), .val (.int (1 : Int32)), .val (.int (0 : Int32))] [(.int x)])) _
      refine XS.aloadN X0.here hx rfl (hb hby d17_56) rfl rfl ?_
      show Steps p.tables e below (s₁.setTop (mkF m 57 #[.val (.ref ra), .val (.ref rb), .val (.int (1 : Int32)), .val (.int (0 : Int32))] [(.ref rb), (.int x)])) _
      refine XS.iloadN X0.here hx rfl (hb hby d17_57) rfl ?_
      show Steps p.tables e below (s₁.setTop (mkF m 58 #[.val (.ref ra), .val (.ref rb), .val (.int (1 : Int32)), .val (.int (0 : Int32))] [(.int (0 : Int32)), (.ref rb), (.int x)])) _
      exact h)
  obtain ⟨cl90, Ar90, q90, Sz90, Ng90, Hs90, G90⟩ := id Vb
  have hin90 : ¬ ((0 : Int32) < 0 ∨ cl90.slots.size ≤ ((0 : Int32)).toNatClampNeg) := inb_of Sz90 ⟨by decide, by decide⟩
  have hat90 : cl90.slots[((0 : Int32)).toNatClampNeg]? = some (.int y) := Hs90.at hin90 (rfl)
  have k92 : Rch p e below S0 s₁ (mkF m 63 #[.val (.ref ra), .val (.ref rb), .val (.int (1 : Int32)), .val (.int (0 : Int32))] [(.int (0 : Int32))]) := fun t h => k91 t (by
      show Steps p.tables e below (s₁.setTop (mkF m 58 #[.val (.ref ra), .val (.ref rb), .val (.int (1 : Int32)), .val (.int (0 : Int32))] [(.int (0 : Int32)), (.ref rb), (.int x)])) _
      refine X0.iaload hx (j := (0 : Int32)) (v := (.int y)) (by rw [e0]; exact Ar90.1) (State.isArrayOf_alike hZ.alike Ar90.2.1) Ar90.2.2 hin90 hat90 (g := (mkF m 58 #[.val (.ref ra), .val (.ref rb), .val (.int (1 : Int32)), .val (.int (0 : Int32))] [(.int (0 : Int32)), (.ref rb), (.int x)])) rfl rfl (hb hby d17_58) _ ?_
      show Steps p.tables e below (s₁.setTop (mkF m 59 #[.val (.ref ra), .val (.ref rb), .val (.int (1 : Int32)), .val (.int (0 : Int32))] [(.int y), (.int x)])) _
      refine XS.icmpNo X0.here hx rfl (hb hby d17_59) rfl (feq (hq : ¬ (x = y))).1 ?_
      show Steps p.tables e below (s₁.setTop (mkF m 62 #[.val (.ref ra), .val (.ref rb), .val (.int (1 : Int32)), .val (.int (0 : Int32))] [])) _
      refine XS.iloadN X0.here hx rfl (hb hby d17_62) rfl ?_
      show Steps p.tables e below (s₁.setTop (mkF m 63 #[.val (.ref ra), .val (.ref rb), .val (.int (1 : Int32)), .val (.int (0 : Int32))] [(.int (0 : Int32))])) _
      exact h)
  obtain ⟨fs, hr, hrun, hended, hW, hsame⟩ := X0.leave (v := (some (.int (0 : Int32)))) (fun h => by rw [Bd.returns] at h; cases h)
  refine ⟨_, _, ?_, hrun, hended, _, _, rfl, ?_, ⟨_, rfl⟩, hW, hsame.mono (by decide) (by decide)⟩
  · rw [← hS0]
    refine k92 _ ?_
    show Steps p.tables e below (s₁.setTop (mkF m 63 #[.val (.ref ra), .val (.ref rb), .val (.int (1 : Int32)), .val (.int (0 : Int32))] [(.int (0 : Int32))])) _
    exact retI X0 hx Bd.returns (hb hby d17_63) hr
  · show Q_rmM3n Z  h0 n0 _ s₁.heap _
    rw [e0]
    exact ⟨rfl, N0, rfl⟩
def Q_rmEqe (Z : State)  (h0 : Heap) (n0 : Nat) (v : Option Value) (h : Heap) (L : List Loc) : Prop := v = some (.int (1 : Int32)) ∧ Fr n0 L ∧ h = h0
theorem ef_9 (m : MethodId) (x0 : Addr) (x1 : Int32) (x2 : Int32) (x3 : Addr) (x4 : Int32) (x5 : Int32) : entryFrame m #[(.ref x0), (.int x1), (.int x2), (.ref x3), (.int x4), (.int x5)] 8 = mkF m 0 #[.val (.ref x0), .val (.int x1), .val (.int x2), .val (.ref x3), .val (.int x4), .val (.int x5), .unset, .unset] [] := by first | (simp [entryFrame, mkF, argsToLocals, Value.category]; done) | rfl
theorem d9_0 : decode jdk_65_method_84_code 0 = .ok (.aload_n 0, 1) := by decide +kernel
theorem d9_1 : decode jdk_65_method_84_code 1 = .ok (.arraylength, 1) := by decide +kernel
theorem d9_2 : decode jdk_65_method_84_code 2 = .ok (.iload_n 1, 1) := by decide +kernel
theorem d9_3 : decode jdk_65_method_84_code 3 = .ok (.iload_n 2, 1) := by decide +kernel
theorem pd_8 : parseMethodDescriptor "(III)V" = some ⟨[.int, .int, .int], none⟩ := by decide +kernel
theorem d9_4 : decode jdk_65_method_84_code 4 = .ok (.invokestatic 13, 3) := by decide +kernel
theorem d9_7 : decode jdk_65_method_84_code 7 = .ok (.aload_n 3, 1) := by decide +kernel
theorem d9_8 : decode jdk_65_method_84_code 8 = .ok (.arraylength, 1) := by decide +kernel
theorem d9_9 : decode jdk_65_method_84_code 9 = .ok (.iload 4, 2) := by decide +kernel
theorem d9_11 : decode jdk_65_method_84_code 11 = .ok (.iload 5, 2) := by decide +kernel
theorem d9_13 : decode jdk_65_method_84_code 13 = .ok (.invokestatic 13, 3) := by decide +kernel
theorem d9_16 : decode jdk_65_method_84_code 16 = .ok (.iload_n 2, 1) := by decide +kernel
theorem d9_17 : decode jdk_65_method_84_code 17 = .ok (.iload_n 1, 1) := by decide +kernel
theorem d9_18 : decode jdk_65_method_84_code 18 = .ok (.isub, 1) := by decide +kernel
theorem d9_19 : decode jdk_65_method_84_code 19 = .ok (.istore 6, 2) := by decide +kernel
theorem d9_21 : decode jdk_65_method_84_code 21 = .ok (.iload 5, 2) := by decide +kernel
theorem d9_23 : decode jdk_65_method_84_code 23 = .ok (.iload 4, 2) := by decide +kernel
theorem d9_25 : decode jdk_65_method_84_code 25 = .ok (.isub, 1) := by decide +kernel
theorem d9_26 : decode jdk_65_method_84_code 26 = .ok (.istore 7, 2) := by decide +kernel
theorem d9_28 : decode jdk_65_method_84_code 28 = .ok (.iload 6, 2) := by decide +kernel
theorem d9_30 : decode jdk_65_method_84_code 30 = .ok (.iload 7, 2) := by decide +kernel
theorem d9_32 : decode jdk_65_method_84_code 32 = .ok (.if_icmp .eq 5, 3) := by decide +kernel
theorem d9_37 : decode jdk_65_method_84_code 37 = .ok (.aload_n 0, 1) := by decide +kernel
theorem d9_38 : decode jdk_65_method_84_code 38 = .ok (.iload_n 1, 1) := by decide +kernel
theorem d9_39 : decode jdk_65_method_84_code 39 = .ok (.aload_n 3, 1) := by decide +kernel
theorem d9_40 : decode jdk_65_method_84_code 40 = .ok (.iload 4, 2) := by decide +kernel
theorem d9_42 : decode jdk_65_method_84_code 42 = .ok (.iload 6, 2) := by decide +kernel
theorem pd_9 : parseMethodDescriptor "([II[III)I" = some ⟨[(.array .int), .int, (.array .int), .int, .int], some .int⟩ := by decide +kernel
theorem d9_44 : decode jdk_65_method_84_code 44 = .ok (.invokestatic 257, 3) := by decide +kernel
theorem d9_47 : decode jdk_65_method_84_code 47 = .ok (.ifCond .ge 7, 3) := by decide +kernel
theorem d9_50 : decode jdk_65_method_84_code 50 = .ok (.iconst 1, 1) := by decide +kernel
theorem d9_51 : decode jdk_65_method_84_code 51 = .ok (.goto 4, 3) := by decide +kernel
theorem d9_55 : decode jdk_65_method_84_code 55 = .ok (.ireturn, 1) := by decide +kernel
set_option maxRecDepth 65536 in
set_option maxHeartbeats 40000000 in
theorem rmEqe (l : Launch) (Z : State) (a0 : Array Value) (hw : ∀ d ∈ tables_1, d.before a0 Z = true) (ws : List Jvm.Cond) (ra : Addr) (ka : ClassId) (x : Int32) (rb : Addr) (kb : ClassId) (y : Int32) (h0 : Heap) (n0 : Nat) (O0 : Old Z n0 h0) (Va : Arv Z h0 ra ka .int (1 : Int32) [.int x] (.int (0 : Int32))) (Vb : Arv Z h0 rb kb .int (1 : Int32) [.int y] (.int (0 : Int32))) (hq : x = y) :
    MetFree l (⟨"java/util/Arrays", "equals", "([III[III)Z"⟩ : MethodName) (head1 (Jvm.Cond.code (⟨"java/util/Arrays", "equals", "([III[III)Z"⟩ : MethodName) jdk_65_method_84_code 8 (some .boolean) :: ws) ({ frames := 1, cells := 0, slots := 0, locals := 30 } : Room)) (fun a U => a = #[(.ref ra), (.int (0 : Int32)), (.int (1 : Int32)), (.ref rb), (.int (0 : Int32)), (.int (1 : Int32))] ∧ Z.Warmed39 U.vm ∧ U.heap = h0) (fun _ _ _ _ _ => True) (fun _ U o U' => ∃ v L, o = .returned v ∧ Q_rmEqe Z  h0 n0 v U'.heap L ∧ FrameEnd U o U' L ({ frames := 1, cells := 0, slots := 0, locals := 30 } : Room).cells ({ frames := 1, cells := 0, slots := 0, locals := 30 } : Room).slots) := by
  refine MetFree.of_bodySF (plainFor_of_name pn_Arrays) hisR ?_
  intro p e s m args below meth c s₁ Bd hml0 hP hK
  obtain ⟨rfl, hZ, hh⟩ := hP
  have hx := Bd.exec
  have hby := Bd.bytes
  have hml : c.maxLocals = 8 := hml0
  have hown : s.vm.findClass "java/util/Arrays" = some m.cls := findClass_of_methodNamed Bd.named
  have hnm := (name_of_methodNamed Bd.named Bd.method).1
  have X0 : Stand p l e ({ frames := 1, cells := 0, slots := 0, locals := 30 } : Room) s m #[(.ref ra), (.int (0 : Int32)), (.int (1 : Int32)), (.ref rb), (.int (0 : Int32)), (.int (1 : Int32))] below meth c s₁ [] 0 0 := Stand.of_body Bd
  have e0 : s₁.heap = h0 := by rw [← hh, Bd.state]; rfl
  have N0 := Fr.nil n0
  obtain ⟨S0, hS0⟩ : ∃ z, z = s₁.setTop (entryFrame m #[(.ref ra), (.int (0 : Int32)), (.int (1 : Int32)), (.ref rb), (.int (0 : Int32)), (.int (1 : Int32))] 8) := ⟨_, rfl⟩
  have k0 : Rch p e below S0 s₁ (mkF m 0 #[.val (.ref ra), .val (.int (0 : Int32)), .val (.int (1 : Int32)), .val (.ref rb), .val (.int (0 : Int32)), .val (.int (1 : Int32)), .unset, .unset] []) := fun t k => hS0 ▸ castTop (ef_9 m ra (0 : Int32) (1 : Int32) rb (0 : Int32) (1 : Int32)) k
  have k94 : Rch p e below S0 s₁ (mkF m 1 #[.val (.ref ra), .val (.int (0 : Int32)), .val (.int (1 : Int32)), .val (.ref rb), .val (.int (0 : Int32)), .val (.int (1 : Int32)), .unset, .unset] [(.ref ra)]) := fun t h => k0 t (by
      show Steps p.tables e below (s₁.setTop (mkF m 0 #[.val (.ref ra), .val (.int (0 : Int32)), .val (.int (1 : Int32)), .val (.ref rb), .val (.int (0 : Int32)), .val (.int (1 : Int32)), .unset, .unset] [])) _
      refine XS.aloadN X0.here hx rfl (hb hby d9_0) rfl rfl ?_
      show Steps p.tables e below (s₁.setTop (mkF m 1 #[.val (.ref ra), .val (.int (0 : Int32)), .val (.int (1 : Int32)), .val (.ref rb), .val (.int (0 : Int32)), .val (.int (1 : Int32)), .unset, .unset] [(.ref ra)])) _
      exact h)
  obtain ⟨cl93, Ar93, q93, Sz93, Ng93, Hs93, G93⟩ := id Va
  have k95 : Rch p e below S0 s₁ (mkF m 4 #[.val (.ref ra), .val (.int (0 : Int32)), .val (.int (1 : Int32)), .val (.ref rb), .val (.int (0 : Int32)), .val (.int (1 : Int32)), .unset, .unset] [(.int (1 : Int32)), (.int (0 : Int32)), (.int (1 : Int32))]) := fun t h => k94 t (by
      show Steps p.tables e below (s₁.setTop (mkF m 1 #[.val (.ref ra), .val (.int (0 : Int32)), .val (.int (1 : Int32)), .val (.ref rb), .val (.int (0 : Int32)), .val (.int (1 : Int32)), .unset, .unset] [(.ref ra)])) _
      refine X0.arraylength hx (by rw [e0]; exact Ar93.1) (State.isArrayOf_alike hZ.alike Ar93.2.1) (g := (mkF m 1 #[.val (.ref ra), .val (.int (0 : Int32)), .val (.int (1 : Int32)), .val (.ref rb), .val (.int (0 : Int32)), .val (.int (1 : Int32)), .unset, .unset] [(.ref ra)])) rfl rfl (hb hby d9_1) _ ?_
      rw [len_of Sz93 Ng93]
      show Steps p.tables e below (s₁.setTop (mkF m 2 #[.val (.ref ra), .val (.int (0 : Int32)), .val (.int (1 : Int32)), .val (.ref rb), .val (.int (0 : Int32)), .val (.int (1 : Int32)), .unset, .unset] [(.int (1 : Int32))])) _
      refine XS.iloadN X0.here hx rfl (hb hby d9_2) rfl ?_
      show Steps p.tables e below (s₁.setTop (mkF m 3 #[.val (.ref ra), .val (.int (0 : Int32)), .val (.int (1 : Int32)), .val (.ref rb), .val (.int (0 : Int32)), .val (.int (1 : Int32)), .unset, .unset] [(.int (0 : Int32)), (.int (1 : Int32))])) _
      refine XS.iloadN X0.here hx rfl (hb hby d9_3) rfl ?_
      show Steps p.tables e below (s₁.setTop (mkF m 4 #[.val (.ref ra), .val (.int (0 : Int32)), .val (.int (1 : Int32)), .val (.ref rb), .val (.int (0 : Int32)), .val (.int (1 : Int32)), .unset, .unset] [(.int (1 : Int32)), (.int (0 : Int32)), (.int (1 : Int32))])) _
      exact h)
  obtain ⟨_, _, ⟨T96, L96, kk96, n96⟩, -, X96, ⟨Lc96, hQ96, l96, y96, z96⟩, st96⟩ := Jvm.LawKit.callS X0 hx (y := (⟨"java/util/Arrays", "rangeCheck", "(III)V"⟩ : MethodName)) hown (mvT hZ (hw _ (List.mem_of_getElem? (i := 48) rfl))) (mvT hZ (hw _ (List.mem_of_getElem? (i := 49) rfl))) (mvT hZ (hw _ (List.mem_of_getElem? (i := 46) rfl))) (mvT hZ (hw _ (List.mem_of_getElem? (i := 50) rfl))) (by decide) (backOf (W := 0) (rmRC l Z a0 hw []   h0 n0 O0 ) hZ (hw _ (List.mem_of_getElem? (i := 50) rfl)) (hw _ (List.mem_of_getElem? (i := 46) rfl)) (by decide) (by decide)) (g := (mkF m 4 #[.val (.ref ra), .val (.int (0 : Int32)), .val (.int (1 : Int32)), .val (.ref rb), .val (.int (0 : Int32)), .val (.int (1 : Int32)), .unset, .unset] [(.int (1 : Int32)), (.int (0 : Int32)), (.int (1 : Int32))])) rfl (by rw [hml]; rfl) (argsL := [(.int (1 : Int32)), (.int (0 : Int32)), (.int (1 : Int32))]) (rest := []) (lenOf pd_8 rfl) rfl (by show 2 * 0 + _ ≤ _; exact Nat.le_of_eq rfl) (hb hby d9_4) (fun _ _ => ⟨rfl, e0, (by decide : 0 + 0 ≤ _), (by decide : 0 + 0 ≤ _)⟩)
  dsimp only [Pt.U, Pt.locs, Pt.cells, Pt.slots] at X96 l96 y96 z96 st96 hQ96
  subst l96 y96 z96
  obtain ⟨rfl, Nq96, hh96⟩ := hQ96
  have N96 := Fr.app N0 Nq96
  have k97 : Rch p e below S0 T96 (mkF m 7 #[.val (.ref ra), .val (.int (0 : Int32)), .val (.int (1 : Int32)), .val (.ref rb), .val (.int (0 : Int32)), .val (.int (1 : Int32)), .unset, .unset] []) := fun t h => k95 t (st96 t h)
  have k99 : Rch p e below S0 T96 (mkF m 8 #[.val (.ref ra), .val (.int (0 : Int32)), .val (.int (1 : Int32)), .val (.ref rb), .val (.int (0 : Int32)), .val (.int (1 : Int32)), .unset, .unset] [(.ref rb)]) := fun t h => k97 t (by
      show Steps p.tables e below (T96.setTop (mkF m 7 #[.val (.ref ra), .val (.int (0 : Int32)), .val (.int (1 : Int32)), .val (.ref rb), .val (.int (0 : Int32)), .val (.int (1 : Int32)), .unset, .unset] [])) _
      refine XS.aloadN X96.here hx rfl (hb hby d9_7) rfl rfl ?_
      show Steps p.tables e below (T96.setTop (mkF m 8 #[.val (.ref ra), .val (.int (0 : Int32)), .val (.int (1 : Int32)), .val (.ref rb), .val (.int (0 : Int32)), .val (.int (1 : Int32)), .unset, .unset] [(.ref rb)])) _
      exact h)
  obtain ⟨cl98, Ar98, q98, Sz98, Ng98, Hs98, G98⟩ := id Vb
  have k100 : Rch p e below S0 T96 (mkF m 13 #[.val (.ref ra), .val (.int (0 : Int32)), .val (.int (1 : Int32)), .val (.ref rb), .val (.int (0 : Int32)), .val (.int (1 : Int32)), .unset, .unset] [(.int (1 : Int32)), (.int (0 : Int32)), (.int (1 : Int32))]) := fun t h => k99 t (by
      show Steps p.tables e below (T96.setTop (mkF m 8 #[.val (.ref ra), .val (.int (0 : Int32)), .val (.int (1 : Int32)), .val (.ref rb), .val (.int (0 : Int32)), .val (.int (1 : Int32)), .unset, .unset] [(.ref rb)])) _
      refine X96.arraylength hx (by rw [hh96]; exact Ar98.1) (State.isArrayOf_alike hZ.alike Ar98.2.1) (g := (mkF m 8 #[.val (.ref ra), .val (.int (0 : Int32)), .val (.int (1 : Int32)), .val (.ref rb), .val (.int (0 : Int32)), .val (.int (1 : Int32)), .unset, .unset] [(.ref rb)])) rfl rfl (hb hby d9_8) _ ?_
      rw [len_of Sz98 Ng98]
      show Steps p.tables e below (T96.setTop (mkF m 9 #[.val (.ref ra), .val (.int (0 : Int32)), .val (.int (1 : Int32)), .val (.ref rb), .val (.int (0 : Int32)), .val (.int (1 : Int32)), .unset, .unset] [(.int (1 : Int32))])) _
      refine XS.iload X96.here hx rfl (hb hby d9_9) rfl ?_
      show Steps p.tables e below (T96.setTop (mkF m 11 #[.val (.ref ra), .val (.int (0 : Int32)), .val (.int (1 : Int32)), .val (.ref rb), .val (.int (0 : Int32)), .val (.int (1 : Int32)), .unset, .unset] [(.int (0 : Int32)), (.int (1 : Int32))])) _
      refine XS.iload X96.here hx rfl (hb hby d9_11) rfl ?_
      show Steps p.tables e below (T96.setTop (mkF m 13 #[.val (.ref ra), .val (.int (0 : Int32)), .val (.int (1 : Int32)), .val (.ref rb), .val (.int (0 : Int32)), .val (.int (1 : Int32)), .unset, .unset] [(.int (1 : Int32)), (.int (0 : Int32)), (.int (1 : Int32))])) _
      exact h)
  obtain ⟨_, _, ⟨T101, L101, kk101, n101⟩, -, X101, ⟨Lc101, hQ101, l101, y101, z101⟩, st101⟩ := Jvm.LawKit.callS X96 hx (y := (⟨"java/util/Arrays", "rangeCheck", "(III)V"⟩ : MethodName)) hown (mvT hZ (hw _ (List.mem_of_getElem? (i := 48) rfl))) (mvT hZ (hw _ (List.mem_of_getElem? (i := 49) rfl))) (mvT hZ (hw _ (List.mem_of_getElem? (i := 46) rfl))) (mvT hZ (hw _ (List.mem_of_getElem? (i := 50) rfl))) (by decide) (backOf (W := 0) (rmRC l Z a0 hw []   h0 n0 O0 ) hZ (hw _ (List.mem_of_getElem? (i := 50) rfl)) (hw _ (List.mem_of_getElem? (i := 46) rfl)) (by decide) (by decide)) (g := (mkF m 13 #[.val (.ref ra), .val (.int (0 : Int32)), .val (.int (1 : Int32)), .val (.ref rb), .val (.int (0 : Int32)), .val (.int (1 : Int32)), .unset, .unset] [(.int (1 : Int32)), (.int (0 : Int32)), (.int (1 : Int32))])) rfl (by rw [hml]; rfl) (argsL := [(.int (1 : Int32)), (.int (0 : Int32)), (.int (1 : Int32))]) (rest := []) (lenOf pd_8 rfl) rfl (by show 2 * 0 + _ ≤ _; exact Nat.le_of_eq rfl) (hb hby d9_13) (fun _ _ => ⟨rfl, hh96, (by decide : 0 + 0 ≤ _), (by decide : 0 + 0 ≤ _)⟩)
  dsimp only [Pt.U, Pt.locs, Pt.cells, Pt.slots] at X101 l101 y101 z101 st101 hQ101
  subst l101 y101 z101
  obtain ⟨rfl, Nq101, hh101⟩ := hQ101
  have N101 := Fr.app N96 Nq101
  have k102 : Rch p e below S0 T101 (mkF m 16 #[.val (.ref ra), .val (.int (0 : Int32)), .val (.int (1 : Int32)), .val (.ref rb), .val (.int (0 : Int32)), .val (.int (1 : Int32)), .unset, .unset] []) := fun t h => k100 t (st101 t h)
  have k103 : Rch p e below S0 T101 (mkF m 44 #[.val (.ref ra), .val (.int (0 : Int32)), .val (.int (1 : Int32)), .val (.ref rb), .val (.int (0 : Int32)), .val (.int (1 : Int32)), .val (.int (1 : Int32)), .val (.int (1 : Int32))] [(.int (1 : Int32)), (.int (0 : Int32)), (.ref rb), (.int (0 : Int32)), (.ref ra)]) := fun t h => k102 t (by
      show Steps p.tables e below (T101.setTop (mkF m 16 #[.val (.ref ra), .val (.int (0 : Int32)), .val (.int (1 : Int32)), .val (.ref rb), .val (.int (0 : Int32)), .val (.int (1 : Int32)), .unset, .unset] [])) _
      refine XS.iloadN X101.here hx rfl (hb hby d9_16) rfl ?_
      show Steps p.tables e below (T101.setTop (mkF m 17 #[.val (.ref ra), .val (.int (0 : Int32)), .val (.int (1 : Int32)), .val (.ref rb), .val (.int (0 : Int32)), .val (.int (1 : Int32)), .unset, .unset] [(.int (1 : Int32))])) _
      refine XS.iloadN X101.here hx rfl (hb hby d9_17) rfl ?_
      show Steps p.tables e below (T101.setTop (mkF m 18 #[.val (.ref ra), .val (.int (0 : Int32)), .val (.int (1 : Int32)), .val (.ref rb), .val (.int (0 : Int32)), .val (.int (1 : Int32)), .unset, .unset] [(.int (0 : Int32)), (.int (1 : Int32))])) _
      refine XS.isub X101.here hx rfl (hb hby d9_18) rfl ?_
      rw [(by decide : ((1 : Int32) - (0 : Int32)) = (1 : Int32))]
      show Steps p.tables e below (T101.setTop (mkF m 19 #[.val (.ref ra), .val (.int (0 : Int32)), .val (.int (1 : Int32)), .val (.ref rb), .val (.int (0 : Int32)), .val (.int (1 : Int32)), .unset, .unset] [(.int (1 : Int32))])) _
      refine XS.istore X101.here hx rfl (hb hby d9_19) rfl (l' := #[.val (.ref ra), .val (.int (0 : Int32)), .val (.int (1 : Int32)), .val (.ref rb), .val (.int (0 : Int32)), .val (.int (1 : Int32)), .val (.int (1 : Int32)), .unset]) rfl ?_
      show Steps p.tables e below (T101.setTop (mkF m 21 #[.val (.ref ra), .val (.int (0 : Int32)), .val (.int (1 : Int32)), .val (.ref rb), .val (.int (0 : Int32)), .val (.int (1 : Int32)), .val (.int (1 : Int32)), .unset] [])) _
      refine XS.iload X101.here hx rfl (hb hby d9_21) rfl ?_
      show Steps p.tables e below (T101.setTop (mkF m 23 #[.val (.ref ra), .val (.int (0 : Int32)), .val (.int (1 : Int32)), .val (.ref rb), .val (.int (0 : Int32)), .val (.int (1 : Int32)), .val (.int (1 : Int32)), .unset] [(.int (1 : Int32))])) _
      refine XS.iload X101.here hx rfl (hb hby d9_23) rfl ?_
      show Steps p.tables e below (T101.setTop (mkF m 25 #[.val (.ref ra), .val (.int (0 : Int32)), .val (.int (1 : Int32)), .val (.ref rb), .val (.int (0 : Int32)), .val (.int (1 : Int32)), .val (.int (1 : Int32)), .unset] [(.int (0 : Int32)), (.int (1 : Int32))])) _
      refine XS.isub X101.here hx rfl (hb hby d9_25) rfl ?_
      rw [(by decide : ((1 : Int32) - (0 : Int32)) = (1 : Int32))]
      show Steps p.tables e below (T101.setTop (mkF m 26 #[.val (.ref ra), .val (.int (0 : Int32)), .val (.int (1 : Int32)), .val (.ref rb), .val (.int (0 : Int32)), .val (.int (1 : Int32)), .val (.int (1 : Int32)), .unset] [(.int (1 : Int32))])) _
      refine XS.istore X101.here hx rfl (hb hby d9_26) rfl (l' := #[.val (.ref ra), .val (.int (0 : Int32)), .val (.int (1 : Int32)), .val (.ref rb), .val (.int (0 : Int32)), .val (.int (1 : Int32)), .val (.int (1 : Int32)), .val (.int (1 : Int32))]) rfl ?_
      show Steps p.tables e below (T101.setTop (mkF m 28 #[.val (.ref ra), .val (.int (0 : Int32)), .val (.int (1 : Int32)), .val (.ref rb), .val (.int (0 : Int32)), .val (.int (1 : Int32)), .val (.int (1 : Int32)), .val (.int (1 : Int32))] [])) _
      refine XS.iload X101.here hx rfl (hb hby d9_28) rfl ?_
      show Steps p.tables e below (T101.setTop (mkF m 30 #[.val (.ref ra), .val (.int (0 : Int32)), .val (.int (1 : Int32)), .val (.ref rb), .val (.int (0 : Int32)), .val (.int (1 : Int32)), .val (.int (1 : Int32)), .val (.int (1 : Int32))] [(.int (1 : Int32))])) _
      refine XS.iload X101.here hx rfl (hb hby d9_30) rfl ?_
      show Steps p.tables e below (T101.setTop (mkF m 32 #[.val (.ref ra), .val (.int (0 : Int32)), .val (.int (1 : Int32)), .val (.ref rb), .val (.int (0 : Int32)), .val (.int (1 : Int32)), .val (.int (1 : Int32)), .val (.int (1 : Int32))] [(.int (1 : Int32)), (.int (1 : Int32))])) _
      refine XS.icmpYes X101.here hx rfl (pc0 := 32) (pc' := 37) rfl (hb hby d9_32) rfl (teq (by decide : (1 : Int32) = (1 : Int32))).1 (by decide) (by decide) ?_
      show Steps p.tables e below (T101.setTop (mkF m 37 #[.val (.ref ra), .val (.int (0 : Int32)), .val (.int (1 : Int32)), .val (.ref rb), .val (.int (0 : Int32)), .val (.int (1 : Int32)), .val (.int (1 : Int32)), .val (.int (1 : Int32))] [])) _
      refine XS.aloadN X101.here hx rfl (hb hby d9_37) rfl rfl ?_
      show Steps p.tables e below (T101.setTop (mkF m 38 #[.val (.ref ra), .val (.int (0 : Int32)), .val (.int (1 : Int32)), .val (.ref rb), .val (.int (0 : Int32)), .val (.int (1 : Int32)), .val (.int (1 : Int32)), .val (.int (1 : Int32))] [(.ref ra)])) _
      refine XS.iloadN X101.here hx rfl (hb hby d9_38) rfl ?_
      show Steps p.tables e below (T101.setTop (mkF m 39 #[.val (.ref ra), .val (.int (0 : Int32)), .val (.int (1 : Int32)), .val (.ref rb), .val (.int (0 : Int32)), .val (.int (1 : Int32)), .val (.int (1 : Int32)), .val (.int (1 : Int32))] [(.int (0 : Int32)), (.ref ra)])) _
      refine XS.aloadN X101.here hx rfl (hb hby d9_39) rfl rfl ?_
      show Steps p.tables e below (T101.setTop (mkF m 40 #[.val (.ref ra), .val (.int (0 : Int32)), .val (.int (1 : Int32)), .val (.ref rb), .val (.int (0 : Int32)), .val (.int (1 : Int32)), .val (.int (1 : Int32)), .val (.int (1 : Int32))] [(.ref rb), (.int (0 : Int32)), (.ref ra)])) _
      refine XS.iload X101.here hx rfl (hb hby d9_40) rfl ?_
      show Steps p.tables e below (T101.setTop (mkF m 42 #[.val (.ref ra), .val (.int (0 : Int32)), .val (.int (1 : Int32)), .val (.ref rb), .val (.int (0 : Int32)), .val (.int (1 : Int32)), .val (.int (1 : Int32)), .val (.int (1 : Int32))] [(.int (0 : Int32)), (.ref rb), (.int (0 : Int32)), (.ref ra)])) _
      refine XS.iload X101.here hx rfl (hb hby d9_42) rfl ?_
      show Steps p.tables e below (T101.setTop (mkF m 44 #[.val (.ref ra), .val (.int (0 : Int32)), .val (.int (1 : Int32)), .val (.ref rb), .val (.int (0 : Int32)), .val (.int (1 : Int32)), .val (.int (1 : Int32)), .val (.int (1 : Int32))] [(.int (1 : Int32)), (.int (0 : Int32)), (.ref rb), (.int (0 : Int32)), (.ref ra)])) _
      exact h)
  obtain ⟨_, _, ⟨T104, L104, kk104, n104⟩, -, X104, ⟨Lc104, hQ104, l104, y104, z104⟩, st104⟩ := Jvm.LawKit.callS X101 hx (y := (⟨"jdk/internal/util/ArraysSupport", "mismatch", "([II[III)I"⟩ : MethodName)) hown (mvT hZ (hw _ (List.mem_of_getElem? (i := 51) rfl))) (mvT hZ (hw _ (List.mem_of_getElem? (i := 52) rfl))) (mvT hZ (hw _ (List.mem_of_getElem? (i := 53) rfl))) (mvT hZ (hw _ (List.mem_of_getElem? (i := 54) rfl))) (by decide) (backOf (W := 0) (rmM5e l Z a0 hw []  ra ka x rb kb y h0 n0 O0 Va Vb hq) hZ (hw _ (List.mem_of_getElem? (i := 54) rfl)) (hw _ (List.mem_of_getElem? (i := 53) rfl)) (by decide) (by decide)) (g := (mkF m 44 #[.val (.ref ra), .val (.int (0 : Int32)), .val (.int (1 : Int32)), .val (.ref rb), .val (.int (0 : Int32)), .val (.int (1 : Int32)), .val (.int (1 : Int32)), .val (.int (1 : Int32))] [(.int (1 : Int32)), (.int (0 : Int32)), (.ref rb), (.int (0 : Int32)), (.ref ra)])) rfl (by rw [hml]; rfl) (argsL := [(.ref ra), (.int (0 : Int32)), (.ref rb), (.int (0 : Int32)), (.int (1 : Int32))]) (rest := []) (lenOf pd_9 rfl) rfl (by show 2 * 0 + _ ≤ _; exact Nat.le_of_eq rfl) (hb hby d9_44) (fun _ _ => ⟨rfl, hh101, (by decide : 0 + 0 ≤ _), (by decide : 0 + 0 ≤ _)⟩)
  dsimp only [Pt.U, Pt.locs, Pt.cells, Pt.slots] at X104 l104 y104 z104 st104 hQ104
  subst l104 y104 z104
  obtain ⟨rfl, Nq104, hh104⟩ := hQ104
  have N104 := Fr.app N101 Nq104
  have k105 : Rch p e below S0 T104 (mkF m 47 #[.val (.ref ra), .val (.int (0 : Int32)), .val (.int (1 : Int32)), .val (.ref rb), .val (.int (0 : Int32)), .val (.int (1 : Int32)), .val (.int (1 : Int32)), .val (.int (1 : Int32))] [(.int (-1 : Int32))]) := fun t h => k103 t (st104 t h)
  have k106 : Rch p e below S0 T104 (mkF m 55 #[.val (.ref ra), .val (.int (0 : Int32)), .val (.int (1 : Int32)), .val (.ref rb), .val (.int (0 : Int32)), .val (.int (1 : Int32)), .val (.int (1 : Int32)), .val (.int (1 : Int32))] [(.int (1 : Int32))]) := fun t h => k105 t (by
      show Steps p.tables e below (T104.setTop (mkF m 47 #[.val (.ref ra), .val (.int (0 : Int32)), .val (.int (1 : Int32)), .val (.ref rb), .val (.int (0 : Int32)), .val (.int (1 : Int32)), .val (.int (1 : Int32)), .val (.int (1 : Int32))] [(.int (-1 : Int32))])) _
      refine XS.ifNo X104.here hx rfl (hb hby d9_47) rfl ((if0 _ _).trans (tlt (by decide : (-1 : Int32) < (0 : Int32))).2.1) ?_
      show Steps p.tables e below (T104.setTop (mkF m 50 #[.val (.ref ra), .val (.int (0 : Int32)), .val (.int (1 : Int32)), .val (.ref rb), .val (.int (0 : Int32)), .val (.int (1 : Int32)), .val (.int (1 : Int32)), .val (.int (1 : Int32))] [])) _
      refine XS.iconst X104.here hx rfl (hb hby d9_50) ?_
      show Steps p.tables e below (T104.setTop (mkF m 51 #[.val (.ref ra), .val (.int (0 : Int32)), .val (.int (1 : Int32)), .val (.ref rb), .val (.int (0 : Int32)), .val (.int (1 : Int32)), .val (.int (1 : Int32)), .val (.int (1 : Int32))] [(.int (1 : Int32))])) _
      refine XS.goto X104.here hx rfl (pc0 := 51) (pc' := 55) rfl (hb hby d9_51) (by decide) (by decide) ?_
      show Steps p.tables e below (T104.setTop (mkF m 55 #[.val (.ref ra), .val (.int (0 : Int32)), .val (.int (1 : Int32)), .val (.ref rb), .val (.int (0 : Int32)), .val (.int (1 : Int32)), .val (.int (1 : Int32)), .val (.int (1 : Int32))] [(.int (1 : Int32))])) _
      exact h)
  obtain ⟨fs, hr, hrun, hended, hW, hsame⟩ := X104.leave (v := (some (.int (1 : Int32)))) (fun h => by rw [Bd.returns] at h; cases h)
  refine ⟨_, _, ?_, hrun, hended, _, _, rfl, ?_, ⟨_, rfl⟩, hW, hsame.mono (by decide) (by decide)⟩
  · rw [← hS0]
    refine k106 _ ?_
    show Steps p.tables e below (T104.setTop (mkF m 55 #[.val (.ref ra), .val (.int (0 : Int32)), .val (.int (1 : Int32)), .val (.ref rb), .val (.int (0 : Int32)), .val (.int (1 : Int32)), .val (.int (1 : Int32)), .val (.int (1 : Int32))] [(.int (1 : Int32))])) _
    exact retN X104 hx (t := .boolean) Bd.returns (by simp) (hb hby d9_55) hr
  · show Q_rmEqe Z  h0 n0 _ T104.heap _
    rw [hh104]
    exact ⟨rfl, N104, rfl⟩
def Q_rmEqn (Z : State)  (h0 : Heap) (n0 : Nat) (v : Option Value) (h : Heap) (L : List Loc) : Prop := v = some (.int (0 : Int32)) ∧ Fr n0 L ∧ h = h0
theorem d9_54 : decode jdk_65_method_84_code 54 = .ok (.iconst 0, 1) := by decide +kernel
set_option maxRecDepth 65536 in
set_option maxHeartbeats 40000000 in
theorem rmEqn (l : Launch) (Z : State) (a0 : Array Value) (hw : ∀ d ∈ tables_1, d.before a0 Z = true) (ws : List Jvm.Cond) (ra : Addr) (ka : ClassId) (x : Int32) (rb : Addr) (kb : ClassId) (y : Int32) (h0 : Heap) (n0 : Nat) (O0 : Old Z n0 h0) (Va : Arv Z h0 ra ka .int (1 : Int32) [.int x] (.int (0 : Int32))) (Vb : Arv Z h0 rb kb .int (1 : Int32) [.int y] (.int (0 : Int32))) (hq : ¬ (x = y)) :
    MetFree l (⟨"java/util/Arrays", "equals", "([III[III)Z"⟩ : MethodName) (head1 (Jvm.Cond.code (⟨"java/util/Arrays", "equals", "([III[III)Z"⟩ : MethodName) jdk_65_method_84_code 8 (some .boolean) :: ws) ({ frames := 1, cells := 0, slots := 0, locals := 30 } : Room)) (fun a U => a = #[(.ref ra), (.int (0 : Int32)), (.int (1 : Int32)), (.ref rb), (.int (0 : Int32)), (.int (1 : Int32))] ∧ Z.Warmed39 U.vm ∧ U.heap = h0) (fun _ _ _ _ _ => True) (fun _ U o U' => ∃ v L, o = .returned v ∧ Q_rmEqn Z  h0 n0 v U'.heap L ∧ FrameEnd U o U' L ({ frames := 1, cells := 0, slots := 0, locals := 30 } : Room).cells ({ frames := 1, cells := 0, slots := 0, locals := 30 } : Room).slots) := by
  refine MetFree.of_bodySF (plainFor_of_name pn_Arrays) hisR ?_
  intro p e s m args below meth c s₁ Bd hml0 hP hK
  obtain ⟨rfl, hZ, hh⟩ := hP
  have hx := Bd.exec
  have hby := Bd.bytes
  have hml : c.maxLocals = 8 := hml0
  have hown : s.vm.findClass "java/util/Arrays" = some m.cls := findClass_of_methodNamed Bd.named
  have hnm := (name_of_methodNamed Bd.named Bd.method).1
  have X0 : Stand p l e ({ frames := 1, cells := 0, slots := 0, locals := 30 } : Room) s m #[(.ref ra), (.int (0 : Int32)), (.int (1 : Int32)), (.ref rb), (.int (0 : Int32)), (.int (1 : Int32))] below meth c s₁ [] 0 0 := Stand.of_body Bd
  have e0 : s₁.heap = h0 := by rw [← hh, Bd.state]; rfl
  have N0 := Fr.nil n0
  obtain ⟨S0, hS0⟩ : ∃ z, z = s₁.setTop (entryFrame m #[(.ref ra), (.int (0 : Int32)), (.int (1 : Int32)), (.ref rb), (.int (0 : Int32)), (.int (1 : Int32))] 8) := ⟨_, rfl⟩
  have k0 : Rch p e below S0 s₁ (mkF m 0 #[.val (.ref ra), .val (.int (0 : Int32)), .val (.int (1 : Int32)), .val (.ref rb), .val (.int (0 : Int32)), .val (.int (1 : Int32)), .unset, .unset] []) := fun t k => hS0 ▸ castTop (ef_9 m ra (0 : Int32) (1 : Int32) rb (0 : Int32) (1 : Int32)) k
  have k108 : Rch p e below S0 s₁ (mkF m 1 #[.val (.ref ra), .val (.int (0 : Int32)), .val (.int (1 : Int32)), .val (.ref rb), .val (.int (0 : Int32)), .val (.int (1 : Int32)), .unset, .unset] [(.ref ra)]) := fun t h => k0 t (by
      show Steps p.tables e below (s₁.setTop (mkF m 0 #[.val (.ref ra), .val (.int (0 : Int32)), .val (.int (1 : Int32)), .val (.ref rb), .val (.int (0 : Int32)), .val (.int (1 : Int32)), .unset, .unset] [])) _
      refine XS.aloadN X0.here hx rfl (hb hby d9_0) rfl rfl ?_
      show Steps p.tables e below (s₁.setTop (mkF m 1 #[.val (.ref ra), .val (.int (0 : Int32)), .val (.int (1 : Int32)), .val (.ref rb), .val (.int (0 : Int32)), .val (.int (1 : Int32)), .unset, .unset] [(.ref ra)])) _
      exact h)
  obtain ⟨cl107, Ar107, q107, Sz107, Ng107, Hs107, G107⟩ := id Va
  have k109 : Rch p e below S0 s₁ (mkF m 4 #[.val (.ref ra), .val (.int (0 : Int32)), .val (.int (1 : Int32)), .val (.ref rb), .val (.int (0 : Int32)), .val (.int (1 : Int32)), .unset, .unset] [(.int (1 : Int32)), (.int (0 : Int32)), (.int (1 : Int32))]) := fun t h => k108 t (by
      show Steps p.tables e below (s₁.setTop (mkF m 1 #[.val (.ref ra), .val (.int (0 : Int32)), .val (.int (1 : Int32)), .val (.ref rb), .val (.int (0 : Int32)), .val (.int (1 : Int32)), .unset, .unset] [(.ref ra)])) _
      refine X0.arraylength hx (by rw [e0]; exact Ar107.1) (State.isArrayOf_alike hZ.alike Ar107.2.1) (g := (mkF m 1 #[.val (.ref ra), .val (.int (0 : Int32)), .val (.int (1 : Int32)), .val (.ref rb), .val (.int (0 : Int32)), .val (.int (1 : Int32)), .unset, .unset] [(.ref ra)])) rfl rfl (hb hby d9_1) _ ?_
      rw [len_of Sz107 Ng107]
      show Steps p.tables e below (s₁.setTop (mkF m 2 #[.val (.ref ra), .val (.int (0 : Int32)), .val (.int (1 : Int32)), .val (.ref rb), .val (.int (0 : Int32)), .val (.int (1 : Int32)), .unset, .unset] [(.int (1 : Int32))])) _
      refine XS.iloadN X0.here hx rfl (hb hby d9_2) rfl ?_
      show Steps p.tables e below (s₁.setTop (mkF m 3 #[.val (.ref ra), .val (.int (0 : Int32)), .val (.int (1 : Int32)), .val (.ref rb), .val (.int (0 : Int32)), .val (.int (1 : Int32)), .unset, .unset] [(.int (0 : Int32)), (.int (1 : Int32))])) _
      refine XS.iloadN X0.here hx rfl (hb hby d9_3) rfl ?_
      show Steps p.tables e below (s₁.setTop (mkF m 4 #[.val (.ref ra), .val (.int (0 : Int32)), .val (.int (1 : Int32)), .val (.ref rb), .val (.int (0 : Int32)), .val (.int (1 : Int32)), .unset, .unset] [(.int (1 : Int32)), (.int (0 : Int32)), (.int (1 : Int32))])) _
      exact h)
  obtain ⟨_, _, ⟨T110, L110, kk110, n110⟩, -, X110, ⟨Lc110, hQ110, l110, y110, z110⟩, st110⟩ := Jvm.LawKit.callS X0 hx (y := (⟨"java/util/Arrays", "rangeCheck", "(III)V"⟩ : MethodName)) hown (mvT hZ (hw _ (List.mem_of_getElem? (i := 48) rfl))) (mvT hZ (hw _ (List.mem_of_getElem? (i := 49) rfl))) (mvT hZ (hw _ (List.mem_of_getElem? (i := 46) rfl))) (mvT hZ (hw _ (List.mem_of_getElem? (i := 50) rfl))) (by decide) (backOf (W := 0) (rmRC l Z a0 hw []   h0 n0 O0 ) hZ (hw _ (List.mem_of_getElem? (i := 50) rfl)) (hw _ (List.mem_of_getElem? (i := 46) rfl)) (by decide) (by decide)) (g := (mkF m 4 #[.val (.ref ra), .val (.int (0 : Int32)), .val (.int (1 : Int32)), .val (.ref rb), .val (.int (0 : Int32)), .val (.int (1 : Int32)), .unset, .unset] [(.int (1 : Int32)), (.int (0 : Int32)), (.int (1 : Int32))])) rfl (by rw [hml]; rfl) (argsL := [(.int (1 : Int32)), (.int (0 : Int32)), (.int (1 : Int32))]) (rest := []) (lenOf pd_8 rfl) rfl (by show 2 * 0 + _ ≤ _; exact Nat.le_of_eq rfl) (hb hby d9_4) (fun _ _ => ⟨rfl, e0, (by decide : 0 + 0 ≤ _), (by decide : 0 + 0 ≤ _)⟩)
  dsimp only [Pt.U, Pt.locs, Pt.cells, Pt.slots] at X110 l110 y110 z110 st110 hQ110
  subst l110 y110 z110
  obtain ⟨rfl, Nq110, hh110⟩ := hQ110
  have N110 := Fr.app N0 Nq110
  have k111 : Rch p e below S0 T110 (mkF m 7 #[.val (.ref ra), .val (.int (0 : Int32)), .val (.int (1 : Int32)), .val (.ref rb), .val (.int (0 : Int32)), .val (.int (1 : Int32)), .unset, .unset] []) := fun t h => k109 t (st110 t h)
  have k113 : Rch p e below S0 T110 (mkF m 8 #[.val (.ref ra), .val (.int (0 : Int32)), .val (.int (1 : Int32)), .val (.ref rb), .val (.int (0 : Int32)), .val (.int (1 : Int32)), .unset, .unset] [(.ref rb)]) := fun t h => k111 t (by
      show Steps p.tables e below (T110.setTop (mkF m 7 #[.val (.ref ra), .val (.int (0 : Int32)), .val (.int (1 : Int32)), .val (.ref rb), .val (.int (0 : Int32)), .val (.int (1 : Int32)), .unset, .unset] [])) _
      refine XS.aloadN X110.here hx rfl (hb hby d9_7) rfl rfl ?_
      show Steps p.tables e below (T110.setTop (mkF m 8 #[.val (.ref ra), .val (.int (0 : Int32)), .val (.int (1 : Int32)), .val (.ref rb), .val (.int (0 : Int32)), .val (.int (1 : Int32)), .unset, .unset] [(.ref rb)])) _
      exact h)
  obtain ⟨cl112, Ar112, q112, Sz112, Ng112, Hs112, G112⟩ := id Vb
  have k114 : Rch p e below S0 T110 (mkF m 13 #[.val (.ref ra), .val (.int (0 : Int32)), .val (.int (1 : Int32)), .val (.ref rb), .val (.int (0 : Int32)), .val (.int (1 : Int32)), .unset, .unset] [(.int (1 : Int32)), (.int (0 : Int32)), (.int (1 : Int32))]) := fun t h => k113 t (by
      show Steps p.tables e below (T110.setTop (mkF m 8 #[.val (.ref ra), .val (.int (0 : Int32)), .val (.int (1 : Int32)), .val (.ref rb), .val (.int (0 : Int32)), .val (.int (1 : Int32)), .unset, .unset] [(.ref rb)])) _
      refine X110.arraylength hx (by rw [hh110]; exact Ar112.1) (State.isArrayOf_alike hZ.alike Ar112.2.1) (g := (mkF m 8 #[.val (.ref ra), .val (.int (0 : Int32)), .val (.int (1 : Int32)), .val (.ref rb), .val (.int (0 : Int32)), .val (.int (1 : Int32)), .unset, .unset] [(.ref rb)])) rfl rfl (hb hby d9_8) _ ?_
      rw [len_of Sz112 Ng112]
      show Steps p.tables e below (T110.setTop (mkF m 9 #[.val (.ref ra), .val (.int (0 : Int32)), .val (.int (1 : Int32)), .val (.ref rb), .val (.int (0 : Int32)), .val (.int (1 : Int32)), .unset, .unset] [(.int (1 : Int32))])) _
      refine XS.iload X110.here hx rfl (hb hby d9_9) rfl ?_
      show Steps p.tables e below (T110.setTop (mkF m 11 #[.val (.ref ra), .val (.int (0 : Int32)), .val (.int (1 : Int32)), .val (.ref rb), .val (.int (0 : Int32)), .val (.int (1 : Int32)), .unset, .unset] [(.int (0 : Int32)), (.int (1 : Int32))])) _
      refine XS.iload X110.here hx rfl (hb hby d9_11) rfl ?_
      show Steps p.tables e below (T110.setTop (mkF m 13 #[.val (.ref ra), .val (.int (0 : Int32)), .val (.int (1 : Int32)), .val (.ref rb), .val (.int (0 : Int32)), .val (.int (1 : Int32)), .unset, .unset] [(.int (1 : Int32)), (.int (0 : Int32)), (.int (1 : Int32))])) _
      exact h)
  obtain ⟨_, _, ⟨T115, L115, kk115, n115⟩, -, X115, ⟨Lc115, hQ115, l115, y115, z115⟩, st115⟩ := Jvm.LawKit.callS X110 hx (y := (⟨"java/util/Arrays", "rangeCheck", "(III)V"⟩ : MethodName)) hown (mvT hZ (hw _ (List.mem_of_getElem? (i := 48) rfl))) (mvT hZ (hw _ (List.mem_of_getElem? (i := 49) rfl))) (mvT hZ (hw _ (List.mem_of_getElem? (i := 46) rfl))) (mvT hZ (hw _ (List.mem_of_getElem? (i := 50) rfl))) (by decide) (backOf (W := 0) (rmRC l Z a0 hw []   h0 n0 O0 ) hZ (hw _ (List.mem_of_getElem? (i := 50) rfl)) (hw _ (List.mem_of_getElem? (i := 46) rfl)) (by decide) (by decide)) (g := (mkF m 13 #[.val (.ref ra), .val (.int (0 : Int32)), .val (.int (1 : Int32)), .val (.ref rb), .val (.int (0 : Int32)), .val (.int (1 : Int32)), .unset, .unset] [(.int (1 : Int32)), (.int (0 : Int32)), (.int (1 : Int32))])) rfl (by rw [hml]; rfl) (argsL := [(.int (1 : Int32)), (.int (0 : Int32)), (.int (1 : Int32))]) (rest := []) (lenOf pd_8 rfl) rfl (by show 2 * 0 + _ ≤ _; exact Nat.le_of_eq rfl) (hb hby d9_13) (fun _ _ => ⟨rfl, hh110, (by decide : 0 + 0 ≤ _), (by decide : 0 + 0 ≤ _)⟩)
  dsimp only [Pt.U, Pt.locs, Pt.cells, Pt.slots] at X115 l115 y115 z115 st115 hQ115
  subst l115 y115 z115
  obtain ⟨rfl, Nq115, hh115⟩ := hQ115
  have N115 := Fr.app N110 Nq115
  have k116 : Rch p e below S0 T115 (mkF m 16 #[.val (.ref ra), .val (.int (0 : Int32)), .val (.int (1 : Int32)), .val (.ref rb), .val (.int (0 : Int32)), .val (.int (1 : Int32)), .unset, .unset] []) := fun t h => k114 t (st115 t h)
  have k117 : Rch p e below S0 T115 (mkF m 44 #[.val (.ref ra), .val (.int (0 : Int32)), .val (.int (1 : Int32)), .val (.ref rb), .val (.int (0 : Int32)), .val (.int (1 : Int32)), .val (.int (1 : Int32)), .val (.int (1 : Int32))] [(.int (1 : Int32)), (.int (0 : Int32)), (.ref rb), (.int (0 : Int32)), (.ref ra)]) := fun t h => k116 t (by
      show Steps p.tables e below (T115.setTop (mkF m 16 #[.val (.ref ra), .val (.int (0 : Int32)), .val (.int (1 : Int32)), .val (.ref rb), .val (.int (0 : Int32)), .val (.int (1 : Int32)), .unset, .unset] [])) _
      refine XS.iloadN X115.here hx rfl (hb hby d9_16) rfl ?_
      show Steps p.tables e below (T115.setTop (mkF m 17 #[.val (.ref ra), .val (.int (0 : Int32)), .val (.int (1 : Int32)), .val (.ref rb), .val (.int (0 : Int32)), .val (.int (1 : Int32)), .unset, .unset] [(.int (1 : Int32))])) _
      refine XS.iloadN X115.here hx rfl (hb hby d9_17) rfl ?_
      show Steps p.tables e below (T115.setTop (mkF m 18 #[.val (.ref ra), .val (.int (0 : Int32)), .val (.int (1 : Int32)), .val (.ref rb), .val (.int (0 : Int32)), .val (.int (1 : Int32)), .unset, .unset] [(.int (0 : Int32)), (.int (1 : Int32))])) _
      refine XS.isub X115.here hx rfl (hb hby d9_18) rfl ?_
      rw [(by decide : ((1 : Int32) - (0 : Int32)) = (1 : Int32))]
      show Steps p.tables e below (T115.setTop (mkF m 19 #[.val (.ref ra), .val (.int (0 : Int32)), .val (.int (1 : Int32)), .val (.ref rb), .val (.int (0 : Int32)), .val (.int (1 : Int32)), .unset, .unset] [(.int (1 : Int32))])) _
      refine XS.istore X115.here hx rfl (hb hby d9_19) rfl (l' := #[.val (.ref ra), .val (.int (0 : Int32)), .val (.int (1 : Int32)), .val (.ref rb), .val (.int (0 : Int32)), .val (.int (1 : Int32)), .val (.int (1 : Int32)), .unset]) rfl ?_
      show Steps p.tables e below (T115.setTop (mkF m 21 #[.val (.ref ra), .val (.int (0 : Int32)), .val (.int (1 : Int32)), .val (.ref rb), .val (.int (0 : Int32)), .val (.int (1 : Int32)), .val (.int (1 : Int32)), .unset] [])) _
      refine XS.iload X115.here hx rfl (hb hby d9_21) rfl ?_
      show Steps p.tables e below (T115.setTop (mkF m 23 #[.val (.ref ra), .val (.int (0 : Int32)), .val (.int (1 : Int32)), .val (.ref rb), .val (.int (0 : Int32)), .val (.int (1 : Int32)), .val (.int (1 : Int32)), .unset] [(.int (1 : Int32))])) _
      refine XS.iload X115.here hx rfl (hb hby d9_23) rfl ?_
      show Steps p.tables e below (T115.setTop (mkF m 25 #[.val (.ref ra), .val (.int (0 : Int32)), .val (.int (1 : Int32)), .val (.ref rb), .val (.int (0 : Int32)), .val (.int (1 : Int32)), .val (.int (1 : Int32)), .unset] [(.int (0 : Int32)), (.int (1 : Int32))])) _
      refine XS.isub X115.here hx rfl (hb hby d9_25) rfl ?_
      rw [(by decide : ((1 : Int32) - (0 : Int32)) = (1 : Int32))]
      show Steps p.tables e below (T115.setTop (mkF m 26 #[.val (.ref ra), .val (.int (0 : Int32)), .val (.int (1 : Int32)), .val (.ref rb), .val (.int (0 : Int32)), .val (.int (1 : Int32)), .val (.int (1 : Int32)), .unset] [(.int (1 : Int32))])) _
      refine XS.istore X115.here hx rfl (hb hby d9_26) rfl (l' := #[.val (.ref ra), .val (.int (0 : Int32)), .val (.int (1 : Int32)), .val (.ref rb), .val (.int (0 : Int32)), .val (.int (1 : Int32)), .val (.int (1 : Int32)), .val (.int (1 : Int32))]) rfl ?_
      show Steps p.tables e below (T115.setTop (mkF m 28 #[.val (.ref ra), .val (.int (0 : Int32)), .val (.int (1 : Int32)), .val (.ref rb), .val (.int (0 : Int32)), .val (.int (1 : Int32)), .val (.int (1 : Int32)), .val (.int (1 : Int32))] [])) _
      refine XS.iload X115.here hx rfl (hb hby d9_28) rfl ?_
      show Steps p.tables e below (T115.setTop (mkF m 30 #[.val (.ref ra), .val (.int (0 : Int32)), .val (.int (1 : Int32)), .val (.ref rb), .val (.int (0 : Int32)), .val (.int (1 : Int32)), .val (.int (1 : Int32)), .val (.int (1 : Int32))] [(.int (1 : Int32))])) _
      refine XS.iload X115.here hx rfl (hb hby d9_30) rfl ?_
      show Steps p.tables e below (T115.setTop (mkF m 32 #[.val (.ref ra), .val (.int (0 : Int32)), .val (.int (1 : Int32)), .val (.ref rb), .val (.int (0 : Int32)), .val (.int (1 : Int32)), .val (.int (1 : Int32)), .val (.int (1 : Int32))] [(.int (1 : Int32)), (.int (1 : Int32))])) _
      refine XS.icmpYes X115.here hx rfl (pc0 := 32) (pc' := 37) rfl (hb hby d9_32) rfl (teq (by decide : (1 : Int32) = (1 : Int32))).1 (by decide) (by decide) ?_
      show Steps p.tables e below (T115.setTop (mkF m 37 #[.val (.ref ra), .val (.int (0 : Int32)), .val (.int (1 : Int32)), .val (.ref rb), .val (.int (0 : Int32)), .val (.int (1 : Int32)), .val (.int (1 : Int32)), .val (.int (1 : Int32))] [])) _
      refine XS.aloadN X115.here hx rfl (hb hby d9_37) rfl rfl ?_
      show Steps p.tables e below (T115.setTop (mkF m 38 #[.val (.ref ra), .val (.int (0 : Int32)), .val (.int (1 : Int32)), .val (.ref rb), .val (.int (0 : Int32)), .val (.int (1 : Int32)), .val (.int (1 : Int32)), .val (.int (1 : Int32))] [(.ref ra)])) _
      refine XS.iloadN X115.here hx rfl (hb hby d9_38) rfl ?_
      show Steps p.tables e below (T115.setTop (mkF m 39 #[.val (.ref ra), .val (.int (0 : Int32)), .val (.int (1 : Int32)), .val (.ref rb), .val (.int (0 : Int32)), .val (.int (1 : Int32)), .val (.int (1 : Int32)), .val (.int (1 : Int32))] [(.int (0 : Int32)), (.ref ra)])) _
      refine XS.aloadN X115.here hx rfl (hb hby d9_39) rfl rfl ?_
      show Steps p.tables e below (T115.setTop (mkF m 40 #[.val (.ref ra), .val (.int (0 : Int32)), .val (.int (1 : Int32)), .val (.ref rb), .val (.int (0 : Int32)), .val (.int (1 : Int32)), .val (.int (1 : Int32)), .val (.int (1 : Int32))] [(.ref rb), (.int (0 : Int32)), (.ref ra)])) _
      refine XS.iload X115.here hx rfl (hb hby d9_40) rfl ?_
      show Steps p.tables e below (T115.setTop (mkF m 42 #[.val (.ref ra), .val (.int (0 : Int32)), .val (.int (1 : Int32)), .val (.ref rb), .val (.int (0 : Int32)), .val (.int (1 : Int32)), .val (.int (1 : Int32)), .val (.int (1 : Int32))] [(.int (0 : Int32)), (.ref rb), (.int (0 : Int32)), (.ref ra)])) _
      refine XS.iload X115.here hx rfl (hb hby d9_42) rfl ?_
      show Steps p.tables e below (T115.setTop (mkF m 44 #[.val (.ref ra), .val (.int (0 : Int32)), .val (.int (1 : Int32)), .val (.ref rb), .val (.int (0 : Int32)), .val (.int (1 : Int32)), .val (.int (1 : Int32)), .val (.int (1 : Int32))] [(.int (1 : Int32)), (.int (0 : Int32)), (.ref rb), (.int (0 : Int32)), (.ref ra)])) _
      exact h)
  obtain ⟨_, _, ⟨T118, L118, kk118, n118⟩, -, X118, ⟨Lc118, hQ118, l118, y118, z118⟩, st118⟩ := Jvm.LawKit.callS X115 hx (y := (⟨"jdk/internal/util/ArraysSupport", "mismatch", "([II[III)I"⟩ : MethodName)) hown (mvT hZ (hw _ (List.mem_of_getElem? (i := 51) rfl))) (mvT hZ (hw _ (List.mem_of_getElem? (i := 52) rfl))) (mvT hZ (hw _ (List.mem_of_getElem? (i := 53) rfl))) (mvT hZ (hw _ (List.mem_of_getElem? (i := 54) rfl))) (by decide) (backOf (W := 0) (rmM5n l Z a0 hw []  ra ka x rb kb y h0 n0 O0 Va Vb hq) hZ (hw _ (List.mem_of_getElem? (i := 54) rfl)) (hw _ (List.mem_of_getElem? (i := 53) rfl)) (by decide) (by decide)) (g := (mkF m 44 #[.val (.ref ra), .val (.int (0 : Int32)), .val (.int (1 : Int32)), .val (.ref rb), .val (.int (0 : Int32)), .val (.int (1 : Int32)), .val (.int (1 : Int32)), .val (.int (1 : Int32))] [(.int (1 : Int32)), (.int (0 : Int32)), (.ref rb), (.int (0 : Int32)), (.ref ra)])) rfl (by rw [hml]; rfl) (argsL := [(.ref ra), (.int (0 : Int32)), (.ref rb), (.int (0 : Int32)), (.int (1 : Int32))]) (rest := []) (lenOf pd_9 rfl) rfl (by show 2 * 0 + _ ≤ _; exact Nat.le_of_eq rfl) (hb hby d9_44) (fun _ _ => ⟨rfl, hh115, (by decide : 0 + 0 ≤ _), (by decide : 0 + 0 ≤ _)⟩)
  dsimp only [Pt.U, Pt.locs, Pt.cells, Pt.slots] at X118 l118 y118 z118 st118 hQ118
  subst l118 y118 z118
  obtain ⟨rfl, Nq118, hh118⟩ := hQ118
  have N118 := Fr.app N115 Nq118
  have k119 : Rch p e below S0 T118 (mkF m 47 #[.val (.ref ra), .val (.int (0 : Int32)), .val (.int (1 : Int32)), .val (.ref rb), .val (.int (0 : Int32)), .val (.int (1 : Int32)), .val (.int (1 : Int32)), .val (.int (1 : Int32))] [(.int (0 : Int32))]) := fun t h => k117 t (st118 t h)
  have k120 : Rch p e below S0 T118 (mkF m 55 #[.val (.ref ra), .val (.int (0 : Int32)), .val (.int (1 : Int32)), .val (.ref rb), .val (.int (0 : Int32)), .val (.int (1 : Int32)), .val (.int (1 : Int32)), .val (.int (1 : Int32))] [(.int (0 : Int32))]) := fun t h => k119 t (by
      show Steps p.tables e below (T118.setTop (mkF m 47 #[.val (.ref ra), .val (.int (0 : Int32)), .val (.int (1 : Int32)), .val (.ref rb), .val (.int (0 : Int32)), .val (.int (1 : Int32)), .val (.int (1 : Int32)), .val (.int (1 : Int32))] [(.int (0 : Int32))])) _
      refine XS.ifYes X118.here hx rfl (pc0 := 47) (pc' := 54) rfl (hb hby d9_47) rfl ((if0 _ _).trans (flt (by decide : ¬ ((0 : Int32) < (0 : Int32)))).2.1) (by decide) (by decide) ?_
      show Steps p.tables e below (T118.setTop (mkF m 54 #[.val (.ref ra), .val (.int (0 : Int32)), .val (.int (1 : Int32)), .val (.ref rb), .val (.int (0 : Int32)), .val (.int (1 : Int32)), .val (.int (1 : Int32)), .val (.int (1 : Int32))] [])) _
      refine XS.iconst X118.here hx rfl (hb hby d9_54) ?_
      show Steps p.tables e below (T118.setTop (mkF m 55 #[.val (.ref ra), .val (.int (0 : Int32)), .val (.int (1 : Int32)), .val (.ref rb), .val (.int (0 : Int32)), .val (.int (1 : Int32)), .val (.int (1 : Int32)), .val (.int (1 : Int32))] [(.int (0 : Int32))])) _
      exact h)
  obtain ⟨fs, hr, hrun, hended, hW, hsame⟩ := X118.leave (v := (some (.int (0 : Int32)))) (fun h => by rw [Bd.returns] at h; cases h)
  refine ⟨_, _, ?_, hrun, hended, _, _, rfl, ?_, ⟨_, rfl⟩, hW, hsame.mono (by decide) (by decide)⟩
  · rw [← hS0]
    refine k120 _ ?_
    show Steps p.tables e below (T118.setTop (mkF m 55 #[.val (.ref ra), .val (.int (0 : Int32)), .val (.int (1 : Int32)), .val (.ref rb), .val (.int (0 : Int32)), .val (.int (1 : Int32)), .val (.int (1 : Int32)), .val (.int (1 : Int32))] [(.int (0 : Int32))])) _
    exact retN X118 hx (t := .boolean) Bd.returns (by simp) (hb hby d9_55) hr
  · show Q_rmEqn Z  h0 n0 _ T118.heap _
    rw [hh118]
    exact ⟨rfl, N118, rfl⟩
def Q_rmSWe (Z : State)  (h0 : Heap) (n0 : Nat) (v : Option Value) (h : Heap) (L : List Loc) : Prop := v = some (.int (1 : Int32)) ∧ Fr n0 L ∧ h = h0
theorem ef_8 (m : MethodId) (x0 : Addr) (x1 : Addr) : entryFrame m #[(.ref x0), (.ref x1)] 2 = mkF m 0 #[.val (.ref x0), .val (.ref x1)] [] := by first | (simp [entryFrame, mkF, argsToLocals, Value.category]; done) | rfl
theorem d8_0 : decode prog_24_method_9_code 0 = .ok (.aload_n 1, 1) := by decide +kernel
theorem d8_1 : decode prog_24_method_9_code 1 = .ok (.getfield 63, 3) := by decide +kernel
theorem d8_4 : decode prog_24_method_9_code 4 = .ok (.arraylength, 1) := by decide +kernel
theorem d8_5 : decode prog_24_method_9_code 5 = .ok (.aload_n 0, 1) := by decide +kernel
theorem d8_6 : decode prog_24_method_9_code 6 = .ok (.getfield 63, 3) := by decide +kernel
theorem d8_9 : decode prog_24_method_9_code 9 = .ok (.arraylength, 1) := by decide +kernel
theorem d8_10 : decode prog_24_method_9_code 10 = .ok (.if_icmp .gt 33, 3) := by decide +kernel
theorem d8_13 : decode prog_24_method_9_code 13 = .ok (.aload_n 0, 1) := by decide +kernel
theorem d8_14 : decode prog_24_method_9_code 14 = .ok (.getfield 63, 3) := by decide +kernel
theorem d8_17 : decode prog_24_method_9_code 17 = .ok (.iconst 0, 1) := by decide +kernel
theorem d8_18 : decode prog_24_method_9_code 18 = .ok (.aload_n 1, 1) := by decide +kernel
theorem d8_19 : decode prog_24_method_9_code 19 = .ok (.getfield 63, 3) := by decide +kernel
theorem d8_22 : decode prog_24_method_9_code 22 = .ok (.arraylength, 1) := by decide +kernel
theorem d8_23 : decode prog_24_method_9_code 23 = .ok (.aload_n 1, 1) := by decide +kernel
theorem d8_24 : decode prog_24_method_9_code 24 = .ok (.getfield 63, 3) := by decide +kernel
theorem d8_27 : decode prog_24_method_9_code 27 = .ok (.iconst 0, 1) := by decide +kernel
theorem d8_28 : decode prog_24_method_9_code 28 = .ok (.aload_n 1, 1) := by decide +kernel
theorem d8_29 : decode prog_24_method_9_code 29 = .ok (.getfield 63, 3) := by decide +kernel
theorem d8_32 : decode prog_24_method_9_code 32 = .ok (.arraylength, 1) := by decide +kernel
theorem pd_7 : parseMethodDescriptor "([III[III)Z" = some ⟨[(.array .int), .int, .int, (.array .int), .int, .int], some .boolean⟩ := by decide +kernel
theorem d8_33 : decode prog_24_method_9_code 33 = .ok (.invokestatic 67, 3) := by decide +kernel
theorem d8_36 : decode prog_24_method_9_code 36 = .ok (.ifCond .eq 7, 3) := by decide +kernel
theorem d8_39 : decode prog_24_method_9_code 39 = .ok (.iconst 1, 1) := by decide +kernel
theorem d8_40 : decode prog_24_method_9_code 40 = .ok (.goto 4, 3) := by decide +kernel
theorem d8_44 : decode prog_24_method_9_code 44 = .ok (.ireturn, 1) := by decide +kernel
set_option maxRecDepth 65536 in
set_option maxHeartbeats 40000000 in
theorem rmSWe (l : Launch) (Z : State) (a0 : Array Value) (hw : ∀ d ∈ tables_1, d.before a0 Z = true) (ws : List Jvm.Cond) (a1 : Addr) (a2 : Addr) (ra : Addr) (ka : ClassId) (x : Int32) (rb : Addr) (kb : ClassId) (y : Int32) (h0 : Heap) (n0 : Nat) (O0 : Old Z n0 h0) (F1 : Fld Z h0 a1 "com/example/lumenplan/lumenplan/network/RankedPath" "nodes" "[I" (.ref ra)) (F2 : Fld Z h0 a2 "com/example/lumenplan/lumenplan/network/RankedPath" "nodes" "[I" (.ref rb)) (Va : Arv Z h0 ra ka .int (1 : Int32) [.int x] (.int (0 : Int32))) (Vb : Arv Z h0 rb kb .int (1 : Int32) [.int y] (.int (0 : Int32))) (hq : x = y) :
    MetFree l (⟨"com/example/lumenplan/lumenplan/network/RankedPath", "startsWith", "(Lcom/example/lumenplan/lumenplan/network/RankedPath;)Z"⟩ : MethodName) (head1 (Jvm.Cond.code (⟨"com/example/lumenplan/lumenplan/network/RankedPath", "startsWith", "(Lcom/example/lumenplan/lumenplan/network/RankedPath;)Z"⟩ : MethodName) prog_24_method_9_code 2 (some .boolean) :: ws) ({ frames := 2, cells := 0, slots := 0, locals := 60 } : Room)) (fun a U => a = #[(.ref a1), (.ref a2)] ∧ Z.Warmed39 U.vm ∧ U.heap = h0) (fun _ _ _ _ _ => True) (fun _ U o U' => ∃ v L, o = .returned v ∧ Q_rmSWe Z  h0 n0 v U'.heap L ∧ FrameEnd U o U' L ({ frames := 2, cells := 0, slots := 0, locals := 60 } : Room).cells ({ frames := 2, cells := 0, slots := 0, locals := 60 } : Room).slots) := by
  refine MetFree.of_bodySF (plainFor_of_name pn_RankedPath) hisR ?_
  intro p e s m args below meth c s₁ Bd hml0 hP hK
  obtain ⟨rfl, hZ, hh⟩ := hP
  have hx := Bd.exec
  have hby := Bd.bytes
  have hml : c.maxLocals = 2 := hml0
  have hown : s.vm.findClass "com/example/lumenplan/lumenplan/network/RankedPath" = some m.cls := findClass_of_methodNamed Bd.named
  have hnm := (name_of_methodNamed Bd.named Bd.method).1
  have X0 : Stand p l e ({ frames := 2, cells := 0, slots := 0, locals := 60 } : Room) s m #[(.ref a1), (.ref a2)] below meth c s₁ [] 0 0 := Stand.of_body Bd
  have e0 : s₁.heap = h0 := by rw [← hh, Bd.state]; rfl
  have N0 := Fr.nil n0
  obtain ⟨S0, hS0⟩ : ∃ z, z = s₁.setTop (entryFrame m #[(.ref a1), (.ref a2)] 2) := ⟨_, rfl⟩
  have k0 : Rch p e below S0 s₁ (mkF m 0 #[.val (.ref a1), .val (.ref a2)] []) := fun t k => hS0 ▸ castTop (ef_8 m a1 a2) k
  have k122 : Rch p e below S0 s₁ (mkF m 1 #[.val (.ref a1), .val (.ref a2)] [(.ref a2)]) := fun t h => k0 t (by
      show Steps p.tables e below (s₁.setTop (mkF m 0 #[.val (.ref a1), .val (.ref a2)] [])) _
      refine XS.aloadN X0.here hx rfl (hb hby d8_0) rfl rfl ?_
      show Steps p.tables e below (s₁.setTop (mkF m 1 #[.val (.ref a1), .val (.ref a2)] [(.ref a2)])) _
      exact h)
  obtain ⟨T121, X121, e121, st121⟩ := getF X0 hx hZ hown (host := "") (Or.inl (hw _ (List.mem_of_getElem? (i := 17) rfl))) Via.refl e0 F2 (g := (mkF m 1 #[.val (.ref a1), .val (.ref a2)] [(.ref a2)])) rfl rfl (hb hby d8_1)
  have k123 : Rch p e below S0 T121 (mkF m 4 #[.val (.ref a1), .val (.ref a2)] [(.ref rb)]) := fun t h => k122 t (st121 t h)
  obtain ⟨cl124, Ar124, q124, Sz124, Ng124, Hs124, G124⟩ := id Vb
  have k126 : Rch p e below S0 T121 (mkF m 6 #[.val (.ref a1), .val (.ref a2)] [(.ref a1), (.int (1 : Int32))]) := fun t h => k123 t (by
      show Steps p.tables e below (T121.setTop (mkF m 4 #[.val (.ref a1), .val (.ref a2)] [(.ref rb)])) _
      refine X121.arraylength hx (by rw [e121]; exact Ar124.1) (State.isArrayOf_alike hZ.alike Ar124.2.1) (g := (mkF m 4 #[.val (.ref a1), .val (.ref a2)] [(.ref rb)])) rfl rfl (hb hby d8_4) _ ?_
      rw [len_of Sz124 Ng124]
      show Steps p.tables e below (T121.setTop (mkF m 5 #[.val (.ref a1), .val (.ref a2)] [(.int (1 : Int32))])) _
      refine XS.aloadN X121.here hx rfl (hb hby d8_5) rfl rfl ?_
      show Steps p.tables e below (T121.setTop (mkF m 6 #[.val (.ref a1), .val (.ref a2)] [(.ref a1), (.int (1 : Int32))])) _
      exact h)
  obtain ⟨T125, X125, e125, st125⟩ := getF X121 hx hZ hown (host := "") (Or.inl (hw _ (List.mem_of_getElem? (i := 17) rfl))) Via.refl e121 F1 (g := (mkF m 6 #[.val (.ref a1), .val (.ref a2)] [(.ref a1), (.int (1 : Int32))])) rfl rfl (hb hby d8_6)
  have k127 : Rch p e below S0 T125 (mkF m 9 #[.val (.ref a1), .val (.ref a2)] [(.ref ra), (.int (1 : Int32))]) := fun t h => k126 t (st125 t h)
  obtain ⟨cl128, Ar128, q128, Sz128, Ng128, Hs128, G128⟩ := id Va
  have k130 : Rch p e below S0 T125 (mkF m 14 #[.val (.ref a1), .val (.ref a2)] [(.ref a1)]) := fun t h => k127 t (by
      show Steps p.tables e below (T125.setTop (mkF m 9 #[.val (.ref a1), .val (.ref a2)] [(.ref ra), (.int (1 : Int32))])) _
      refine X125.arraylength hx (by rw [e125]; exact Ar128.1) (State.isArrayOf_alike hZ.alike Ar128.2.1) (g := (mkF m 9 #[.val (.ref a1), .val (.ref a2)] [(.ref ra), (.int (1 : Int32))])) rfl rfl (hb hby d8_9) _ ?_
      rw [len_of Sz128 Ng128]
      show Steps p.tables e below (T125.setTop (mkF m 10 #[.val (.ref a1), .val (.ref a2)] [(.int (1 : Int32)), (.int (1 : Int32))])) _
      refine XS.icmpNo X125.here hx rfl (hb hby d8_10) rfl (flt (by decide : ¬ ((1 : Int32) < (1 : Int32)))).2.2.1 ?_
      show Steps p.tables e below (T125.setTop (mkF m 13 #[.val (.ref a1), .val (.ref a2)] [])) _
      refine XS.aloadN X125.here hx rfl (hb hby d8_13) rfl rfl ?_
      show Steps p.tables e below (T125.setTop (mkF m 14 #[.val (.ref a1), .val (.ref a2)] [(.ref a1)])) _
      exact h)
  obtain ⟨T129, X129, e129, st129⟩ := getF X125 hx hZ hown (host := "") (Or.inl (hw _ (List.mem_of_getElem? (i := 17) rfl))) Via.refl e125 F1 (g := (mkF m 14 #[.val (.ref a1), .val (.ref a2)] [(.ref a1)])) rfl rfl (hb hby d8_14)
  have k131 : Rch p e below S0 T129 (mkF m 17 #[.val (.ref a1), .val (.ref a2)] [(.ref ra)]) := fun t h => k130 t (st129 t h)
  have k133 : Rch p e below S0 T129 (mkF m 19 #[.val (.ref a1), .val (.ref a2)] [(.ref a2), (.int (0 : Int32)), (.ref ra)]) := fun t h => k131 t (by
      show Steps p.tables e below (T129.setTop (mkF m 17 #[.val (.ref a1), .val (.ref a2)] [(.ref ra)])) _
      refine XS.iconst X129.here hx rfl (hb hby d8_17) ?_
      show Steps p.tables e below (T129.setTop (mkF m 18 #[.val (.ref a1), .val (.ref a2)] [(.int (0 : Int32)), (.ref ra)])) _
      refine XS.aloadN X129.here hx rfl (hb hby d8_18) rfl rfl ?_
      show Steps p.tables e below (T129.setTop (mkF m 19 #[.val (.ref a1), .val (.ref a2)] [(.ref a2), (.int (0 : Int32)), (.ref ra)])) _
      exact h)
  obtain ⟨T132, X132, e132, st132⟩ := getF X129 hx hZ hown (host := "") (Or.inl (hw _ (List.mem_of_getElem? (i := 17) rfl))) Via.refl e129 F2 (g := (mkF m 19 #[.val (.ref a1), .val (.ref a2)] [(.ref a2), (.int (0 : Int32)), (.ref ra)])) rfl rfl (hb hby d8_19)
  have k134 : Rch p e below S0 T132 (mkF m 22 #[.val (.ref a1), .val (.ref a2)] [(.ref rb), (.int (0 : Int32)), (.ref ra)]) := fun t h => k133 t (st132 t h)
  obtain ⟨cl135, Ar135, q135, Sz135, Ng135, Hs135, G135⟩ := id Vb
  have k137 : Rch p e below S0 T132 (mkF m 24 #[.val (.ref a1), .val (.ref a2)] [(.ref a2), (.int (1 : Int32)), (.int (0 : Int32)), (.ref ra)]) := fun t h => k134 t (by
      show Steps p.tables e below (T132.setTop (mkF m 22 #[.val (.ref a1), .val (.ref a2)] [(.ref rb), (.int (0 : Int32)), (.ref ra)])) _
      refine X132.arraylength hx (by rw [e132]; exact Ar135.1) (State.isArrayOf_alike hZ.alike Ar135.2.1) (g := (mkF m 22 #[.val (.ref a1), .val (.ref a2)] [(.ref rb), (.int (0 : Int32)), (.ref ra)])) rfl rfl (hb hby d8_22) _ ?_
      rw [len_of Sz135 Ng135]
      show Steps p.tables e below (T132.setTop (mkF m 23 #[.val (.ref a1), .val (.ref a2)] [(.int (1 : Int32)), (.int (0 : Int32)), (.ref ra)])) _
      refine XS.aloadN X132.here hx rfl (hb hby d8_23) rfl rfl ?_
      show Steps p.tables e below (T132.setTop (mkF m 24 #[.val (.ref a1), .val (.ref a2)] [(.ref a2), (.int (1 : Int32)), (.int (0 : Int32)), (.ref ra)])) _
      exact h)
  obtain ⟨T136, X136, e136, st136⟩ := getF X132 hx hZ hown (host := "") (Or.inl (hw _ (List.mem_of_getElem? (i := 17) rfl))) Via.refl e132 F2 (g := (mkF m 24 #[.val (.ref a1), .val (.ref a2)] [(.ref a2), (.int (1 : Int32)), (.int (0 : Int32)), (.ref ra)])) rfl rfl (hb hby d8_24)
  have k138 : Rch p e below S0 T136 (mkF m 27 #[.val (.ref a1), .val (.ref a2)] [(.ref rb), (.int (1 : Int32)), (.int (0 : Int32)), (.ref ra)]) := fun t h => k137 t (st136 t h)
  have k140 : Rch p e below S0 T136 (mkF m 29 #[.val (.ref a1), .val (.ref a2)] [(.ref a2), (.int (0 : Int32)), (.ref rb), (.int (1 : Int32)), (.int (0 : Int32)), (.ref ra)]) := fun t h => k138 t (by
      show Steps p.tables e below (T136.setTop (mkF m 27 #[.val (.ref a1), .val (.ref a2)] [(.ref rb), (.int (1 : Int32)), (.int (0 : Int32)), (.ref ra)])) _
      refine XS.iconst X136.here hx rfl (hb hby d8_27) ?_
      show Steps p.tables e below (T136.setTop (mkF m 28 #[.val (.ref a1), .val (.ref a2)] [(.int (0 : Int32)), (.ref rb), (.int (1 : Int32)), (.int (0 : Int32)), (.ref ra)])) _
      refine XS.aloadN X136.here hx rfl (hb hby d8_28) rfl rfl ?_
      show Steps p.tables e below (T136.setTop (mkF m 29 #[.val (.ref a1), .val (.ref a2)] [(.ref a2), (.int (0 : Int32)), (.ref rb), (.int (1 : Int32)), (.int (0 : Int32)), (.ref ra)])) _
      exact h)
  obtain ⟨T139, X139, e139, st139⟩ := getF X136 hx hZ hown (host := "") (Or.inl (hw _ (List.mem_of_getElem? (i := 17) rfl))) Via.refl e136 F2 (g := (mkF m 29 #[.val (.ref a1), .val (.ref a2)] [(.ref a2), (.int (0 : Int32)), (.ref rb), (.int (1 : Int32)), (.int (0 : Int32)), (.ref ra)])) rfl rfl (hb hby d8_29)
  have k141 : Rch p e below S0 T139 (mkF m 32 #[.val (.ref a1), .val (.ref a2)] [(.ref rb), (.int (0 : Int32)), (.ref rb), (.int (1 : Int32)), (.int (0 : Int32)), (.ref ra)]) := fun t h => k140 t (st139 t h)
  obtain ⟨cl142, Ar142, q142, Sz142, Ng142, Hs142, G142⟩ := id Vb
  have k143 : Rch p e below S0 T139 (mkF m 33 #[.val (.ref a1), .val (.ref a2)] [(.int (1 : Int32)), (.int (0 : Int32)), (.ref rb), (.int (1 : Int32)), (.int (0 : Int32)), (.ref ra)]) := fun t h => k141 t (by
      show Steps p.tables e below (T139.setTop (mkF m 32 #[.val (.ref a1), .val (.ref a2)] [(.ref rb), (.int (0 : Int32)), (.ref rb), (.int (1 : Int32)), (.int (0 : Int32)), (.ref ra)])) _
      refine X139.arraylength hx (by rw [e139]; exact Ar142.1) (State.isArrayOf_alike hZ.alike Ar142.2.1) (g := (mkF m 32 #[.val (.ref a1), .val (.ref a2)] [(.ref rb), (.int (0 : Int32)), (.ref rb), (.int (1 : Int32)), (.int (0 : Int32)), (.ref ra)])) rfl rfl (hb hby d8_32) _ ?_
      rw [len_of Sz142 Ng142]
      show Steps p.tables e below (T139.setTop (mkF m 33 #[.val (.ref a1), .val (.ref a2)] [(.int (1 : Int32)), (.int (0 : Int32)), (.ref rb), (.int (1 : Int32)), (.int (0 : Int32)), (.ref ra)])) _
      exact h)
  obtain ⟨_, _, ⟨T144, L144, kk144, n144⟩, -, X144, ⟨Lc144, hQ144, l144, y144, z144⟩, st144⟩ := Jvm.LawKit.callS X139 hx (y := (⟨"java/util/Arrays", "equals", "([III[III)Z"⟩ : MethodName)) hown (mvT hZ (hw _ (List.mem_of_getElem? (i := 44) rfl))) (mvT hZ (hw _ (List.mem_of_getElem? (i := 45) rfl))) (mvT hZ (hw _ (List.mem_of_getElem? (i := 46) rfl))) (mvT hZ (hw _ (List.mem_of_getElem? (i := 47) rfl))) (by decide) (backOf (W := 0) (rmEqe l Z a0 hw []  ra ka x rb kb y h0 n0 O0 Va Vb hq) hZ (hw _ (List.mem_of_getElem? (i := 47) rfl)) (hw _ (List.mem_of_getElem? (i := 46) rfl)) (by decide) (by decide)) (g := (mkF m 33 #[.val (.ref a1), .val (.ref a2)] [(.int (1 : Int32)), (.int (0 : Int32)), (.ref rb), (.int (1 : Int32)), (.int (0 : Int32)), (.ref ra)])) rfl (by rw [hml]; rfl) (argsL := [(.ref ra), (.int (0 : Int32)), (.int (1 : Int32)), (.ref rb), (.int (0 : Int32)), (.int (1 : Int32))]) (rest := []) (lenOf pd_7 rfl) rfl (by show 2 * 0 + _ ≤ _; exact Nat.le_of_eq rfl) (hb hby d8_33) (fun _ _ => ⟨rfl, e139, (by decide : 0 + 0 ≤ _), (by decide : 0 + 0 ≤ _)⟩)
  dsimp only [Pt.U, Pt.locs, Pt.cells, Pt.slots] at X144 l144 y144 z144 st144 hQ144
  subst l144 y144 z144
  obtain ⟨rfl, Nq144, hh144⟩ := hQ144
  have N144 := Fr.app N0 Nq144
  have k145 : Rch p e below S0 T144 (mkF m 36 #[.val (.ref a1), .val (.ref a2)] [(.int (1 : Int32))]) := fun t h => k143 t (st144 t h)
  have k146 : Rch p e below S0 T144 (mkF m 44 #[.val (.ref a1), .val (.ref a2)] [(.int (1 : Int32))]) := fun t h => k145 t (by
      show Steps p.tables e below (T144.setTop (mkF m 36 #[.val (.ref a1), .val (.ref a2)] [(.int (1 : Int32))])) _
      refine XS.ifNo X144.here hx rfl (hb hby d8_36) rfl ((if0 _ _).trans (feq (by decide : ¬ ((1 : Int32) = (0 : Int32)))).1) ?_
      show Steps p.tables e below (T144.setTop (mkF m 39 #[.val (.ref a1), .val (.ref a2)] [])) _
      refine XS.iconst X144.here hx rfl (hb hby d8_39) ?_
      show Steps p.tables e below (T144.setTop (mkF m 40 #[.val (.ref a1), .val (.ref a2)] [(.int (1 : Int32))])) _
      refine XS.goto X144.here hx rfl (pc0 := 40) (pc' := 44) rfl (hb hby d8_40) (by decide) (by decide) ?_
      show Steps p.tables e below (T144.setTop (mkF m 44 #[.val (.ref a1), .val (.ref a2)] [(.int (1 : Int32))])) _
      exact h)
  obtain ⟨fs, hr, hrun, hended, hW, hsame⟩ := X144.leave (v := (some (.int (1 : Int32)))) (fun h => by rw [Bd.returns] at h; cases h)
  refine ⟨_, _, ?_, hrun, hended, _, _, rfl, ?_, ⟨_, rfl⟩, hW, hsame.mono (by decide) (by decide)⟩
  · rw [← hS0]
    refine k146 _ ?_
    show Steps p.tables e below (T144.setTop (mkF m 44 #[.val (.ref a1), .val (.ref a2)] [(.int (1 : Int32))])) _
    exact retN X144 hx (t := .boolean) Bd.returns (by simp) (hb hby d8_44) hr
  · show Q_rmSWe Z  h0 n0 _ T144.heap _
    rw [hh144]
    exact ⟨rfl, N144, rfl⟩
def Q_rmSWn (Z : State)  (h0 : Heap) (n0 : Nat) (v : Option Value) (h : Heap) (L : List Loc) : Prop := v = some (.int (0 : Int32)) ∧ Fr n0 L ∧ h = h0
theorem d8_43 : decode prog_24_method_9_code 43 = .ok (.iconst 0, 1) := by decide +kernel
set_option maxRecDepth 65536 in
set_option maxHeartbeats 40000000 in
theorem rmSWn (l : Launch) (Z : State) (a0 : Array Value) (hw : ∀ d ∈ tables_1, d.before a0 Z = true) (ws : List Jvm.Cond) (a1 : Addr) (a2 : Addr) (ra : Addr) (ka : ClassId) (x : Int32) (rb : Addr) (kb : ClassId) (y : Int32) (h0 : Heap) (n0 : Nat) (O0 : Old Z n0 h0) (F1 : Fld Z h0 a1 "com/example/lumenplan/lumenplan/network/RankedPath" "nodes" "[I" (.ref ra)) (F2 : Fld Z h0 a2 "com/example/lumenplan/lumenplan/network/RankedPath" "nodes" "[I" (.ref rb)) (Va : Arv Z h0 ra ka .int (1 : Int32) [.int x] (.int (0 : Int32))) (Vb : Arv Z h0 rb kb .int (1 : Int32) [.int y] (.int (0 : Int32))) (hq : ¬ (x = y)) :
    MetFree l (⟨"com/example/lumenplan/lumenplan/network/RankedPath", "startsWith", "(Lcom/example/lumenplan/lumenplan/network/RankedPath;)Z"⟩ : MethodName) (head1 (Jvm.Cond.code (⟨"com/example/lumenplan/lumenplan/network/RankedPath", "startsWith", "(Lcom/example/lumenplan/lumenplan/network/RankedPath;)Z"⟩ : MethodName) prog_24_method_9_code 2 (some .boolean) :: ws) ({ frames := 2, cells := 0, slots := 0, locals := 60 } : Room)) (fun a U => a = #[(.ref a1), (.ref a2)] ∧ Z.Warmed39 U.vm ∧ U.heap = h0) (fun _ _ _ _ _ => True) (fun _ U o U' => ∃ v L, o = .returned v ∧ Q_rmSWn Z  h0 n0 v U'.heap L ∧ FrameEnd U o U' L ({ frames := 2, cells := 0, slots := 0, locals := 60 } : Room).cells ({ frames := 2, cells := 0, slots := 0, locals := 60 } : Room).slots) := by
  refine MetFree.of_bodySF (plainFor_of_name pn_RankedPath) hisR ?_
  intro p e s m args below meth c s₁ Bd hml0 hP hK
  obtain ⟨rfl, hZ, hh⟩ := hP
  have hx := Bd.exec
  have hby := Bd.bytes
  have hml : c.maxLocals = 2 := hml0
  have hown : s.vm.findClass "com/example/lumenplan/lumenplan/network/RankedPath" = some m.cls := findClass_of_methodNamed Bd.named
  have hnm := (name_of_methodNamed Bd.named Bd.method).1
  have X0 : Stand p l e ({ frames := 2, cells := 0, slots := 0, locals := 60 } : Room) s m #[(.ref a1), (.ref a2)] below meth c s₁ [] 0 0 := Stand.of_body Bd
  have e0 : s₁.heap = h0 := by rw [← hh, Bd.state]; rfl
  have N0 := Fr.nil n0
  obtain ⟨S0, hS0⟩ : ∃ z, z = s₁.setTop (entryFrame m #[(.ref a1), (.ref a2)] 2) := ⟨_, rfl⟩
  have k0 : Rch p e below S0 s₁ (mkF m 0 #[.val (.ref a1), .val (.ref a2)] []) := fun t k => hS0 ▸ castTop (ef_8 m a1 a2) k
  have k148 : Rch p e below S0 s₁ (mkF m 1 #[.val (.ref a1), .val (.ref a2)] [(.ref a2)]) := fun t h => k0 t (by
      show Steps p.tables e below (s₁.setTop (mkF m 0 #[.val (.ref a1), .val (.ref a2)] [])) _
      refine XS.aloadN X0.here hx rfl (hb hby d8_0) rfl rfl ?_
      show Steps p.tables e below (s₁.setTop (mkF m 1 #[.val (.ref a1), .val (.ref a2)] [(.ref a2)])) _
      exact h)
  obtain ⟨T147, X147, e147, st147⟩ := getF X0 hx hZ hown (host := "") (Or.inl (hw _ (List.mem_of_getElem? (i := 17) rfl))) Via.refl e0 F2 (g := (mkF m 1 #[.val (.ref a1), .val (.ref a2)] [(.ref a2)])) rfl rfl (hb hby d8_1)
  have k149 : Rch p e below S0 T147 (mkF m 4 #[.val (.ref a1), .val (.ref a2)] [(.ref rb)]) := fun t h => k148 t (st147 t h)
  obtain ⟨cl150, Ar150, q150, Sz150, Ng150, Hs150, G150⟩ := id Vb
  have k152 : Rch p e below S0 T147 (mkF m 6 #[.val (.ref a1), .val (.ref a2)] [(.ref a1), (.int (1 : Int32))]) := fun t h => k149 t (by
      show Steps p.tables e below (T147.setTop (mkF m 4 #[.val (.ref a1), .val (.ref a2)] [(.ref rb)])) _
      refine X147.arraylength hx (by rw [e147]; exact Ar150.1) (State.isArrayOf_alike hZ.alike Ar150.2.1) (g := (mkF m 4 #[.val (.ref a1), .val (.ref a2)] [(.ref rb)])) rfl rfl (hb hby d8_4) _ ?_
      rw [len_of Sz150 Ng150]
      show Steps p.tables e below (T147.setTop (mkF m 5 #[.val (.ref a1), .val (.ref a2)] [(.int (1 : Int32))])) _
      refine XS.aloadN X147.here hx rfl (hb hby d8_5) rfl rfl ?_
      show Steps p.tables e below (T147.setTop (mkF m 6 #[.val (.ref a1), .val (.ref a2)] [(.ref a1), (.int (1 : Int32))])) _
      exact h)
  obtain ⟨T151, X151, e151, st151⟩ := getF X147 hx hZ hown (host := "") (Or.inl (hw _ (List.mem_of_getElem? (i := 17) rfl))) Via.refl e147 F1 (g := (mkF m 6 #[.val (.ref a1), .val (.ref a2)] [(.ref a1), (.int (1 : Int32))])) rfl rfl (hb hby d8_6)
  have k153 : Rch p e below S0 T151 (mkF m 9 #[.val (.ref a1), .val (.ref a2)] [(.ref ra), (.int (1 : Int32))]) := fun t h => k152 t (st151 t h)
  obtain ⟨cl154, Ar154, q154, Sz154, Ng154, Hs154, G154⟩ := id Va
  have k156 : Rch p e below S0 T151 (mkF m 14 #[.val (.ref a1), .val (.ref a2)] [(.ref a1)]) := fun t h => k153 t (by
      show Steps p.tables e below (T151.setTop (mkF m 9 #[.val (.ref a1), .val (.ref a2)] [(.ref ra), (.int (1 : Int32))])) _
      refine X151.arraylength hx (by rw [e151]; exact Ar154.1) (State.isArrayOf_alike hZ.alike Ar154.2.1) (g := (mkF m 9 #[.val (.ref a1), .val (.ref a2)] [(.ref ra), (.int (1 : Int32))])) rfl rfl (hb hby d8_9) _ ?_
      rw [len_of Sz154 Ng154]
      show Steps p.tables e below (T151.setTop (mkF m 10 #[.val (.ref a1), .val (.ref a2)] [(.int (1 : Int32)), (.int (1 : Int32))])) _
      refine XS.icmpNo X151.here hx rfl (hb hby d8_10) rfl (flt (by decide : ¬ ((1 : Int32) < (1 : Int32)))).2.2.1 ?_
      show Steps p.tables e below (T151.setTop (mkF m 13 #[.val (.ref a1), .val (.ref a2)] [])) _
      refine XS.aloadN X151.here hx rfl (hb hby d8_13) rfl rfl ?_
      show Steps p.tables e below (T151.setTop (mkF m 14 #[.val (.ref a1), .val (.ref a2)] [(.ref a1)])) _
      exact h)
  obtain ⟨T155, X155, e155, st155⟩ := getF X151 hx hZ hown (host := "") (Or.inl (hw _ (List.mem_of_getElem? (i := 17) rfl))) Via.refl e151 F1 (g := (mkF m 14 #[.val (.ref a1), .val (.ref a2)] [(.ref a1)])) rfl rfl (hb hby d8_14)
  have k157 : Rch p e below S0 T155 (mkF m 17 #[.val (.ref a1), .val (.ref a2)] [(.ref ra)]) := fun t h => k156 t (st155 t h)
  have k159 : Rch p e below S0 T155 (mkF m 19 #[.val (.ref a1), .val (.ref a2)] [(.ref a2), (.int (0 : Int32)), (.ref ra)]) := fun t h => k157 t (by
      show Steps p.tables e below (T155.setTop (mkF m 17 #[.val (.ref a1), .val (.ref a2)] [(.ref ra)])) _
      refine XS.iconst X155.here hx rfl (hb hby d8_17) ?_
      show Steps p.tables e below (T155.setTop (mkF m 18 #[.val (.ref a1), .val (.ref a2)] [(.int (0 : Int32)), (.ref ra)])) _
      refine XS.aloadN X155.here hx rfl (hb hby d8_18) rfl rfl ?_
      show Steps p.tables e below (T155.setTop (mkF m 19 #[.val (.ref a1), .val (.ref a2)] [(.ref a2), (.int (0 : Int32)), (.ref ra)])) _
      exact h)
  obtain ⟨T158, X158, e158, st158⟩ := getF X155 hx hZ hown (host := "") (Or.inl (hw _ (List.mem_of_getElem? (i := 17) rfl))) Via.refl e155 F2 (g := (mkF m 19 #[.val (.ref a1), .val (.ref a2)] [(.ref a2), (.int (0 : Int32)), (.ref ra)])) rfl rfl (hb hby d8_19)
  have k160 : Rch p e below S0 T158 (mkF m 22 #[.val (.ref a1), .val (.ref a2)] [(.ref rb), (.int (0 : Int32)), (.ref ra)]) := fun t h => k159 t (st158 t h)
  obtain ⟨cl161, Ar161, q161, Sz161, Ng161, Hs161, G161⟩ := id Vb
  have k163 : Rch p e below S0 T158 (mkF m 24 #[.val (.ref a1), .val (.ref a2)] [(.ref a2), (.int (1 : Int32)), (.int (0 : Int32)), (.ref ra)]) := fun t h => k160 t (by
      show Steps p.tables e below (T158.setTop (mkF m 22 #[.val (.ref a1), .val (.ref a2)] [(.ref rb), (.int (0 : Int32)), (.ref ra)])) _
      refine X158.arraylength hx (by rw [e158]; exact Ar161.1) (State.isArrayOf_alike hZ.alike Ar161.2.1) (g := (mkF m 22 #[.val (.ref a1), .val (.ref a2)] [(.ref rb), (.int (0 : Int32)), (.ref ra)])) rfl rfl (hb hby d8_22) _ ?_
      rw [len_of Sz161 Ng161]
      show Steps p.tables e below (T158.setTop (mkF m 23 #[.val (.ref a1), .val (.ref a2)] [(.int (1 : Int32)), (.int (0 : Int32)), (.ref ra)])) _
      refine XS.aloadN X158.here hx rfl (hb hby d8_23) rfl rfl ?_
      show Steps p.tables e below (T158.setTop (mkF m 24 #[.val (.ref a1), .val (.ref a2)] [(.ref a2), (.int (1 : Int32)), (.int (0 : Int32)), (.ref ra)])) _
      exact h)
  obtain ⟨T162, X162, e162, st162⟩ := getF X158 hx hZ hown (host := "") (Or.inl (hw _ (List.mem_of_getElem? (i := 17) rfl))) Via.refl e158 F2 (g := (mkF m 24 #[.val (.ref a1), .val (.ref a2)] [(.ref a2), (.int (1 : Int32)), (.int (0 : Int32)), (.ref ra)])) rfl rfl (hb hby d8_24)
  have k164 : Rch p e below S0 T162 (mkF m 27 #[.val (.ref a1), .val (.ref a2)] [(.ref rb), (.int (1 : Int32)), (.int (0 : Int32)), (.ref ra)]) := fun t h => k163 t (st162 t h)
  have k166 : Rch p e below S0 T162 (mkF m 29 #[.val (.ref a1), .val (.ref a2)] [(.ref a2), (.int (0 : Int32)), (.ref rb), (.int (1 : Int32)), (.int (0 : Int32)), (.ref ra)]) := fun t h => k164 t (by
      show Steps p.tables e below (T162.setTop (mkF m 27 #[.val (.ref a1), .val (.ref a2)] [(.ref rb), (.int (1 : Int32)), (.int (0 : Int32)), (.ref ra)])) _
      refine XS.iconst X162.here hx rfl (hb hby d8_27) ?_
      show Steps p.tables e below (T162.setTop (mkF m 28 #[.val (.ref a1), .val (.ref a2)] [(.int (0 : Int32)), (.ref rb), (.int (1 : Int32)), (.int (0 : Int32)), (.ref ra)])) _
      refine XS.aloadN X162.here hx rfl (hb hby d8_28) rfl rfl ?_
      show Steps p.tables e below (T162.setTop (mkF m 29 #[.val (.ref a1), .val (.ref a2)] [(.ref a2), (.int (0 : Int32)), (.ref rb), (.int (1 : Int32)), (.int (0 : Int32)), (.ref ra)])) _
      exact h)
  obtain ⟨T165, X165, e165, st165⟩ := getF X162 hx hZ hown (host := "") (Or.inl (hw _ (List.mem_of_getElem? (i := 17) rfl))) Via.refl e162 F2 (g := (mkF m 29 #[.val (.ref a1), .val (.ref a2)] [(.ref a2), (.int (0 : Int32)), (.ref rb), (.int (1 : Int32)), (.int (0 : Int32)), (.ref ra)])) rfl rfl (hb hby d8_29)
  have k167 : Rch p e below S0 T165 (mkF m 32 #[.val (.ref a1), .val (.ref a2)] [(.ref rb), (.int (0 : Int32)), (.ref rb), (.int (1 : Int32)), (.int (0 : Int32)), (.ref ra)]) := fun t h => k166 t (st165 t h)
  obtain ⟨cl168, Ar168, q168, Sz168, Ng168, Hs168, G168⟩ := id Vb
  have k169 : Rch p e below S0 T165 (mkF m 33 #[.val (.ref a1), .val (.ref a2)] [(.int (1 : Int32)), (.int (0 : Int32)), (.ref rb), (.int (1 : Int32)), (.int (0 : Int32)), (.ref ra)]) := fun t h => k167 t (by
      show Steps p.tables e below (T165.setTop (mkF m 32 #[.val (.ref a1), .val (.ref a2)] [(.ref rb), (.int (0 : Int32)), (.ref rb), (.int (1 : Int32)), (.int (0 : Int32)), (.ref ra)])) _
      refine X165.arraylength hx (by rw [e165]; exact Ar168.1) (State.isArrayOf_alike hZ.alike Ar168.2.1) (g := (mkF m 32 #[.val (.ref a1), .val (.ref a2)] [(.ref rb), (.int (0 : Int32)), (.ref rb), (.int (1 : Int32)), (.int (0 : Int32)), (.ref ra)])) rfl rfl (hb hby d8_32) _ ?_
      rw [len_of Sz168 Ng168]
      show Steps p.tables e below (T165.setTop (mkF m 33 #[.val (.ref a1), .val (.ref a2)] [(.int (1 : Int32)), (.int (0 : Int32)), (.ref rb), (.int (1 : Int32)), (.int (0 : Int32)), (.ref ra)])) _
      exact h)
  obtain ⟨_, _, ⟨T170, L170, kk170, n170⟩, -, X170, ⟨Lc170, hQ170, l170, y170, z170⟩, st170⟩ := Jvm.LawKit.callS X165 hx (y := (⟨"java/util/Arrays", "equals", "([III[III)Z"⟩ : MethodName)) hown (mvT hZ (hw _ (List.mem_of_getElem? (i := 44) rfl))) (mvT hZ (hw _ (List.mem_of_getElem? (i := 45) rfl))) (mvT hZ (hw _ (List.mem_of_getElem? (i := 46) rfl))) (mvT hZ (hw _ (List.mem_of_getElem? (i := 47) rfl))) (by decide) (backOf (W := 0) (rmEqn l Z a0 hw []  ra ka x rb kb y h0 n0 O0 Va Vb hq) hZ (hw _ (List.mem_of_getElem? (i := 47) rfl)) (hw _ (List.mem_of_getElem? (i := 46) rfl)) (by decide) (by decide)) (g := (mkF m 33 #[.val (.ref a1), .val (.ref a2)] [(.int (1 : Int32)), (.int (0 : Int32)), (.ref rb), (.int (1 : Int32)), (.int (0 : Int32)), (.ref ra)])) rfl (by rw [hml]; rfl) (argsL := [(.ref ra), (.int (0 : Int32)), (.int (1 : Int32)), (.ref rb), (.int (0 : Int32)), (.int (1 : Int32))]) (rest := []) (lenOf pd_7 rfl) rfl (by show 2 * 0 + _ ≤ _; exact Nat.le_of_eq rfl) (hb hby d8_33) (fun _ _ => ⟨rfl, e165, (by decide : 0 + 0 ≤ _), (by decide : 0 + 0 ≤ _)⟩)
  dsimp only [Pt.U, Pt.locs, Pt.cells, Pt.slots] at X170 l170 y170 z170 st170 hQ170
  subst l170 y170 z170
  obtain ⟨rfl, Nq170, hh170⟩ := hQ170
  have N170 := Fr.app N0 Nq170
  have k171 : Rch p e below S0 T170 (mkF m 36 #[.val (.ref a1), .val (.ref a2)] [(.int (0 : Int32))]) := fun t h => k169 t (st170 t h)
  have k172 : Rch p e below S0 T170 (mkF m 44 #[.val (.ref a1), .val (.ref a2)] [(.int (0 : Int32))]) := fun t h => k171 t (by
      show Steps p.tables e below (T170.setTop (mkF m 36 #[.val (.ref a1), .val (.ref a2)] [(.int (0 : Int32))])) _
      refine XS.ifYes X170.here hx rfl (pc0 := 36) (pc' := 43) rfl (hb hby d8_36) rfl ((if0 _ _).trans (teq (by decide : (0 : Int32) = (0 : Int32))).1) (by decide) (by decide) ?_
      show Steps p.tables e below (T170.setTop (mkF m 43 #[.val (.ref a1), .val (.ref a2)] [])) _
      refine XS.iconst X170.here hx rfl (hb hby d8_43) ?_
      show Steps p.tables e below (T170.setTop (mkF m 44 #[.val (.ref a1), .val (.ref a2)] [(.int (0 : Int32))])) _
      exact h)
  obtain ⟨fs, hr, hrun, hended, hW, hsame⟩ := X170.leave (v := (some (.int (0 : Int32)))) (fun h => by rw [Bd.returns] at h; cases h)
  refine ⟨_, _, ?_, hrun, hended, _, _, rfl, ?_, ⟨_, rfl⟩, hW, hsame.mono (by decide) (by decide)⟩
  · rw [← hS0]
    refine k172 _ ?_
    show Steps p.tables e below (T170.setTop (mkF m 44 #[.val (.ref a1), .val (.ref a2)] [(.int (0 : Int32))])) _
    exact retN X170 hx (t := .boolean) Bd.returns (by simp) (hb hby d8_44) hr
  · show Q_rmSWn Z  h0 n0 _ T170.heap _
    rw [hh170]
    exact ⟨rfl, N170, rfl⟩
def Q_rmICl (Z : State)  (h0 : Heap) (n0 : Nat) (v : Option Value) (h : Heap) (L : List Loc) : Prop := v = some (.int (-1 : Int32)) ∧ Fr n0 L ∧ h = h0
theorem ef_14 (m : MethodId) (x0 : Int32) (x1 : Int32) : entryFrame m #[(.int x0), (.int x1)] 2 = mkF m 0 #[.val (.int x0), .val (.int x1)] [] := by first | (simp [entryFrame, mkF, argsToLocals, Value.category]; done) | rfl
theorem pn_Integer : plainName "java/lang/Integer" = true := by first | (simp [plainName, overriddenIn]; done) | decide +kernel
theorem d14_0 : decode jdk_33_method_40_code 0 = .ok (.iload_n 0, 1) := by decide +kernel
theorem d14_1 : decode jdk_33_method_40_code 1 = .ok (.iload_n 1, 1) := by decide +kernel
theorem d14_2 : decode jdk_33_method_40_code 2 = .ok (.if_icmp .ge 7, 3) := by decide +kernel
theorem d14_5 : decode jdk_33_method_40_code 5 = .ok (.iconst (-1), 1) := by decide +kernel
theorem d14_6 : decode jdk_33_method_40_code 6 = .ok (.goto 13, 3) := by decide +kernel
theorem d14_19 : decode jdk_33_method_40_code 19 = .ok (.ireturn, 1) := by decide +kernel
set_option maxRecDepth 65536 in
set_option maxHeartbeats 40000000 in
theorem rmICl (l : Launch) (Z : State) (a0 : Array Value) (hw : ∀ d ∈ tables_1, d.before a0 Z = true) (ws : List Jvm.Cond) (p1 : Int32) (p2 : Int32) (h0 : Heap) (n0 : Nat) (O0 : Old Z n0 h0) (hq : p1 < p2) :
    MetFree l (⟨"java/lang/Integer", "compare", "(II)I"⟩ : MethodName) (head1 (Jvm.Cond.code (⟨"java/lang/Integer", "compare", "(II)I"⟩ : MethodName) jdk_33_method_40_code 2 (some .int) :: ws) ({ frames := 0, cells := 0, slots := 0, locals := 0 } : Room)) (fun a U => a = #[(.int p1), (.int p2)] ∧ Z.Warmed39 U.vm ∧ U.heap = h0) (fun _ _ _ _ _ => True) (fun _ U o U' => ∃ v L, o = .returned v ∧ Q_rmICl Z  h0 n0 v U'.heap L ∧ FrameEnd U o U' L ({ frames := 0, cells := 0, slots := 0, locals := 0 } : Room).cells ({ frames := 0, cells := 0, slots := 0, locals := 0 } : Room).slots) := by
  refine MetFree.of_bodySF (plainFor_of_name pn_Integer) hisR ?_
  intro p e s m args below meth c s₁ Bd hml0 hP hK
  obtain ⟨rfl, hZ, hh⟩ := hP
  have hx := Bd.exec
  have hby := Bd.bytes
  have hml : c.maxLocals = 2 := hml0
  have hown : s.vm.findClass "java/lang/Integer" = some m.cls := findClass_of_methodNamed Bd.named
  have hnm := (name_of_methodNamed Bd.named Bd.method).1
  have X0 : Stand p l e ({ frames := 0, cells := 0, slots := 0, locals := 0 } : Room) s m #[(.int p1), (.int p2)] below meth c s₁ [] 0 0 := Stand.of_body Bd
  have e0 : s₁.heap = h0 := by rw [← hh, Bd.state]; rfl
  have N0 := Fr.nil n0
  obtain ⟨S0, hS0⟩ : ∃ z, z = s₁.setTop (entryFrame m #[(.int p1), (.int p2)] 2) := ⟨_, rfl⟩
  have k0 : Rch p e below S0 s₁ (mkF m 0 #[.val (.int p1), .val (.int p2)] []) := fun t k => hS0 ▸ castTop (ef_14 m p1 p2) k
  have k173 : Rch p e below S0 s₁ (mkF m 19 #[.val (.int p1), .val (.int p2)] [(.int (-1 : Int32))]) := fun t h => k0 t (by
      show Steps p.tables e below (s₁.setTop (mkF m 0 #[.val (.int p1), .val (.int p2)] [])) _
      refine XS.iloadN X0.here hx rfl (hb hby d14_0) rfl ?_
      show Steps p.tables e below (s₁.setTop (mkF m 1 #[.val (.int p1), .val (.int p2)] [(.int p1)])) _
      refine XS.iloadN X0.here hx rfl (hb hby d14_1) rfl ?_
      show Steps p.tables e below (s₁.setTop (mkF m 2 #[.val (.int p1), .val (.int p2)] [(.int p2), (.int p1)])) _
      refine XS.icmpNo X0.here hx rfl (hb hby d14_2) rfl (tlt (hq : p1 < p2)).2.1 ?_
      show Steps p.tables e below (s₁.setTop (mkF m 5 #[.val (.int p1), .val (.int p2)] [])) _
      refine XS.iconst X0.here hx rfl (hb hby d14_5) ?_
      show Steps p.tables e below (s₁.setTop (mkF m 6 #[.val (.int p1), .val (.int p2)] [(.int (-1 : Int32))])) _
      refine XS.goto X0.here hx rfl (pc0 := 6) (pc' := 19) rfl (hb hby d14_6) (by decide) (by decide) ?_
      show Steps p.tables e below (s₁.setTop (mkF m 19 #[.val (.int p1), .val (.int p2)] [(.int (-1 : Int32))])) _
      exact h)
  obtain ⟨fs, hr, hrun, hended, hW, hsame⟩ := X0.leave (v := (some (.int (-1 : Int32)))) (fun h => by rw [Bd.returns] at h; cases h)
  refine ⟨_, _, ?_, hrun, hended, _, _, rfl, ?_, ⟨_, rfl⟩, hW, hsame.mono (by decide) (by decide)⟩
  · rw [← hS0]
    refine k173 _ ?_
    show Steps p.tables e below (s₁.setTop (mkF m 19 #[.val (.int p1), .val (.int p2)] [(.int (-1 : Int32))])) _
    exact retI X0 hx Bd.returns (hb hby d14_19) hr
  · show Q_rmICl Z  h0 n0 _ s₁.heap _
    rw [e0]
    exact ⟨rfl, N0, rfl⟩
def Q_rmICe (Z : State)  (h0 : Heap) (n0 : Nat) (v : Option Value) (h : Heap) (L : List Loc) : Prop := v = some (.int (0 : Int32)) ∧ Fr n0 L ∧ h = h0
theorem d14_9 : decode jdk_33_method_40_code 9 = .ok (.iload_n 0, 1) := by decide +kernel
theorem d14_10 : decode jdk_33_method_40_code 10 = .ok (.iload_n 1, 1) := by decide +kernel
theorem d14_11 : decode jdk_33_method_40_code 11 = .ok (.if_icmp .ne 7, 3) := by decide +kernel
theorem d14_14 : decode jdk_33_method_40_code 14 = .ok (.iconst 0, 1) := by decide +kernel
theorem d14_15 : decode jdk_33_method_40_code 15 = .ok (.goto 4, 3) := by decide +kernel
set_option maxRecDepth 65536 in
set_option maxHeartbeats 40000000 in
theorem rmICe (l : Launch) (Z : State) (a0 : Array Value) (hw : ∀ d ∈ tables_1, d.before a0 Z = true) (ws : List Jvm.Cond) (p1 : Int32) (p2 : Int32) (h0 : Heap) (n0 : Nat) (O0 : Old Z n0 h0) (hq : p1 = p2) :
    MetFree l (⟨"java/lang/Integer", "compare", "(II)I"⟩ : MethodName) (head1 (Jvm.Cond.code (⟨"java/lang/Integer", "compare", "(II)I"⟩ : MethodName) jdk_33_method_40_code 2 (some .int) :: ws) ({ frames := 0, cells := 0, slots := 0, locals := 0 } : Room)) (fun a U => a = #[(.int p1), (.int p2)] ∧ Z.Warmed39 U.vm ∧ U.heap = h0) (fun _ _ _ _ _ => True) (fun _ U o U' => ∃ v L, o = .returned v ∧ Q_rmICe Z  h0 n0 v U'.heap L ∧ FrameEnd U o U' L ({ frames := 0, cells := 0, slots := 0, locals := 0 } : Room).cells ({ frames := 0, cells := 0, slots := 0, locals := 0 } : Room).slots) := by
  refine MetFree.of_bodySF (plainFor_of_name pn_Integer) hisR ?_
  intro p e s m args below meth c s₁ Bd hml0 hP hK
  obtain ⟨rfl, hZ, hh⟩ := hP
  have hx := Bd.exec
  have hby := Bd.bytes
  have hml : c.maxLocals = 2 := hml0
  have hown : s.vm.findClass "java/lang/Integer" = some m.cls := findClass_of_methodNamed Bd.named
  have hnm := (name_of_methodNamed Bd.named Bd.method).1
  have X0 : Stand p l e ({ frames := 0, cells := 0, slots := 0, locals := 0 } : Room) s m #[(.int p1), (.int p2)] below meth c s₁ [] 0 0 := Stand.of_body Bd
  have e0 : s₁.heap = h0 := by rw [← hh, Bd.state]; rfl
  have N0 := Fr.nil n0
  obtain ⟨S0, hS0⟩ : ∃ z, z = s₁.setTop (entryFrame m #[(.int p1), (.int p2)] 2) := ⟨_, rfl⟩
  have k0 : Rch p e below S0 s₁ (mkF m 0 #[.val (.int p1), .val (.int p2)] []) := fun t k => hS0 ▸ castTop (ef_14 m p1 p2) k
  have k174 : Rch p e below S0 s₁ (mkF m 19 #[.val (.int p1), .val (.int p2)] [(.int (0 : Int32))]) := fun t h => k0 t (by
      show Steps p.tables e below (s₁.setTop (mkF m 0 #[.val (.int p1), .val (.int p2)] [])) _
      refine XS.iloadN X0.here hx rfl (hb hby d14_0) rfl ?_
      show Steps p.tables e below (s₁.setTop (mkF m 1 #[.val (.int p1), .val (.int p2)] [(.int p1)])) _
      refine XS.iloadN X0.here hx rfl (hb hby d14_1) rfl ?_
      show Steps p.tables e below (s₁.setTop (mkF m 2 #[.val (.int p1), .val (.int p2)] [(.int p2), (.int p1)])) _
      refine XS.icmpYes X0.here hx rfl (pc0 := 2) (pc' := 9) rfl (hb hby d14_2) rfl (flt ((by rw [hq]; exact own_irr _) : ¬ (p1 < p2))).2.1 (by decide) (by decide) ?_
      show Steps p.tables e below (s₁.setTop (mkF m 9 #[.val (.int p1), .val (.int p2)] [])) _
      refine XS.iloadN X0.here hx rfl (hb hby d14_9) rfl ?_
      show Steps p.tables e below (s₁.setTop (mkF m 10 #[.val (.int p1), .val (.int p2)] [(.int p1)])) _
      refine XS.iloadN X0.here hx rfl (hb hby d14_10) rfl ?_
      show Steps p.tables e below (s₁.setTop (mkF m 11 #[.val (.int p1), .val (.int p2)] [(.int p2), (.int p1)])) _
      refine XS.icmpNo X0.here hx rfl (hb hby d14_11) rfl (teq (hq : p1 = p2)).2 ?_
      show Steps p.tables e below (s₁.setTop (mkF m 14 #[.val (.int p1), .val (.int p2)] [])) _
      refine XS.iconst X0.here hx rfl (hb hby d14_14) ?_
      show Steps p.tables e below (s₁.setTop (mkF m 15 #[.val (.int p1), .val (.int p2)] [(.int (0 : Int32))])) _
      refine XS.goto X0.here hx rfl (pc0 := 15) (pc' := 19) rfl (hb hby d14_15) (by decide) (by decide) ?_
      show Steps p.tables e below (s₁.setTop (mkF m 19 #[.val (.int p1), .val (.int p2)] [(.int (0 : Int32))])) _
      exact h)
  obtain ⟨fs, hr, hrun, hended, hW, hsame⟩ := X0.leave (v := (some (.int (0 : Int32)))) (fun h => by rw [Bd.returns] at h; cases h)
  refine ⟨_, _, ?_, hrun, hended, _, _, rfl, ?_, ⟨_, rfl⟩, hW, hsame.mono (by decide) (by decide)⟩
  · rw [← hS0]
    refine k174 _ ?_
    show Steps p.tables e below (s₁.setTop (mkF m 19 #[.val (.int p1), .val (.int p2)] [(.int (0 : Int32))])) _
    exact retI X0 hx Bd.returns (hb hby d14_19) hr
  · show Q_rmICe Z  h0 n0 _ s₁.heap _
    rw [e0]
    exact ⟨rfl, N0, rfl⟩
def Q_rmICg (Z : State)  (h0 : Heap) (n0 : Nat) (v : Option Value) (h : Heap) (L : List Loc) : Prop := v = some (.int (1 : Int32)) ∧ Fr n0 L ∧ h = h0
theorem d14_18 : decode jdk_33_method_40_code 18 = .ok (.iconst 1, 1) := by decide +kernel
set_option maxRecDepth 65536 in
set_option maxHeartbeats 40000000 in
theorem rmICg (l : Launch) (Z : State) (a0 : Array Value) (hw : ∀ d ∈ tables_1, d.before a0 Z = true) (ws : List Jvm.Cond) (p1 : Int32) (p2 : Int32) (h0 : Heap) (n0 : Nat) (O0 : Old Z n0 h0) (hq : p2 < p1) :
    MetFree l (⟨"java/lang/Integer", "compare", "(II)I"⟩ : MethodName) (head1 (Jvm.Cond.code (⟨"java/lang/Integer", "compare", "(II)I"⟩ : MethodName) jdk_33_method_40_code 2 (some .int) :: ws) ({ frames := 0, cells := 0, slots := 0, locals := 0 } : Room)) (fun a U => a = #[(.int p1), (.int p2)] ∧ Z.Warmed39 U.vm ∧ U.heap = h0) (fun _ _ _ _ _ => True) (fun _ U o U' => ∃ v L, o = .returned v ∧ Q_rmICg Z  h0 n0 v U'.heap L ∧ FrameEnd U o U' L ({ frames := 0, cells := 0, slots := 0, locals := 0 } : Room).cells ({ frames := 0, cells := 0, slots := 0, locals := 0 } : Room).slots) := by
  refine MetFree.of_bodySF (plainFor_of_name pn_Integer) hisR ?_
  intro p e s m args below meth c s₁ Bd hml0 hP hK
  obtain ⟨rfl, hZ, hh⟩ := hP
  have hx := Bd.exec
  have hby := Bd.bytes
  have hml : c.maxLocals = 2 := hml0
  have hown : s.vm.findClass "java/lang/Integer" = some m.cls := findClass_of_methodNamed Bd.named
  have hnm := (name_of_methodNamed Bd.named Bd.method).1
  have X0 : Stand p l e ({ frames := 0, cells := 0, slots := 0, locals := 0 } : Room) s m #[(.int p1), (.int p2)] below meth c s₁ [] 0 0 := Stand.of_body Bd
  have e0 : s₁.heap = h0 := by rw [← hh, Bd.state]; rfl
  have N0 := Fr.nil n0
  obtain ⟨S0, hS0⟩ : ∃ z, z = s₁.setTop (entryFrame m #[(.int p1), (.int p2)] 2) := ⟨_, rfl⟩
  have k0 : Rch p e below S0 s₁ (mkF m 0 #[.val (.int p1), .val (.int p2)] []) := fun t k => hS0 ▸ castTop (ef_14 m p1 p2) k
  have k175 : Rch p e below S0 s₁ (mkF m 19 #[.val (.int p1), .val (.int p2)] [(.int (1 : Int32))]) := fun t h => k0 t (by
      show Steps p.tables e below (s₁.setTop (mkF m 0 #[.val (.int p1), .val (.int p2)] [])) _
      refine XS.iloadN X0.here hx rfl (hb hby d14_0) rfl ?_
      show Steps p.tables e below (s₁.setTop (mkF m 1 #[.val (.int p1), .val (.int p2)] [(.int p1)])) _
      refine XS.iloadN X0.here hx rfl (hb hby d14_1) rfl ?_
      show Steps p.tables e below (s₁.setTop (mkF m 2 #[.val (.int p1), .val (.int p2)] [(.int p2), (.int p1)])) _
      refine XS.icmpYes X0.here hx rfl (pc0 := 2) (pc' := 9) rfl (hb hby d14_2) rfl (flt ((fun q => own_irr _ (Int32.lt_trans q hq)) : ¬ (p1 < p2))).2.1 (by decide) (by decide) ?_
      show Steps p.tables e below (s₁.setTop (mkF m 9 #[.val (.int p1), .val (.int p2)] [])) _
      refine XS.iloadN X0.here hx rfl (hb hby d14_9) rfl ?_
      show Steps p.tables e below (s₁.setTop (mkF m 10 #[.val (.int p1), .val (.int p2)] [(.int p1)])) _
      refine XS.iloadN X0.here hx rfl (hb hby d14_10) rfl ?_
      show Steps p.tables e below (s₁.setTop (mkF m 11 #[.val (.int p1), .val (.int p2)] [(.int p2), (.int p1)])) _
      refine XS.icmpYes X0.here hx rfl (pc0 := 11) (pc' := 18) rfl (hb hby d14_11) rfl (feq ((fun q => by rw [q] at hq; exact own_irr _ hq) : ¬ (p1 = p2))).2 (by decide) (by decide) ?_
      show Steps p.tables e below (s₁.setTop (mkF m 18 #[.val (.int p1), .val (.int p2)] [])) _
      refine XS.iconst X0.here hx rfl (hb hby d14_18) ?_
      show Steps p.tables e below (s₁.setTop (mkF m 19 #[.val (.int p1), .val (.int p2)] [(.int (1 : Int32))])) _
      exact h)
  obtain ⟨fs, hr, hrun, hended, hW, hsame⟩ := X0.leave (v := (some (.int (1 : Int32)))) (fun h => by rw [Bd.returns] at h; cases h)
  refine ⟨_, _, ?_, hrun, hended, _, _, rfl, ?_, ⟨_, rfl⟩, hW, hsame.mono (by decide) (by decide)⟩
  · rw [← hS0]
    refine k175 _ ?_
    show Steps p.tables e below (s₁.setTop (mkF m 19 #[.val (.int p1), .val (.int p2)] [(.int (1 : Int32))])) _
    exact retI X0 hx Bd.returns (hb hby d14_19) hr
  · show Q_rmICg Z  h0 n0 _ s₁.heap _
    rw [e0]
    exact ⟨rfl, N0, rfl⟩
def Q_rmMi (Z : State)  (h0 : Heap) (n0 : Nat) (v : Option Value) (h : Heap) (L : List Loc) : Prop := v = some (.int (1 : Int32)) ∧ Fr n0 L ∧ h = h0
theorem ef_16 (m : MethodId) (x0 : Int32) (x1 : Int32) : entryFrame m #[(.int x0), (.int x1)] 2 = mkF m 0 #[.val (.int x0), .val (.int x1)] [] := by first | (simp [entryFrame, mkF, argsToLocals, Value.category]; done) | rfl
theorem d16_0 : decode jdk_29_method_69_code 0 = .ok (.iload_n 0, 1) := by decide +kernel
theorem d16_1 : decode jdk_29_method_69_code 1 = .ok (.iload_n 1, 1) := by decide +kernel
theorem d16_2 : decode jdk_29_method_69_code 2 = .ok (.if_icmp .gt 7, 3) := by decide +kernel
theorem d16_5 : decode jdk_29_method_69_code 5 = .ok (.iload_n 0, 1) := by decide +kernel
theorem d16_6 : decode jdk_29_method_69_code 6 = .ok (.goto 4, 3) := by decide +kernel
theorem d16_10 : decode jdk_29_method_69_code 10 = .ok (.ireturn, 1) := by decide +kernel
set_option maxRecDepth 65536 in
set_option maxHeartbeats 40000000 in
theorem rmMi (l : Launch) (Z : State) (a0 : Array Value) (hw : ∀ d ∈ tables_1, d.before a0 Z = true) (ws : List Jvm.Cond)  (h0 : Heap) (n0 : Nat) (O0 : Old Z n0 h0) :
    MetFree l (⟨"java/lang/Math", "min", "(II)I"⟩ : MethodName) (head1 (Jvm.Cond.code (⟨"java/lang/Math", "min", "(II)I"⟩ : MethodName) jdk_29_method_69_code 2 (some .int) :: ws) ({ frames := 0, cells := 0, slots := 0, locals := 0 } : Room)) (fun a U => a = #[(.int (1 : Int32)), (.int (1 : Int32))] ∧ Z.Warmed39 U.vm ∧ U.heap = h0) (fun _ _ _ _ _ => True) (fun _ U o U' => ∃ v L, o = .returned v ∧ Q_rmMi Z  h0 n0 v U'.heap L ∧ FrameEnd U o U' L ({ frames := 0, cells := 0, slots := 0, locals := 0 } : Room).cells ({ frames := 0, cells := 0, slots := 0, locals := 0 } : Room).slots) := by
  refine MetFree.of_bodySF (Jvm.Free.JP.mathPlain rfl (by decide +kernel)) hisR ?_
  intro p e s m args below meth c s₁ Bd hml0 hP hK
  obtain ⟨rfl, hZ, hh⟩ := hP
  have hx := Bd.exec
  have hby := Bd.bytes
  have hml : c.maxLocals = 2 := hml0
  have hown : s.vm.findClass "java/lang/Math" = some m.cls := findClass_of_methodNamed Bd.named
  have hnm := (name_of_methodNamed Bd.named Bd.method).1
  have X0 : Stand p l e ({ frames := 0, cells := 0, slots := 0, locals := 0 } : Room) s m #[(.int (1 : Int32)), (.int (1 : Int32))] below meth c s₁ [] 0 0 := Stand.of_body Bd
  have e0 : s₁.heap = h0 := by rw [← hh, Bd.state]; rfl
  have N0 := Fr.nil n0
  obtain ⟨S0, hS0⟩ : ∃ z, z = s₁.setTop (entryFrame m #[(.int (1 : Int32)), (.int (1 : Int32))] 2) := ⟨_, rfl⟩
  have k0 : Rch p e below S0 s₁ (mkF m 0 #[.val (.int (1 : Int32)), .val (.int (1 : Int32))] []) := fun t k => hS0 ▸ castTop (ef_16 m (1 : Int32) (1 : Int32)) k
  have k176 : Rch p e below S0 s₁ (mkF m 10 #[.val (.int (1 : Int32)), .val (.int (1 : Int32))] [(.int (1 : Int32))]) := fun t h => k0 t (by
      show Steps p.tables e below (s₁.setTop (mkF m 0 #[.val (.int (1 : Int32)), .val (.int (1 : Int32))] [])) _
      refine XS.iloadN X0.here hx rfl (hb hby d16_0) rfl ?_
      show Steps p.tables e below (s₁.setTop (mkF m 1 #[.val (.int (1 : Int32)), .val (.int (1 : Int32))] [(.int (1 : Int32))])) _
      refine XS.iloadN X0.here hx rfl (hb hby d16_1) rfl ?_
      show Steps p.tables e below (s₁.setTop (mkF m 2 #[.val (.int (1 : Int32)), .val (.int (1 : Int32))] [(.int (1 : Int32)), (.int (1 : Int32))])) _
      refine XS.icmpNo X0.here hx rfl (hb hby d16_2) rfl (flt (by decide : ¬ ((1 : Int32) < (1 : Int32)))).2.2.1 ?_
      show Steps p.tables e below (s₁.setTop (mkF m 5 #[.val (.int (1 : Int32)), .val (.int (1 : Int32))] [])) _
      refine XS.iloadN X0.here hx rfl (hb hby d16_5) rfl ?_
      show Steps p.tables e below (s₁.setTop (mkF m 6 #[.val (.int (1 : Int32)), .val (.int (1 : Int32))] [(.int (1 : Int32))])) _
      refine XS.goto X0.here hx rfl (pc0 := 6) (pc' := 10) rfl (hb hby d16_6) (by decide) (by decide) ?_
      show Steps p.tables e below (s₁.setTop (mkF m 10 #[.val (.int (1 : Int32)), .val (.int (1 : Int32))] [(.int (1 : Int32))])) _
      exact h)
  obtain ⟨fs, hr, hrun, hended, hW, hsame⟩ := X0.leave (v := (some (.int (1 : Int32)))) (fun h => by rw [Bd.returns] at h; cases h)
  refine ⟨_, _, ?_, hrun, hended, _, _, rfl, ?_, ⟨_, rfl⟩, hW, hsame.mono (by decide) (by decide)⟩
  · rw [← hS0]
    refine k176 _ ?_
    show Steps p.tables e below (s₁.setTop (mkF m 10 #[.val (.int (1 : Int32)), .val (.int (1 : Int32))] [(.int (1 : Int32))])) _
    exact retI X0 hx Bd.returns (hb hby d16_10) hr
  · show Q_rmMi Z  h0 n0 _ s₁.heap _
    rw [e0]
    exact ⟨rfl, N0, rfl⟩
def Q_rmACl (Z : State)  (h0 : Heap) (n0 : Nat) (v : Option Value) (h : Heap) (L : List Loc) : Prop := v = some (.int (-1 : Int32)) ∧ Fr n0 L ∧ h = h0
theorem ef_15 (m : MethodId) (x0 : Addr) (x1 : Addr) : entryFrame m #[(.ref x0), (.ref x1)] 3 = mkF m 0 #[.val (.ref x0), .val (.ref x1), .unset] [] := by first | (simp [entryFrame, mkF, argsToLocals, Value.category]; done) | rfl
theorem d15_0 : decode jdk_65_method_209_code 0 = .ok (.aload_n 0, 1) := by decide +kernel
theorem d15_1 : decode jdk_65_method_209_code 1 = .ok (.aload_n 1, 1) := by decide +kernel
theorem d15_2 : decode jdk_65_method_209_code 2 = .ok (.if_acmp .ne 5, 3) := by decide +kernel
theorem d15_7 : decode jdk_65_method_209_code 7 = .ok (.aload_n 0, 1) := by decide +kernel
theorem d15_8 : decode jdk_65_method_209_code 8 = .ok (.ifnull 7, 3) := by decide +kernel
theorem d15_11 : decode jdk_65_method_209_code 11 = .ok (.aload_n 1, 1) := by decide +kernel
theorem d15_12 : decode jdk_65_method_209_code 12 = .ok (.ifnonnull 13, 3) := by decide +kernel
theorem d15_25 : decode jdk_65_method_209_code 25 = .ok (.aload_n 0, 1) := by decide +kernel
theorem d15_26 : decode jdk_65_method_209_code 26 = .ok (.aload_n 1, 1) := by decide +kernel
theorem d15_27 : decode jdk_65_method_209_code 27 = .ok (.aload_n 0, 1) := by decide +kernel
theorem d15_28 : decode jdk_65_method_209_code 28 = .ok (.arraylength, 1) := by decide +kernel
theorem d15_29 : decode jdk_65_method_209_code 29 = .ok (.aload_n 1, 1) := by decide +kernel
theorem d15_30 : decode jdk_65_method_209_code 30 = .ok (.arraylength, 1) := by decide +kernel
theorem pd_12 : parseMethodDescriptor "(II)I" = some ⟨[.int, .int], some .int⟩ := by decide +kernel
theorem d15_31 : decode jdk_65_method_209_code 31 = .ok (.invokestatic 304, 3) := by decide +kernel
theorem pd_14 : parseMethodDescriptor "([I[II)I" = some ⟨[(.array .int), (.array .int), .int], some .int⟩ := by decide +kernel
theorem d15_34 : decode jdk_65_method_209_code 34 = .ok (.invokestatic 254, 3) := by decide +kernel
theorem d15_37 : decode jdk_65_method_209_code 37 = .ok (.istore_n 2, 1) := by decide +kernel
theorem d15_38 : decode jdk_65_method_209_code 38 = .ok (.iload_n 2, 1) := by decide +kernel
theorem d15_39 : decode jdk_65_method_209_code 39 = .ok (.ifCond .lt 13, 3) := by decide +kernel
theorem d15_42 : decode jdk_65_method_209_code 42 = .ok (.aload_n 0, 1) := by decide +kernel
theorem d15_43 : decode jdk_65_method_209_code 43 = .ok (.iload_n 2, 1) := by decide +kernel
theorem d15_44 : decode jdk_65_method_209_code 44 = .ok (.iaload, 1) := by decide +kernel
theorem d15_45 : decode jdk_65_method_209_code 45 = .ok (.aload_n 1, 1) := by decide +kernel
theorem d15_46 : decode jdk_65_method_209_code 46 = .ok (.iload_n 2, 1) := by decide +kernel
theorem d15_47 : decode jdk_65_method_209_code 47 = .ok (.iaload, 1) := by decide +kernel
theorem d15_48 : decode jdk_65_method_209_code 48 = .ok (.invokestatic 697, 3) := by decide +kernel
theorem d15_51 : decode jdk_65_method_209_code 51 = .ok (.ireturn, 1) := by decide +kernel
set_option maxRecDepth 65536 in
set_option maxHeartbeats 40000000 in
theorem rmACl (l : Launch) (Z : State) (a0 : Array Value) (hw : ∀ d ∈ tables_1, d.before a0 Z = true) (ws : List Jvm.Cond) (ra : Addr) (ka : ClassId) (x : Int32) (rb : Addr) (kb : ClassId) (y : Int32) (h0 : Heap) (n0 : Nat) (O0 : Old Z n0 h0) (Va : Arv Z h0 ra ka .int (1 : Int32) [.int x] (.int (0 : Int32))) (Vb : Arv Z h0 rb kb .int (1 : Int32) [.int y] (.int (0 : Int32))) (hne : ¬ (ra = rb)) (hq : x < y) :
    MetFree l (⟨"java/util/Arrays", "compare", "([I[I)I"⟩ : MethodName) (head1 (Jvm.Cond.code (⟨"java/util/Arrays", "compare", "([I[I)I"⟩ : MethodName) jdk_65_method_209_code 3 (some .int) :: ws) ({ frames := 1, cells := 0, slots := 0, locals := 30 } : Room)) (fun a U => a = #[(.ref ra), (.ref rb)] ∧ Z.Warmed39 U.vm ∧ U.heap = h0) (fun _ _ _ _ _ => True) (fun _ U o U' => ∃ v L, o = .returned v ∧ Q_rmACl Z  h0 n0 v U'.heap L ∧ FrameEnd U o U' L ({ frames := 1, cells := 0, slots := 0, locals := 30 } : Room).cells ({ frames := 1, cells := 0, slots := 0, locals := 30 } : Room).slots) := by
  refine MetFree.of_bodySF (plainFor_of_name pn_Arrays) hisR ?_
  intro p e s m args below meth c s₁ Bd hml0 hP hK
  obtain ⟨rfl, hZ, hh⟩ := hP
  have hx := Bd.exec
  have hby := Bd.bytes
  have hml : c.maxLocals = 3 := hml0
  have hown : s.vm.findClass "java/util/Arrays" = some m.cls := findClass_of_methodNamed Bd.named
  have hnm := (name_of_methodNamed Bd.named Bd.method).1
  have X0 : Stand p l e ({ frames := 1, cells := 0, slots := 0, locals := 30 } : Room) s m #[(.ref ra), (.ref rb)] below meth c s₁ [] 0 0 := Stand.of_body Bd
  have e0 : s₁.heap = h0 := by rw [← hh, Bd.state]; rfl
  have N0 := Fr.nil n0
  obtain ⟨S0, hS0⟩ : ∃ z, z = s₁.setTop (entryFrame m #[(.ref ra), (.ref rb)] 3) := ⟨_, rfl⟩
  have k0 : Rch p e below S0 s₁ (mkF m 0 #[.val (.ref ra), .val (.ref rb), .unset] []) := fun t k => hS0 ▸ castTop (ef_15 m ra rb) k
  have k178 : Rch p e below S0 s₁ (mkF m 28 #[.val (.ref ra), .val (.ref rb), .unset] [(.ref ra), (.ref rb), (.ref ra)]) := fun t h => k0 t (by
      show Steps p.tables e below (s₁.setTop (mkF m 0 #[.val (.ref ra), .val (.ref rb), .unset] [])) _
      refine XS.aloadN X0.here hx rfl (hb hby d15_0) rfl rfl ?_
      show Steps p.tables e below (s₁.setTop (mkF m 1 #[.val (.ref ra), .val (.ref rb), .unset] [(.ref ra)])) _
      refine XS.aloadN X0.here hx rfl (hb hby d15_1) rfl rfl ?_
      show Steps p.tables e below (s₁.setTop (mkF m 2 #[.val (.ref ra), .val (.ref rb), .unset] [(.ref rb), (.ref ra)])) _
      refine Jvm.RoadKit.acmp (g := (mkF m 2 #[.val (.ref ra), .val (.ref rb), .unset] [(.ref rb), (.ref ra)])) X0 hx rfl rfl rfl (pc0 := 2) (pc' := 7) (same := false) rfl (hb hby d15_2) rfl (decide_eq_false fun q => hne (Value.ref.inj q)) (by decide) (by decide) ?_
      show Steps p.tables e below (s₁.setTop (mkF m 7 #[.val (.ref ra), .val (.ref rb), .unset] [])) _
      refine XS.aloadN X0.here hx rfl (hb hby d15_7) rfl rfl ?_
      show Steps p.tables e below (s₁.setTop (mkF m 8 #[.val (.ref ra), .val (.ref rb), .unset] [(.ref ra)])) _
      refine XS.ifnullNo X0.here hx rfl (hb hby d15_8) rfl ?_
      show Steps p.tables e below (s₁.setTop (mkF m 11 #[.val (.ref ra), .val (.ref rb), .unset] [])) _
      refine XS.aloadN X0.here hx rfl (hb hby d15_11) rfl rfl ?_
      show Steps p.tables e below (s₁.setTop (mkF m 12 #[.val (.ref ra), .val (.ref rb), .unset] [(.ref rb)])) _
      refine XS.ifnonnullYes X0.here hx rfl (pc0 := 12) (pc' := 25) rfl (hb hby d15_12) rfl (by decide) (by decide) ?_
      show Steps p.tables e below (s₁.setTop (mkF m 25 #[.val (.ref ra), .val (.ref rb), .unset] [])) _
      refine XS.aloadN X0.here hx rfl (hb hby d15_25) rfl rfl ?_
      show Steps p.tables e below (s₁.setTop (mkF m 26 #[.val (.ref ra), .val (.ref rb), .unset] [(.ref ra)])) _
      refine XS.aloadN X0.here hx rfl (hb hby d15_26) rfl rfl ?_
      show Steps p.tables e below (s₁.setTop (mkF m 27 #[.val (.ref ra), .val (.ref rb), .unset] [(.ref rb), (.ref ra)])) _
      refine XS.aloadN X0.here hx rfl (hb hby d15_27) rfl rfl ?_
      show Steps p.tables e below (s₁.setTop (mkF m 28 #[.val (.ref ra), .val (.ref rb), .unset] [(.ref ra), (.ref rb), (.ref ra)])) _
      exact h)
  obtain ⟨cl177, Ar177, q177, Sz177, Ng177, Hs177, G177⟩ := id Va
  have k180 : Rch p e below S0 s₁ (mkF m 30 #[.val (.ref ra), .val (.ref rb), .unset] [(.ref rb), (.int (1 : Int32)), (.ref rb), (.ref ra)]) := fun t h => k178 t (by
      show Steps p.tables e below (s₁.setTop (mkF m 28 #[.val (.ref ra), .val (.ref rb), .unset] [(.ref ra), (.ref rb), (.ref ra)])) _
      refine X0.arraylength hx (by rw [e0]; exact Ar177.1) (State.isArrayOf_alike hZ.alike Ar177.2.1) (g := (mkF m 28 #[.val (.ref ra), .val (.ref rb), .unset] [(.ref ra), (.ref rb), (.ref ra)])) rfl rfl (hb hby d15_28) _ ?_
      rw [len_of Sz177 Ng177]
      show Steps p.tables e below (s₁.setTop (mkF m 29 #[.val (.ref ra), .val (.ref rb), .unset] [(.int (1 : Int32)), (.ref rb), (.ref ra)])) _
      refine XS.aloadN X0.here hx rfl (hb hby d15_29) rfl rfl ?_
      show Steps p.tables e below (s₁.setTop (mkF m 30 #[.val (.ref ra), .val (.ref rb), .unset] [(.ref rb), (.int (1 : Int32)), (.ref rb), (.ref ra)])) _
      exact h)
  obtain ⟨cl179, Ar179, q179, Sz179, Ng179, Hs179, G179⟩ := id Vb
  have k181 : Rch p e below S0 s₁ (mkF m 31 #[.val (.ref ra), .val (.ref rb), .unset] [(.int (1 : Int32)), (.int (1 : Int32)), (.ref rb), (.ref ra)]) := fun t h => k180 t (by
      show Steps p.tables e below (s₁.setTop (mkF m 30 #[.val (.ref ra), .val (.ref rb), .unset] [(.ref rb), (.int (1 : Int32)), (.ref rb), (.ref ra)])) _
      refine X0.arraylength hx (by rw [e0]; exact Ar179.1) (State.isArrayOf_alike hZ.alike Ar179.2.1) (g := (mkF m 30 #[.val (.ref ra), .val (.ref rb), .unset] [(.ref rb), (.int (1 : Int32)), (.ref rb), (.ref ra)])) rfl rfl (hb hby d15_30) _ ?_
      rw [len_of Sz179 Ng179]
      show Steps p.tables e below (s₁.setTop (mkF m 31 #[.val (.ref ra), .val (.ref rb), .unset] [(.int (1 : Int32)), (.int (1 : Int32)), (.ref rb), (.ref ra)])) _
      exact h)
  obtain ⟨_, _, ⟨T182, L182, kk182, n182⟩, -, X182, ⟨Lc182, hQ182, l182, y182, z182⟩, st182⟩ := Jvm.LawKit.callS X0 hx (y := (⟨"java/lang/Math", "min", "(II)I"⟩ : MethodName)) hown (mvT hZ (hw _ (List.mem_of_getElem? (i := 77) rfl))) (mvT hZ (hw _ (List.mem_of_getElem? (i := 78) rfl))) (mvT hZ (hw _ (List.mem_of_getElem? (i := 79) rfl))) (mvT hZ (hw _ (List.mem_of_getElem? (i := 80) rfl))) (by decide) (backOf (W := 2) (rmMi l Z a0 hw []   h0 n0 O0 ) hZ (hw _ (List.mem_of_getElem? (i := 80) rfl)) (hw _ (List.mem_of_getElem? (i := 79) rfl)) (by decide) (by decide)) (g := (mkF m 31 #[.val (.ref ra), .val (.ref rb), .unset] [(.int (1 : Int32)), (.int (1 : Int32)), (.ref rb), (.ref ra)])) rfl (by rw [hml]; rfl) (argsL := [(.int (1 : Int32)), (.int (1 : Int32))]) (rest := [(.ref rb), (.ref ra)]) (lenOf pd_12 rfl) rfl (by show 2 * 0 + _ ≤ _; exact Nat.le_of_eq rfl) (hb hby d15_31) (fun _ _ => ⟨rfl, e0, (by decide : 0 + 0 ≤ _), (by decide : 0 + 0 ≤ _)⟩)
  dsimp only [Pt.U, Pt.locs, Pt.cells, Pt.slots] at X182 l182 y182 z182 st182 hQ182
  subst l182 y182 z182
  obtain ⟨rfl, Nq182, hh182⟩ := hQ182
  have N182 := Fr.app N0 Nq182
  have k183 : Rch p e below S0 T182 (mkF m 34 #[.val (.ref ra), .val (.ref rb), .unset] [(.int (1 : Int32)), (.ref rb), (.ref ra)]) := fun t h => k181 t (st182 t h)
  obtain ⟨_, _, ⟨T184, L184, kk184, n184⟩, -, X184, ⟨Lc184, hQ184, l184, y184, z184⟩, st184⟩ := Jvm.LawKit.callS X182 hx (y := (⟨"jdk/internal/util/ArraysSupport", "mismatch", "([I[II)I"⟩ : MethodName)) hown (mvT hZ (hw _ (List.mem_of_getElem? (i := 81) rfl))) (mvT hZ (hw _ (List.mem_of_getElem? (i := 82) rfl))) (mvT hZ (hw _ (List.mem_of_getElem? (i := 53) rfl))) (mvT hZ (hw _ (List.mem_of_getElem? (i := 83) rfl))) (by decide) (backOf (W := 0) (rmM3n l Z a0 hw []  ra ka x rb kb y h0 n0 O0 Va Vb (fun q => by rw [q] at hq; exact own_irr _ hq)) hZ (hw _ (List.mem_of_getElem? (i := 83) rfl)) (hw _ (List.mem_of_getElem? (i := 53) rfl)) (by decide) (by decide)) (g := (mkF m 34 #[.val (.ref ra), .val (.ref rb), .unset] [(.int (1 : Int32)), (.ref rb), (.ref ra)])) rfl (by rw [hml]; rfl) (argsL := [(.ref ra), (.ref rb), (.int (1 : Int32))]) (rest := []) (lenOf pd_14 rfl) rfl (by show 2 * 0 + _ ≤ _; exact Nat.le_of_eq rfl) (hb hby d15_34) (fun _ _ => ⟨rfl, hh182, (by decide : 0 + 0 ≤ _), (by decide : 0 + 0 ≤ _)⟩)
  dsimp only [Pt.U, Pt.locs, Pt.cells, Pt.slots] at X184 l184 y184 z184 st184 hQ184
  subst l184 y184 z184
  obtain ⟨rfl, Nq184, hh184⟩ := hQ184
  have N184 := Fr.app N182 Nq184
  have k185 : Rch p e below S0 T184 (mkF m 37 #[.val (.ref ra), .val (.ref rb), .unset] [(.int (0 : Int32))]) := fun t h => k183 t (st184 t h)
  have k187 : Rch p e below S0 T184 (mkF m 44 #[.val (.ref ra), .val (.ref rb), .val (.int (0 : Int32))] [(.int (0 : Int32)), (.ref ra)]) := fun t h => k185 t (by
      show Steps p.tables e below (T184.setTop (mkF m 37 #[.val (.ref ra), .val (.ref rb), .unset] [(.int (0 : Int32))])) _
      refine XS.istoreN X184.here hx rfl (hb hby d15_37) rfl (l' := #[.val (.ref ra), .val (.ref rb), .val (.int (0 : Int32))]) rfl ?_
      show Steps p.tables e below (T184.setTop (mkF m 38 #[.val (.ref ra), .val (.ref rb), .val (.int (0 : Int32))] [])) _
      refine XS.iloadN X184.here hx rfl (hb hby d15_38) rfl ?_
      show Steps p.tables e below (T184.setTop (mkF m 39 #[.val (.ref ra), .val (.ref rb), .val (.int (0 : Int32))] [(.int (0 : Int32))])) _
      refine XS.ifNo X184.here hx rfl (hb hby d15_39) rfl ((if0 _ _).trans (flt (by decide : ¬ ((0 : Int32) < (0 : Int32)))).1) ?_
      show Steps p.tables e below (T184.setTop (mkF m 42 #[.val (.ref ra), .val (.ref rb), .val (.int (0 : Int32))] [])) _
      refine XS.aloadN X184.here hx rfl (hb hby d15_42) rfl rfl ?_
      show Steps p.tables e below (T184.setTop (mkF m 43 #[.val (.ref ra), .val (.ref rb), .val (.int (0 : Int32))] [(.ref ra)])) _
      refine XS.iloadN X184.here hx rfl (hb hby d15_43) rfl ?_
      show Steps p.tables e below (T184.setTop (mkF m 44 #[.val (.ref ra), .val (.ref rb), .val (.int (0 : Int32))] [(.int (0 : Int32)), (.ref ra)])) _
      exact h)
  obtain ⟨cl186, Ar186, q186, Sz186, Ng186, Hs186, G186⟩ := id Va
  have hin186 : ¬ ((0 : Int32) < 0 ∨ cl186.slots.size ≤ ((0 : Int32)).toNatClampNeg) := inb_of Sz186 ⟨by decide, by decide⟩
  have hat186 : cl186.slots[((0 : Int32)).toNatClampNeg]? = some (.int x) := Hs186.at hin186 (rfl)
  have k189 : Rch p e below S0 T184 (mkF m 47 #[.val (.ref ra), .val (.ref rb), .val (.int (0 : Int32))] [(.int (0 : Int32)), (.ref rb), (.int x)]) := fun t h => k187 t (by
      show Steps p.tables e below (T184.setTop (mkF m 44 #[.val (.ref ra), .val (.ref rb), .val (.int (0 : Int32))] [(.int (0 : Int32)), (.ref ra)])) _
      refine X184.iaload hx (j := (0 : Int32)) (v := (.int x)) (by rw [hh184]; exact Ar186.1) (State.isArrayOf_alike hZ.alike Ar186.2.1) Ar186.2.2 hin186 hat186 (g := (mkF m 44 #[.val (.ref ra), .val (.ref rb), .val (.int (0 : Int32))] [(.int (0 : Int32)), (.ref ra)])) rfl rfl (hb hby d15_44) _ ?_
      show Steps p.tables e below (T184.setTop (mkF m 45 #[.val (.ref ra), .val (.ref rb), .val (.int (0 : Int32))] [(.int x)])) _
      refine XS.aloadN X184.here hx rfl (hb hby d15_45) rfl rfl ?_
      show Steps p.tables e below (T184.setTop (mkF m 46 #[.val (.ref ra), .val (.ref rb), .val (.int (0 : Int32))] [(.ref rb), (.int x)])) _
      refine XS.iloadN X184.here hx rfl (hb hby d15_46) rfl ?_
      show Steps p.tables e below (T184.setTop (mkF m 47 #[.val (.ref ra), .val (.ref rb), .val (.int (0 : Int32))] [(.int (0 : Int32)), (.ref rb), (.int x)])) _
      exact h)
  obtain ⟨cl188, Ar188, q188, Sz188, Ng188, Hs188, G188⟩ := id Vb
  have hin188 : ¬ ((0 : Int32) < 0 ∨ cl188.slots.size ≤ ((0 : Int32)).toNatClampNeg) := inb_of Sz188 ⟨by decide, by decide⟩
  have hat188 : cl188.slots[((0 : Int32)).toNatClampNeg]? = some (.int y) := Hs188.at hin188 (rfl)
  have k190 : Rch p e below S0 T184 (mkF m 48 #[.val (.ref ra), .val (.ref rb), .val (.int (0 : Int32))] [(.int y), (.int x)]) := fun t h => k189 t (by
      show Steps p.tables e below (T184.setTop (mkF m 47 #[.val (.ref ra), .val (.ref rb), .val (.int (0 : Int32))] [(.int (0 : Int32)), (.ref rb), (.int x)])) _
      refine X184.iaload hx (j := (0 : Int32)) (v := (.int y)) (by rw [hh184]; exact Ar188.1) (State.isArrayOf_alike hZ.alike Ar188.2.1) Ar188.2.2 hin188 hat188 (g := (mkF m 47 #[.val (.ref ra), .val (.ref rb), .val (.int (0 : Int32))] [(.int (0 : Int32)), (.ref rb), (.int x)])) rfl rfl (hb hby d15_47) _ ?_
      show Steps p.tables e below (T184.setTop (mkF m 48 #[.val (.ref ra), .val (.ref rb), .val (.int (0 : Int32))] [(.int y), (.int x)])) _
      exact h)
  obtain ⟨_, _, ⟨T191, L191, kk191, n191⟩, -, X191, ⟨Lc191, hQ191, l191, y191, z191⟩, st191⟩ := Jvm.LawKit.callS X184 hx (y := (⟨"java/lang/Integer", "compare", "(II)I"⟩ : MethodName)) hown (mvT hZ (hw _ (List.mem_of_getElem? (i := 84) rfl))) (mvT hZ (hw _ (List.mem_of_getElem? (i := 71) rfl))) (mvT hZ (hw _ (List.mem_of_getElem? (i := 72) rfl))) (mvT hZ (hw _ (List.mem_of_getElem? (i := 73) rfl))) (by decide) (backOf (W := 0) (rmICl l Z a0 hw [] x y  h0 n0 O0 hq) hZ (hw _ (List.mem_of_getElem? (i := 73) rfl)) (hw _ (List.mem_of_getElem? (i := 72) rfl)) (by decide) (by decide)) (g := (mkF m 48 #[.val (.ref ra), .val (.ref rb), .val (.int (0 : Int32))] [(.int y), (.int x)])) rfl (by rw [hml]; rfl) (argsL := [(.int x), (.int y)]) (rest := []) (lenOf pd_12 rfl) rfl (by show 2 * 0 + _ ≤ _; exact Nat.le_of_eq rfl) (hb hby d15_48) (fun _ _ => ⟨rfl, hh184, (by decide : 0 + 0 ≤ _), (by decide : 0 + 0 ≤ _)⟩)
  dsimp only [Pt.U, Pt.locs, Pt.cells, Pt.slots] at X191 l191 y191 z191 st191 hQ191
  subst l191 y191 z191
  obtain ⟨rfl, Nq191, hh191⟩ := hQ191
  have N191 := Fr.app N184 Nq191
  have k192 : Rch p e below S0 T191 (mkF m 51 #[.val (.ref ra), .val (.ref rb), .val (.int (0 : Int32))] [(.int (-1 : Int32))]) := fun t h => k190 t (st191 t h)
  obtain ⟨fs, hr, hrun, hended, hW, hsame⟩ := X191.leave (v := (some (.int (-1 : Int32)))) (fun h => by rw [Bd.returns] at h; cases h)
  refine ⟨_, _, ?_, hrun, hended, _, _, rfl, ?_, ⟨_, rfl⟩, hW, hsame.mono (by decide) (by decide)⟩
  · rw [← hS0]
    refine k192 _ ?_
    show Steps p.tables e below (T191.setTop (mkF m 51 #[.val (.ref ra), .val (.ref rb), .val (.int (0 : Int32))] [(.int (-1 : Int32))])) _
    exact retI X191 hx Bd.returns (hb hby d15_51) hr
  · show Q_rmACl Z  h0 n0 _ T191.heap _
    rw [hh191]
    exact ⟨rfl, N191, rfl⟩
def Q_rmACe (Z : State)  (h0 : Heap) (n0 : Nat) (v : Option Value) (h : Heap) (L : List Loc) : Prop := v = some (.int (0 : Int32)) ∧ Fr n0 L ∧ h = h0
theorem d15_52 : decode jdk_65_method_209_code 52 = .ok (.aload_n 0, 1) := by decide +kernel
theorem d15_53 : decode jdk_65_method_209_code 53 = .ok (.arraylength, 1) := by decide +kernel
theorem d15_54 : decode jdk_65_method_209_code 54 = .ok (.aload_n 1, 1) := by decide +kernel
theorem d15_55 : decode jdk_65_method_209_code 55 = .ok (.arraylength, 1) := by decide +kernel
theorem d15_56 : decode jdk_65_method_209_code 56 = .ok (.isub, 1) := by decide +kernel
theorem d15_57 : decode jdk_65_method_209_code 57 = .ok (.ireturn, 1) := by decide +kernel
set_option maxRecDepth 65536 in
set_option maxHeartbeats 40000000 in
theorem rmACe (l : Launch) (Z : State) (a0 : Array Value) (hw : ∀ d ∈ tables_1, d.before a0 Z = true) (ws : List Jvm.Cond) (ra : Addr) (ka : ClassId) (x : Int32) (rb : Addr) (kb : ClassId) (y : Int32) (h0 : Heap) (n0 : Nat) (O0 : Old Z n0 h0) (Va : Arv Z h0 ra ka .int (1 : Int32) [.int x] (.int (0 : Int32))) (Vb : Arv Z h0 rb kb .int (1 : Int32) [.int y] (.int (0 : Int32))) (hne : ¬ (ra = rb)) (hq : x = y) :
    MetFree l (⟨"java/util/Arrays", "compare", "([I[I)I"⟩ : MethodName) (head1 (Jvm.Cond.code (⟨"java/util/Arrays", "compare", "([I[I)I"⟩ : MethodName) jdk_65_method_209_code 3 (some .int) :: ws) ({ frames := 1, cells := 0, slots := 0, locals := 30 } : Room)) (fun a U => a = #[(.ref ra), (.ref rb)] ∧ Z.Warmed39 U.vm ∧ U.heap = h0) (fun _ _ _ _ _ => True) (fun _ U o U' => ∃ v L, o = .returned v ∧ Q_rmACe Z  h0 n0 v U'.heap L ∧ FrameEnd U o U' L ({ frames := 1, cells := 0, slots := 0, locals := 30 } : Room).cells ({ frames := 1, cells := 0, slots := 0, locals := 30 } : Room).slots) := by
  refine MetFree.of_bodySF (plainFor_of_name pn_Arrays) hisR ?_
  intro p e s m args below meth c s₁ Bd hml0 hP hK
  obtain ⟨rfl, hZ, hh⟩ := hP
  have hx := Bd.exec
  have hby := Bd.bytes
  have hml : c.maxLocals = 3 := hml0
  have hown : s.vm.findClass "java/util/Arrays" = some m.cls := findClass_of_methodNamed Bd.named
  have hnm := (name_of_methodNamed Bd.named Bd.method).1
  have X0 : Stand p l e ({ frames := 1, cells := 0, slots := 0, locals := 30 } : Room) s m #[(.ref ra), (.ref rb)] below meth c s₁ [] 0 0 := Stand.of_body Bd
  have e0 : s₁.heap = h0 := by rw [← hh, Bd.state]; rfl
  have N0 := Fr.nil n0
  obtain ⟨S0, hS0⟩ : ∃ z, z = s₁.setTop (entryFrame m #[(.ref ra), (.ref rb)] 3) := ⟨_, rfl⟩
  have k0 : Rch p e below S0 s₁ (mkF m 0 #[.val (.ref ra), .val (.ref rb), .unset] []) := fun t k => hS0 ▸ castTop (ef_15 m ra rb) k
  have k194 : Rch p e below S0 s₁ (mkF m 28 #[.val (.ref ra), .val (.ref rb), .unset] [(.ref ra), (.ref rb), (.ref ra)]) := fun t h => k0 t (by
      show Steps p.tables e below (s₁.setTop (mkF m 0 #[.val (.ref ra), .val (.ref rb), .unset] [])) _
      refine XS.aloadN X0.here hx rfl (hb hby d15_0) rfl rfl ?_
      show Steps p.tables e below (s₁.setTop (mkF m 1 #[.val (.ref ra), .val (.ref rb), .unset] [(.ref ra)])) _
      refine XS.aloadN X0.here hx rfl (hb hby d15_1) rfl rfl ?_
      show Steps p.tables e below (s₁.setTop (mkF m 2 #[.val (.ref ra), .val (.ref rb), .unset] [(.ref rb), (.ref ra)])) _
      refine Jvm.RoadKit.acmp (g := (mkF m 2 #[.val (.ref ra), .val (.ref rb), .unset] [(.ref rb), (.ref ra)])) X0 hx rfl rfl rfl (pc0 := 2) (pc' := 7) (same := false) rfl (hb hby d15_2) rfl (decide_eq_false fun q => hne (Value.ref.inj q)) (by decide) (by decide) ?_
      show Steps p.tables e below (s₁.setTop (mkF m 7 #[.val (.ref ra), .val (.ref rb), .unset] [])) _
      refine XS.aloadN X0.here hx rfl (hb hby d15_7) rfl rfl ?_
      show Steps p.tables e below (s₁.setTop (mkF m 8 #[.val (.ref ra), .val (.ref rb), .unset] [(.ref ra)])) _
      refine XS.ifnullNo X0.here hx rfl (hb hby d15_8) rfl ?_
      show Steps p.tables e below (s₁.setTop (mkF m 11 #[.val (.ref ra), .val (.ref rb), .unset] [])) _
      refine XS.aloadN X0.here hx rfl (hb hby d15_11) rfl rfl ?_
      show Steps p.tables e below (s₁.setTop (mkF m 12 #[.val (.ref ra), .val (.ref rb), .unset] [(.ref rb)])) _
      refine XS.ifnonnullYes X0.here hx rfl (pc0 := 12) (pc' := 25) rfl (hb hby d15_12) rfl (by decide) (by decide) ?_
      show Steps p.tables e below (s₁.setTop (mkF m 25 #[.val (.ref ra), .val (.ref rb), .unset] [])) _
      refine XS.aloadN X0.here hx rfl (hb hby d15_25) rfl rfl ?_
      show Steps p.tables e below (s₁.setTop (mkF m 26 #[.val (.ref ra), .val (.ref rb), .unset] [(.ref ra)])) _
      refine XS.aloadN X0.here hx rfl (hb hby d15_26) rfl rfl ?_
      show Steps p.tables e below (s₁.setTop (mkF m 27 #[.val (.ref ra), .val (.ref rb), .unset] [(.ref rb), (.ref ra)])) _
      refine XS.aloadN X0.here hx rfl (hb hby d15_27) rfl rfl ?_
      show Steps p.tables e below (s₁.setTop (mkF m 28 #[.val (.ref ra), .val (.ref rb), .unset] [(.ref ra), (.ref rb), (.ref ra)])) _
      exact h)
  obtain ⟨cl193, Ar193, q193, Sz193, Ng193, Hs193, G193⟩ := id Va
  have k196 : Rch p e below S0 s₁ (mkF m 30 #[.val (.ref ra), .val (.ref rb), .unset] [(.ref rb), (.int (1 : Int32)), (.ref rb), (.ref ra)]) := fun t h => k194 t (by
      show Steps p.tables e below (s₁.setTop (mkF m 28 #[.val (.ref ra), .val (.ref rb), .unset] [(.ref ra), (.ref rb), (.ref ra)])) _
      refine X0.arraylength hx (by rw [e0]; exact Ar193.1) (State.isArrayOf_alike hZ.alike Ar193.2.1) (g := (mkF m 28 #[.val (.ref ra), .val (.ref rb), .unset] [(.ref ra), (.ref rb), (.ref ra)])) rfl rfl (hb hby d15_28) _ ?_
      rw [len_of Sz193 Ng193]
      show Steps p.tables e below (s₁.setTop (mkF m 29 #[.val (.ref ra), .val (.ref rb), .unset] [(.int (1 : Int32)), (.ref rb), (.ref ra)])) _
      refine XS.aloadN X0.here hx rfl (hb hby d15_29) rfl rfl ?_
      show Steps p.tables e below (s₁.setTop (mkF m 30 #[.val (.ref ra), .val (.ref rb), .unset] [(.ref rb), (.int (1 : Int32)), (.ref rb), (.ref ra)])) _
      exact h)
  obtain ⟨cl195, Ar195, q195, Sz195, Ng195, Hs195, G195⟩ := id Vb
  have k197 : Rch p e below S0 s₁ (mkF m 31 #[.val (.ref ra), .val (.ref rb), .unset] [(.int (1 : Int32)), (.int (1 : Int32)), (.ref rb), (.ref ra)]) := fun t h => k196 t (by
      show Steps p.tables e below (s₁.setTop (mkF m 30 #[.val (.ref ra), .val (.ref rb), .unset] [(.ref rb), (.int (1 : Int32)), (.ref rb), (.ref ra)])) _
      refine X0.arraylength hx (by rw [e0]; exact Ar195.1) (State.isArrayOf_alike hZ.alike Ar195.2.1) (g := (mkF m 30 #[.val (.ref ra), .val (.ref rb), .unset] [(.ref rb), (.int (1 : Int32)), (.ref rb), (.ref ra)])) rfl rfl (hb hby d15_30) _ ?_
      rw [len_of Sz195 Ng195]
      show Steps p.tables e below (s₁.setTop (mkF m 31 #[.val (.ref ra), .val (.ref rb), .unset] [(.int (1 : Int32)), (.int (1 : Int32)), (.ref rb), (.ref ra)])) _
      exact h)
  obtain ⟨_, _, ⟨T198, L198, kk198, n198⟩, -, X198, ⟨Lc198, hQ198, l198, y198, z198⟩, st198⟩ := Jvm.LawKit.callS X0 hx (y := (⟨"java/lang/Math", "min", "(II)I"⟩ : MethodName)) hown (mvT hZ (hw _ (List.mem_of_getElem? (i := 77) rfl))) (mvT hZ (hw _ (List.mem_of_getElem? (i := 78) rfl))) (mvT hZ (hw _ (List.mem_of_getElem? (i := 79) rfl))) (mvT hZ (hw _ (List.mem_of_getElem? (i := 80) rfl))) (by decide) (backOf (W := 2) (rmMi l Z a0 hw []   h0 n0 O0 ) hZ (hw _ (List.mem_of_getElem? (i := 80) rfl)) (hw _ (List.mem_of_getElem? (i := 79) rfl)) (by decide) (by decide)) (g := (mkF m 31 #[.val (.ref ra), .val (.ref rb), .unset] [(.int (1 : Int32)), (.int (1 : Int32)), (.ref rb), (.ref ra)])) rfl (by rw [hml]; rfl) (argsL := [(.int (1 : Int32)), (.int (1 : Int32))]) (rest := [(.ref rb), (.ref ra)]) (lenOf pd_12 rfl) rfl (by show 2 * 0 + _ ≤ _; exact Nat.le_of_eq rfl) (hb hby d15_31) (fun _ _ => ⟨rfl, e0, (by decide : 0 + 0 ≤ _), (by decide : 0 + 0 ≤ _)⟩)
  dsimp only [Pt.U, Pt.locs, Pt.cells, Pt.slots] at X198 l198 y198 z198 st198 hQ198
  subst l198 y198 z198
  obtain ⟨rfl, Nq198, hh198⟩ := hQ198
  have N198 := Fr.app N0 Nq198
  have k199 : Rch p e below S0 T198 (mkF m 34 #[.val (.ref ra), .val (.ref rb), .unset] [(.int (1 : Int32)), (.ref rb), (.ref ra)]) := fun t h => k197 t (st198 t h)
  obtain ⟨_, _, ⟨T200, L200, kk200, n200⟩, -, X200, ⟨Lc200, hQ200, l200, y200, z200⟩, st200⟩ := Jvm.LawKit.callS X198 hx (y := (⟨"jdk/internal/util/ArraysSupport", "mismatch", "([I[II)I"⟩ : MethodName)) hown (mvT hZ (hw _ (List.mem_of_getElem? (i := 81) rfl))) (mvT hZ (hw _ (List.mem_of_getElem? (i := 82) rfl))) (mvT hZ (hw _ (List.mem_of_getElem? (i := 53) rfl))) (mvT hZ (hw _ (List.mem_of_getElem? (i := 83) rfl))) (by decide) (backOf (W := 0) (rmM3e l Z a0 hw []  ra ka x rb kb y h0 n0 O0 Va Vb hq) hZ (hw _ (List.mem_of_getElem? (i := 83) rfl)) (hw _ (List.mem_of_getElem? (i := 53) rfl)) (by decide) (by decide)) (g := (mkF m 34 #[.val (.ref ra), .val (.ref rb), .unset] [(.int (1 : Int32)), (.ref rb), (.ref ra)])) rfl (by rw [hml]; rfl) (argsL := [(.ref ra), (.ref rb), (.int (1 : Int32))]) (rest := []) (lenOf pd_14 rfl) rfl (by show 2 * 0 + _ ≤ _; exact Nat.le_of_eq rfl) (hb hby d15_34) (fun _ _ => ⟨rfl, hh198, (by decide : 0 + 0 ≤ _), (by decide : 0 + 0 ≤ _)⟩)
  dsimp only [Pt.U, Pt.locs, Pt.cells, Pt.slots] at X200 l200 y200 z200 st200 hQ200
  subst l200 y200 z200
  obtain ⟨rfl, Nq200, hh200⟩ := hQ200
  have N200 := Fr.app N198 Nq200
  have k201 : Rch p e below S0 T200 (mkF m 37 #[.val (.ref ra), .val (.ref rb), .unset] [(.int (-1 : Int32))]) := fun t h => k199 t (st200 t h)
  have k203 : Rch p e below S0 T200 (mkF m 53 #[.val (.ref ra), .val (.ref rb), .val (.int (-1 : Int32))] [(.ref ra)]) := fun t h => k201 t (by
      show Steps p.tables e below (T200.setTop (mkF m 37 #[.val (.ref ra), .val (.ref rb), .unset] [(.int (-1 : Int32))])) _
      refine XS.istoreN X200.here hx rfl (hb hby d15_37) rfl (l' := #[.val (.ref ra), .val (.ref rb), .val (.int (-1 : Int32))]) rfl ?_
      show Steps p.tables e below (T200.setTop (mkF m 38 #[.val (.ref ra), .val (.ref rb), .val (.int (-1 : Int32))] [])) _
      refine XS.iloadN X200.here hx rfl (hb hby d15_38) rfl ?_
      show Steps p.tables e below (T200.setTop (mkF m 39 #[.val (.ref ra), .val (.ref rb), .val (.int (-1 : Int32))] [(.int (-1 : Int32))])) _
      refine XS.ifYes X200.here hx rfl (pc0 := 39) (pc' := 52) rfl (hb hby d15_39) rfl ((if0 _ _).trans (tlt (by decide : (-1 : Int32) < (0 : Int32))).1) (by decide) (by decide) ?_
      show Steps p.tables e below (T200.setTop (mkF m 52 #[.val (.ref ra), .val (.ref rb), .val (.int (-1 : Int32))] [])) _
      refine XS.aloadN X200.here hx rfl (hb hby d15_52) rfl rfl ?_
      show Steps p.tables e below (T200.setTop (mkF m 53 #[.val (.ref ra), .val (.ref rb), .val (.int (-1 : Int32))] [(.ref ra)])) _
      exact h)
  obtain ⟨cl202, Ar202, q202, Sz202, Ng202, Hs202, G202⟩ := id Va
  have k205 : Rch p e below S0 T200 (mkF m 55 #[.val (.ref ra), .val (.ref rb), .val (.int (-1 : Int32))] [(.ref rb), (.int (1 : Int32))]) := fun t h => k203 t (by
      show Steps p.tables e below (T200.setTop (mkF m 53 #[.val (.ref ra), .val (.ref rb), .val (.int (-1 : Int32))] [(.ref ra)])) _
      refine X200.arraylength hx (by rw [hh200]; exact Ar202.1) (State.isArrayOf_alike hZ.alike Ar202.2.1) (g := (mkF m 53 #[.val (.ref ra), .val (.ref rb), .val (.int (-1 : Int32))] [(.ref ra)])) rfl rfl (hb hby d15_53) _ ?_
      rw [len_of Sz202 Ng202]
      show Steps p.tables e below (T200.setTop (mkF m 54 #[.val (.ref ra), .val (.ref rb), .val (.int (-1 : Int32))] [(.int (1 : Int32))])) _
      refine XS.aloadN X200.here hx rfl (hb hby d15_54) rfl rfl ?_
      show Steps p.tables e below (T200.setTop (mkF m 55 #[.val (.ref ra), .val (.ref rb), .val (.int (-1 : Int32))] [(.ref rb), (.int (1 : Int32))])) _
      exact h)
  obtain ⟨cl204, Ar204, q204, Sz204, Ng204, Hs204, G204⟩ := id Vb
  have k206 : Rch p e below S0 T200 (mkF m 57 #[.val (.ref ra), .val (.ref rb), .val (.int (-1 : Int32))] [(.int (0 : Int32))]) := fun t h => k205 t (by
      show Steps p.tables e below (T200.setTop (mkF m 55 #[.val (.ref ra), .val (.ref rb), .val (.int (-1 : Int32))] [(.ref rb), (.int (1 : Int32))])) _
      refine X200.arraylength hx (by rw [hh200]; exact Ar204.1) (State.isArrayOf_alike hZ.alike Ar204.2.1) (g := (mkF m 55 #[.val (.ref ra), .val (.ref rb), .val (.int (-1 : Int32))] [(.ref rb), (.int (1 : Int32))])) rfl rfl (hb hby d15_55) _ ?_
      rw [len_of Sz204 Ng204]
      show Steps p.tables e below (T200.setTop (mkF m 56 #[.val (.ref ra), .val (.ref rb), .val (.int (-1 : Int32))] [(.int (1 : Int32)), (.int (1 : Int32))])) _
      refine XS.isub X200.here hx rfl (hb hby d15_56) rfl ?_
      rw [(by decide : ((1 : Int32) - (1 : Int32)) = (0 : Int32))]
      show Steps p.tables e below (T200.setTop (mkF m 57 #[.val (.ref ra), .val (.ref rb), .val (.int (-1 : Int32))] [(.int (0 : Int32))])) _
      exact h)
  obtain ⟨fs, hr, hrun, hended, hW, hsame⟩ := X200.leave (v := (some (.int (0 : Int32)))) (fun h => by rw [Bd.returns] at h; cases h)
  refine ⟨_, _, ?_, hrun, hended, _, _, rfl, ?_, ⟨_, rfl⟩, hW, hsame.mono (by decide) (by decide)⟩
  · rw [← hS0]
    refine k206 _ ?_
    show Steps p.tables e below (T200.setTop (mkF m 57 #[.val (.ref ra), .val (.ref rb), .val (.int (-1 : Int32))] [(.int (0 : Int32))])) _
    exact retI X200 hx Bd.returns (hb hby d15_57) hr
  · show Q_rmACe Z  h0 n0 _ T200.heap _
    rw [hh200]
    exact ⟨rfl, N200, rfl⟩
def Q_rmACg (Z : State)  (h0 : Heap) (n0 : Nat) (v : Option Value) (h : Heap) (L : List Loc) : Prop := v = some (.int (1 : Int32)) ∧ Fr n0 L ∧ h = h0
set_option maxRecDepth 65536 in
set_option maxHeartbeats 40000000 in
theorem rmACg (l : Launch) (Z : State) (a0 : Array Value) (hw : ∀ d ∈ tables_1, d.before a0 Z = true) (ws : List Jvm.Cond) (ra : Addr) (ka : ClassId) (x : Int32) (rb : Addr) (kb : ClassId) (y : Int32) (h0 : Heap) (n0 : Nat) (O0 : Old Z n0 h0) (Va : Arv Z h0 ra ka .int (1 : Int32) [.int x] (.int (0 : Int32))) (Vb : Arv Z h0 rb kb .int (1 : Int32) [.int y] (.int (0 : Int32))) (hne : ¬ (ra = rb)) (hq : y < x) :
    MetFree l (⟨"java/util/Arrays", "compare", "([I[I)I"⟩ : MethodName) (head1 (Jvm.Cond.code (⟨"java/util/Arrays", "compare", "([I[I)I"⟩ : MethodName) jdk_65_method_209_code 3 (some .int) :: ws) ({ frames := 1, cells := 0, slots := 0, locals := 30 } : Room)) (fun a U => a = #[(.ref ra), (.ref rb)] ∧ Z.Warmed39 U.vm ∧ U.heap = h0) (fun _ _ _ _ _ => True) (fun _ U o U' => ∃ v L, o = .returned v ∧ Q_rmACg Z  h0 n0 v U'.heap L ∧ FrameEnd U o U' L ({ frames := 1, cells := 0, slots := 0, locals := 30 } : Room).cells ({ frames := 1, cells := 0, slots := 0, locals := 30 } : Room).slots) := by
  refine MetFree.of_bodySF (plainFor_of_name pn_Arrays) hisR ?_
  intro p e s m args below meth c s₁ Bd hml0 hP hK
  obtain ⟨rfl, hZ, hh⟩ := hP
  have hx := Bd.exec
  have hby := Bd.bytes
  have hml : c.maxLocals = 3 := hml0
  have hown : s.vm.findClass "java/util/Arrays" = some m.cls := findClass_of_methodNamed Bd.named
  have hnm := (name_of_methodNamed Bd.named Bd.method).1
  have X0 : Stand p l e ({ frames := 1, cells := 0, slots := 0, locals := 30 } : Room) s m #[(.ref ra), (.ref rb)] below meth c s₁ [] 0 0 := Stand.of_body Bd
  have e0 : s₁.heap = h0 := by rw [← hh, Bd.state]; rfl
  have N0 := Fr.nil n0
  obtain ⟨S0, hS0⟩ : ∃ z, z = s₁.setTop (entryFrame m #[(.ref ra), (.ref rb)] 3) := ⟨_, rfl⟩
  have k0 : Rch p e below S0 s₁ (mkF m 0 #[.val (.ref ra), .val (.ref rb), .unset] []) := fun t k => hS0 ▸ castTop (ef_15 m ra rb) k
  have k208 : Rch p e below S0 s₁ (mkF m 28 #[.val (.ref ra), .val (.ref rb), .unset] [(.ref ra), (.ref rb), (.ref ra)]) := fun t h => k0 t (by
      show Steps p.tables e below (s₁.setTop (mkF m 0 #[.val (.ref ra), .val (.ref rb), .unset] [])) _
      refine XS.aloadN X0.here hx rfl (hb hby d15_0) rfl rfl ?_
      show Steps p.tables e below (s₁.setTop (mkF m 1 #[.val (.ref ra), .val (.ref rb), .unset] [(.ref ra)])) _
      refine XS.aloadN X0.here hx rfl (hb hby d15_1) rfl rfl ?_
      show Steps p.tables e below (s₁.setTop (mkF m 2 #[.val (.ref ra), .val (.ref rb), .unset] [(.ref rb), (.ref ra)])) _
      refine Jvm.RoadKit.acmp (g := (mkF m 2 #[.val (.ref ra), .val (.ref rb), .unset] [(.ref rb), (.ref ra)])) X0 hx rfl rfl rfl (pc0 := 2) (pc' := 7) (same := false) rfl (hb hby d15_2) rfl (decide_eq_false fun q => hne (Value.ref.inj q)) (by decide) (by decide) ?_
      show Steps p.tables e below (s₁.setTop (mkF m 7 #[.val (.ref ra), .val (.ref rb), .unset] [])) _
      refine XS.aloadN X0.here hx rfl (hb hby d15_7) rfl rfl ?_
      show Steps p.tables e below (s₁.setTop (mkF m 8 #[.val (.ref ra), .val (.ref rb), .unset] [(.ref ra)])) _
      refine XS.ifnullNo X0.here hx rfl (hb hby d15_8) rfl ?_
      show Steps p.tables e below (s₁.setTop (mkF m 11 #[.val (.ref ra), .val (.ref rb), .unset] [])) _
      refine XS.aloadN X0.here hx rfl (hb hby d15_11) rfl rfl ?_
      show Steps p.tables e below (s₁.setTop (mkF m 12 #[.val (.ref ra), .val (.ref rb), .unset] [(.ref rb)])) _
      refine XS.ifnonnullYes X0.here hx rfl (pc0 := 12) (pc' := 25) rfl (hb hby d15_12) rfl (by decide) (by decide) ?_
      show Steps p.tables e below (s₁.setTop (mkF m 25 #[.val (.ref ra), .val (.ref rb), .unset] [])) _
      refine XS.aloadN X0.here hx rfl (hb hby d15_25) rfl rfl ?_
      show Steps p.tables e below (s₁.setTop (mkF m 26 #[.val (.ref ra), .val (.ref rb), .unset] [(.ref ra)])) _
      refine XS.aloadN X0.here hx rfl (hb hby d15_26) rfl rfl ?_
      show Steps p.tables e below (s₁.setTop (mkF m 27 #[.val (.ref ra), .val (.ref rb), .unset] [(.ref rb), (.ref ra)])) _
      refine XS.aloadN X0.here hx rfl (hb hby d15_27) rfl rfl ?_
      show Steps p.tables e below (s₁.setTop (mkF m 28 #[.val (.ref ra), .val (.ref rb), .unset] [(.ref ra), (.ref rb), (.ref ra)])) _
      exact h)
  obtain ⟨cl207, Ar207, q207, Sz207, Ng207, Hs207, G207⟩ := id Va
  have k210 : Rch p e below S0 s₁ (mkF m 30 #[.val (.ref ra), .val (.ref rb), .unset] [(.ref rb), (.int (1 : Int32)), (.ref rb), (.ref ra)]) := fun t h => k208 t (by
      show Steps p.tables e below (s₁.setTop (mkF m 28 #[.val (.ref ra), .val (.ref rb), .unset] [(.ref ra), (.ref rb), (.ref ra)])) _
      refine X0.arraylength hx (by rw [e0]; exact Ar207.1) (State.isArrayOf_alike hZ.alike Ar207.2.1) (g := (mkF m 28 #[.val (.ref ra), .val (.ref rb), .unset] [(.ref ra), (.ref rb), (.ref ra)])) rfl rfl (hb hby d15_28) _ ?_
      rw [len_of Sz207 Ng207]
      show Steps p.tables e below (s₁.setTop (mkF m 29 #[.val (.ref ra), .val (.ref rb), .unset] [(.int (1 : Int32)), (.ref rb), (.ref ra)])) _
      refine XS.aloadN X0.here hx rfl (hb hby d15_29) rfl rfl ?_
      show Steps p.tables e below (s₁.setTop (mkF m 30 #[.val (.ref ra), .val (.ref rb), .unset] [(.ref rb), (.int (1 : Int32)), (.ref rb), (.ref ra)])) _
      exact h)
  obtain ⟨cl209, Ar209, q209, Sz209, Ng209, Hs209, G209⟩ := id Vb
  have k211 : Rch p e below S0 s₁ (mkF m 31 #[.val (.ref ra), .val (.ref rb), .unset] [(.int (1 : Int32)), (.int (1 : Int32)), (.ref rb), (.ref ra)]) := fun t h => k210 t (by
      show Steps p.tables e below (s₁.setTop (mkF m 30 #[.val (.ref ra), .val (.ref rb), .unset] [(.ref rb), (.int (1 : Int32)), (.ref rb), (.ref ra)])) _
      refine X0.arraylength hx (by rw [e0]; exact Ar209.1) (State.isArrayOf_alike hZ.alike Ar209.2.1) (g := (mkF m 30 #[.val (.ref ra), .val (.ref rb), .unset] [(.ref rb), (.int (1 : Int32)), (.ref rb), (.ref ra)])) rfl rfl (hb hby d15_30) _ ?_
      rw [len_of Sz209 Ng209]
      show Steps p.tables e below (s₁.setTop (mkF m 31 #[.val (.ref ra), .val (.ref rb), .unset] [(.int (1 : Int32)), (.int (1 : Int32)), (.ref rb), (.ref ra)])) _
      exact h)
  obtain ⟨_, _, ⟨T212, L212, kk212, n212⟩, -, X212, ⟨Lc212, hQ212, l212, y212, z212⟩, st212⟩ := Jvm.LawKit.callS X0 hx (y := (⟨"java/lang/Math", "min", "(II)I"⟩ : MethodName)) hown (mvT hZ (hw _ (List.mem_of_getElem? (i := 77) rfl))) (mvT hZ (hw _ (List.mem_of_getElem? (i := 78) rfl))) (mvT hZ (hw _ (List.mem_of_getElem? (i := 79) rfl))) (mvT hZ (hw _ (List.mem_of_getElem? (i := 80) rfl))) (by decide) (backOf (W := 2) (rmMi l Z a0 hw []   h0 n0 O0 ) hZ (hw _ (List.mem_of_getElem? (i := 80) rfl)) (hw _ (List.mem_of_getElem? (i := 79) rfl)) (by decide) (by decide)) (g := (mkF m 31 #[.val (.ref ra), .val (.ref rb), .unset] [(.int (1 : Int32)), (.int (1 : Int32)), (.ref rb), (.ref ra)])) rfl (by rw [hml]; rfl) (argsL := [(.int (1 : Int32)), (.int (1 : Int32))]) (rest := [(.ref rb), (.ref ra)]) (lenOf pd_12 rfl) rfl (by show 2 * 0 + _ ≤ _; exact Nat.le_of_eq rfl) (hb hby d15_31) (fun _ _ => ⟨rfl, e0, (by decide : 0 + 0 ≤ _), (by decide : 0 + 0 ≤ _)⟩)
  dsimp only [Pt.U, Pt.locs, Pt.cells, Pt.slots] at X212 l212 y212 z212 st212 hQ212
  subst l212 y212 z212
  obtain ⟨rfl, Nq212, hh212⟩ := hQ212
  have N212 := Fr.app N0 Nq212
  have k213 : Rch p e below S0 T212 (mkF m 34 #[.val (.ref ra), .val (.ref rb), .unset] [(.int (1 : Int32)), (.ref rb), (.ref ra)]) := fun t h => k211 t (st212 t h)
  obtain ⟨_, _, ⟨T214, L214, kk214, n214⟩, -, X214, ⟨Lc214, hQ214, l214, y214, z214⟩, st214⟩ := Jvm.LawKit.callS X212 hx (y := (⟨"jdk/internal/util/ArraysSupport", "mismatch", "([I[II)I"⟩ : MethodName)) hown (mvT hZ (hw _ (List.mem_of_getElem? (i := 81) rfl))) (mvT hZ (hw _ (List.mem_of_getElem? (i := 82) rfl))) (mvT hZ (hw _ (List.mem_of_getElem? (i := 53) rfl))) (mvT hZ (hw _ (List.mem_of_getElem? (i := 83) rfl))) (by decide) (backOf (W := 0) (rmM3n l Z a0 hw []  ra ka x rb kb y h0 n0 O0 Va Vb (fun q => by rw [q] at hq; exact own_irr _ hq)) hZ (hw _ (List.mem_of_getElem? (i := 83) rfl)) (hw _ (List.mem_of_getElem? (i := 53) rfl)) (by decide) (by decide)) (g := (mkF m 34 #[.val (.ref ra), .val (.ref rb), .unset] [(.int (1 : Int32)), (.ref rb), (.ref ra)])) rfl (by rw [hml]; rfl) (argsL := [(.ref ra), (.ref rb), (.int (1 : Int32))]) (rest := []) (lenOf pd_14 rfl) rfl (by show 2 * 0 + _ ≤ _; exact Nat.le_of_eq rfl) (hb hby d15_34) (fun _ _ => ⟨rfl, hh212, (by decide : 0 + 0 ≤ _), (by decide : 0 + 0 ≤ _)⟩)
  dsimp only [Pt.U, Pt.locs, Pt.cells, Pt.slots] at X214 l214 y214 z214 st214 hQ214
  subst l214 y214 z214
  obtain ⟨rfl, Nq214, hh214⟩ := hQ214
  have N214 := Fr.app N212 Nq214
  have k215 : Rch p e below S0 T214 (mkF m 37 #[.val (.ref ra), .val (.ref rb), .unset] [(.int (0 : Int32))]) := fun t h => k213 t (st214 t h)
  have k217 : Rch p e below S0 T214 (mkF m 44 #[.val (.ref ra), .val (.ref rb), .val (.int (0 : Int32))] [(.int (0 : Int32)), (.ref ra)]) := fun t h => k215 t (by
      show Steps p.tables e below (T214.setTop (mkF m 37 #[.val (.ref ra), .val (.ref rb), .unset] [(.int (0 : Int32))])) _
      refine XS.istoreN X214.here hx rfl (hb hby d15_37) rfl (l' := #[.val (.ref ra), .val (.ref rb), .val (.int (0 : Int32))]) rfl ?_
      show Steps p.tables e below (T214.setTop (mkF m 38 #[.val (.ref ra), .val (.ref rb), .val (.int (0 : Int32))] [])) _
      refine XS.iloadN X214.here hx rfl (hb hby d15_38) rfl ?_
      show Steps p.tables e below (T214.setTop (mkF m 39 #[.val (.ref ra), .val (.ref rb), .val (.int (0 : Int32))] [(.int (0 : Int32))])) _
      refine XS.ifNo X214.here hx rfl (hb hby d15_39) rfl ((if0 _ _).trans (flt (by decide : ¬ ((0 : Int32) < (0 : Int32)))).1) ?_
      show Steps p.tables e below (T214.setTop (mkF m 42 #[.val (.ref ra), .val (.ref rb), .val (.int (0 : Int32))] [])) _
      refine XS.aloadN X214.here hx rfl (hb hby d15_42) rfl rfl ?_
      show Steps p.tables e below (T214.setTop (mkF m 43 #[.val (.ref ra), .val (.ref rb), .val (.int (0 : Int32))] [(.ref ra)])) _
      refine XS.iloadN X214.here hx rfl (hb hby d15_43) rfl ?_
      show Steps p.tables e below (T214.setTop (mkF m 44 #[.val (.ref ra), .val (.ref rb), .val (.int (0 : Int32))] [(.int (0 : Int32)), (.ref ra)])) _
      exact h)
  obtain ⟨cl216, Ar216, q216, Sz216, Ng216, Hs216, G216⟩ := id Va
  have hin216 : ¬ ((0 : Int32) < 0 ∨ cl216.slots.size ≤ ((0 : Int32)).toNatClampNeg) := inb_of Sz216 ⟨by decide, by decide⟩
  have hat216 : cl216.slots[((0 : Int32)).toNatClampNeg]? = some (.int x) := Hs216.at hin216 (rfl)
  have k219 : Rch p e below S0 T214 (mkF m 47 #[.val (.ref ra), .val (.ref rb), .val (.int (0 : Int32))] [(.int (0 : Int32)), (.ref rb), (.int x)]) := fun t h => k217 t (by
      show Steps p.tables e below (T214.setTop (mkF m 44 #[.val (.ref ra), .val (.ref rb), .val (.int (0 : Int32))] [(.int (0 : Int32)), (.ref ra)])) _
      refine X214.iaload hx (j := (0 : Int32)) (v := (.int x)) (by rw [hh214]; exact Ar216.1) (State.isArrayOf_alike hZ.alike Ar216.2.1) Ar216.2.2 hin216 hat216 (g := (mkF m 44 #[.val (.ref ra), .val (.ref rb), .val (.int (0 : Int32))] [(.int (0 : Int32)), (.ref ra)])) rfl rfl (hb hby d15_44) _ ?_
      show Steps p.tables e below (T214.setTop (mkF m 45 #[.val (.ref ra), .val (.ref rb), .val (.int (0 : Int32))] [(.int x)])) _
      refine XS.aloadN X214.here hx rfl (hb hby d15_45) rfl rfl ?_
      show Steps p.tables e below (T214.setTop (mkF m 46 #[.val (.ref ra), .val (.ref rb), .val (.int (0 : Int32))] [(.ref rb), (.int x)])) _
      refine XS.iloadN X214.here hx rfl (hb hby d15_46) rfl ?_
      show Steps p.tables e below (T214.setTop (mkF m 47 #[.val (.ref ra), .val (.ref rb), .val (.int (0 : Int32))] [(.int (0 : Int32)), (.ref rb), (.int x)])) _
      exact h)
  obtain ⟨cl218, Ar218, q218, Sz218, Ng218, Hs218, G218⟩ := id Vb
  have hin218 : ¬ ((0 : Int32) < 0 ∨ cl218.slots.size ≤ ((0 : Int32)).toNatClampNeg) := inb_of Sz218 ⟨by decide, by decide⟩
  have hat218 : cl218.slots[((0 : Int32)).toNatClampNeg]? = some (.int y) := Hs218.at hin218 (rfl)
  have k220 : Rch p e below S0 T214 (mkF m 48 #[.val (.ref ra), .val (.ref rb), .val (.int (0 : Int32))] [(.int y), (.int x)]) := fun t h => k219 t (by
      show Steps p.tables e below (T214.setTop (mkF m 47 #[.val (.ref ra), .val (.ref rb), .val (.int (0 : Int32))] [(.int (0 : Int32)), (.ref rb), (.int x)])) _
      refine X214.iaload hx (j := (0 : Int32)) (v := (.int y)) (by rw [hh214]; exact Ar218.1) (State.isArrayOf_alike hZ.alike Ar218.2.1) Ar218.2.2 hin218 hat218 (g := (mkF m 47 #[.val (.ref ra), .val (.ref rb), .val (.int (0 : Int32))] [(.int (0 : Int32)), (.ref rb), (.int x)])) rfl rfl (hb hby d15_47) _ ?_
      show Steps p.tables e below (T214.setTop (mkF m 48 #[.val (.ref ra), .val (.ref rb), .val (.int (0 : Int32))] [(.int y), (.int x)])) _
      exact h)
  obtain ⟨_, _, ⟨T221, L221, kk221, n221⟩, -, X221, ⟨Lc221, hQ221, l221, y221, z221⟩, st221⟩ := Jvm.LawKit.callS X214 hx (y := (⟨"java/lang/Integer", "compare", "(II)I"⟩ : MethodName)) hown (mvT hZ (hw _ (List.mem_of_getElem? (i := 84) rfl))) (mvT hZ (hw _ (List.mem_of_getElem? (i := 71) rfl))) (mvT hZ (hw _ (List.mem_of_getElem? (i := 72) rfl))) (mvT hZ (hw _ (List.mem_of_getElem? (i := 73) rfl))) (by decide) (backOf (W := 0) (rmICg l Z a0 hw [] x y  h0 n0 O0 hq) hZ (hw _ (List.mem_of_getElem? (i := 73) rfl)) (hw _ (List.mem_of_getElem? (i := 72) rfl)) (by decide) (by decide)) (g := (mkF m 48 #[.val (.ref ra), .val (.ref rb), .val (.int (0 : Int32))] [(.int y), (.int x)])) rfl (by rw [hml]; rfl) (argsL := [(.int x), (.int y)]) (rest := []) (lenOf pd_12 rfl) rfl (by show 2 * 0 + _ ≤ _; exact Nat.le_of_eq rfl) (hb hby d15_48) (fun _ _ => ⟨rfl, hh214, (by decide : 0 + 0 ≤ _), (by decide : 0 + 0 ≤ _)⟩)
  dsimp only [Pt.U, Pt.locs, Pt.cells, Pt.slots] at X221 l221 y221 z221 st221 hQ221
  subst l221 y221 z221
  obtain ⟨rfl, Nq221, hh221⟩ := hQ221
  have N221 := Fr.app N214 Nq221
  have k222 : Rch p e below S0 T221 (mkF m 51 #[.val (.ref ra), .val (.ref rb), .val (.int (0 : Int32))] [(.int (1 : Int32))]) := fun t h => k220 t (st221 t h)
  obtain ⟨fs, hr, hrun, hended, hW, hsame⟩ := X221.leave (v := (some (.int (1 : Int32)))) (fun h => by rw [Bd.returns] at h; cases h)
  refine ⟨_, _, ?_, hrun, hended, _, _, rfl, ?_, ⟨_, rfl⟩, hW, hsame.mono (by decide) (by decide)⟩
  · rw [← hS0]
    refine k222 _ ?_
    show Steps p.tables e below (T221.setTop (mkF m 51 #[.val (.ref ra), .val (.ref rb), .val (.int (0 : Int32))] [(.int (1 : Int32))])) _
    exact retI X221 hx Bd.returns (hb hby d15_51) hr
  · show Q_rmACg Z  h0 n0 _ T221.heap _
    rw [hh221]
    exact ⟨rfl, N221, rfl⟩
def Q_rmBC (Z : State)  (h0 : Heap) (n0 : Nat) (v : Option Value) (h : Heap) (L : List Loc) : Prop := v = some (.int (0 : Int32)) ∧ Fr n0 L ∧ h = h0
theorem ef_13 (m : MethodId) (x0 : Addr) (x1 : Addr) : entryFrame m #[(.ref x0), (.ref x1)] 6 = mkF m 0 #[.val (.ref x0), .val (.ref x1), .unset, .unset, .unset, .unset] [] := by first | (simp [entryFrame, mkF, argsToLocals, Value.category]; done) | rfl
theorem pn_BigDecimal : plainName "java/math/BigDecimal" = true := by first | (simp [plainName, overriddenIn]; done) | decide +kernel
theorem d13_0 : decode jdk_17_method_70_code 0 = .ok (.aload_n 0, 1) := by decide +kernel
theorem d13_1 : decode jdk_17_method_70_code 1 = .ok (.getfield 17, 3) := by decide +kernel
theorem d13_4 : decode jdk_17_method_70_code 4 = .ok (.aload_n 1, 1) := by decide +kernel
theorem d13_5 : decode jdk_17_method_70_code 5 = .ok (.getfield 17, 3) := by decide +kernel
theorem d13_8 : decode jdk_17_method_70_code 8 = .ok (.if_icmp .ne 55, 3) := by decide +kernel
theorem d13_11 : decode jdk_17_method_70_code 11 = .ok (.aload_n 0, 1) := by decide +kernel
theorem d13_12 : decode jdk_17_method_70_code 12 = .ok (.getfield 24, 3) := by decide +kernel
theorem d13_15 : decode jdk_17_method_70_code 15 = .ok (.lstore_n 2, 1) := by decide +kernel
theorem d13_16 : decode jdk_17_method_70_code 16 = .ok (.aload_n 1, 1) := by decide +kernel
theorem d13_17 : decode jdk_17_method_70_code 17 = .ok (.getfield 24, 3) := by decide +kernel
theorem d13_20 : decode jdk_17_method_70_code 20 = .ok (.lstore 4, 2) := by decide +kernel
theorem d13_22 : decode jdk_17_method_70_code 22 = .ok (.lload_n 2, 1) := by decide +kernel
theorem d13_23 : decode jdk_17_method_70_code 23 = .ok (.ldc2_w 125, 3) := by decide +kernel
theorem d13_26 : decode jdk_17_method_70_code 26 = .ok (.lcmp, 1) := by decide +kernel
theorem d13_27 : decode jdk_17_method_70_code 27 = .ok (.ifCond .eq 36, 3) := by decide +kernel
theorem d13_30 : decode jdk_17_method_70_code 30 = .ok (.lload 4, 2) := by decide +kernel
theorem d13_32 : decode jdk_17_method_70_code 32 = .ok (.ldc2_w 125, 3) := by decide +kernel
theorem d13_35 : decode jdk_17_method_70_code 35 = .ok (.lcmp, 1) := by decide +kernel
theorem d13_36 : decode jdk_17_method_70_code 36 = .ok (.ifCond .eq 27, 3) := by decide +kernel
theorem d13_39 : decode jdk_17_method_70_code 39 = .ok (.lload_n 2, 1) := by decide +kernel
theorem d13_40 : decode jdk_17_method_70_code 40 = .ok (.lload 4, 2) := by decide +kernel
theorem d13_42 : decode jdk_17_method_70_code 42 = .ok (.lcmp, 1) := by decide +kernel
theorem d13_43 : decode jdk_17_method_70_code 43 = .ok (.ifCond .eq 18, 3) := by decide +kernel
theorem d13_61 : decode jdk_17_method_70_code 61 = .ok (.iconst 0, 1) := by decide +kernel
theorem d13_62 : decode jdk_17_method_70_code 62 = .ok (.ireturn, 1) := by decide +kernel
set_option maxRecDepth 65536 in
set_option maxHeartbeats 40000000 in
theorem rmBC (l : Launch) (Z : State) (a0 : Array Value) (hw : ∀ d ∈ tables_1, d.before a0 Z = true) (ws : List Jvm.Cond) (wZ : Addr) (h0 : Heap) (n0 : Nat) (O0 : Old Z n0 h0) (FSc : Fld Z Z.heap wZ "java/math/BigDecimal" "scale" "I" (.int (0 : Int32))) (FIc : Fld Z Z.heap wZ "java/math/BigDecimal" "intCompact" "J" (.long (0 : Int64))) :
    MetFree l (⟨"java/math/BigDecimal", "compareTo", "(Ljava/math/BigDecimal;)I"⟩ : MethodName) (head1 (Jvm.Cond.code (⟨"java/math/BigDecimal", "compareTo", "(Ljava/math/BigDecimal;)I"⟩ : MethodName) jdk_17_method_70_code 6 (some .int) :: ws) ({ frames := 0, cells := 0, slots := 0, locals := 0 } : Room)) (fun a U => a = #[(.ref wZ), (.ref wZ)] ∧ Z.Warmed39 U.vm ∧ U.heap = h0) (fun _ _ _ _ _ => True) (fun _ U o U' => ∃ v L, o = .returned v ∧ Q_rmBC Z  h0 n0 v U'.heap L ∧ FrameEnd U o U' L ({ frames := 0, cells := 0, slots := 0, locals := 0 } : Room).cells ({ frames := 0, cells := 0, slots := 0, locals := 0 } : Room).slots) := by
  refine MetFree.of_bodySF (plainFor_of_name pn_BigDecimal) hisR ?_
  intro p e s m args below meth c s₁ Bd hml0 hP hK
  obtain ⟨rfl, hZ, hh⟩ := hP
  have hx := Bd.exec
  have hby := Bd.bytes
  have hml : c.maxLocals = 6 := hml0
  have hown : s.vm.findClass "java/math/BigDecimal" = some m.cls := findClass_of_methodNamed Bd.named
  have hnm := (name_of_methodNamed Bd.named Bd.method).1
  have X0 : Stand p l e ({ frames := 0, cells := 0, slots := 0, locals := 0 } : Room) s m #[(.ref wZ), (.ref wZ)] below meth c s₁ [] 0 0 := Stand.of_body Bd
  have e0 : s₁.heap = h0 := by rw [← hh, Bd.state]; rfl
  have N0 := Fr.nil n0
  obtain ⟨S0, hS0⟩ : ∃ z, z = s₁.setTop (entryFrame m #[(.ref wZ), (.ref wZ)] 6) := ⟨_, rfl⟩
  have k0 : Rch p e below S0 s₁ (mkF m 0 #[.val (.ref wZ), .val (.ref wZ), .unset, .unset, .unset, .unset] []) := fun t k => hS0 ▸ castTop (ef_13 m wZ wZ) k
  have k224 : Rch p e below S0 s₁ (mkF m 1 #[.val (.ref wZ), .val (.ref wZ), .unset, .unset, .unset, .unset] [(.ref wZ)]) := fun t h => k0 t (by
      show Steps p.tables e below (s₁.setTop (mkF m 0 #[.val (.ref wZ), .val (.ref wZ), .unset, .unset, .unset, .unset] [])) _
      refine XS.aloadN X0.here hx rfl (hb hby d13_0) rfl rfl ?_
      show Steps p.tables e below (s₁.setTop (mkF m 1 #[.val (.ref wZ), .val (.ref wZ), .unset, .unset, .unset, .unset] [(.ref wZ)])) _
      exact h)
  obtain ⟨T223, X223, e223, st223⟩ := getF X0 hx hZ hown (host := "") (Or.inl (hw _ (List.mem_of_getElem? (i := 65) rfl))) Via.refl e0 (FSc.ext O0.2) (g := (mkF m 1 #[.val (.ref wZ), .val (.ref wZ), .unset, .unset, .unset, .unset] [(.ref wZ)])) rfl rfl (hb hby d13_1)
  have k225 : Rch p e below S0 T223 (mkF m 4 #[.val (.ref wZ), .val (.ref wZ), .unset, .unset, .unset, .unset] [(.int (0 : Int32))]) := fun t h => k224 t (st223 t h)
  have k227 : Rch p e below S0 T223 (mkF m 5 #[.val (.ref wZ), .val (.ref wZ), .unset, .unset, .unset, .unset] [(.ref wZ), (.int (0 : Int32))]) := fun t h => k225 t (by
      show Steps p.tables e below (T223.setTop (mkF m 4 #[.val (.ref wZ), .val (.ref wZ), .unset, .unset, .unset, .unset] [(.int (0 : Int32))])) _
      refine XS.aloadN X223.here hx rfl (hb hby d13_4) rfl rfl ?_
      show Steps p.tables e below (T223.setTop (mkF m 5 #[.val (.ref wZ), .val (.ref wZ), .unset, .unset, .unset, .unset] [(.ref wZ), (.int (0 : Int32))])) _
      exact h)
  obtain ⟨T226, X226, e226, st226⟩ := getF X223 hx hZ hown (host := "") (Or.inl (hw _ (List.mem_of_getElem? (i := 65) rfl))) Via.refl e223 (FSc.ext O0.2) (g := (mkF m 5 #[.val (.ref wZ), .val (.ref wZ), .unset, .unset, .unset, .unset] [(.ref wZ), (.int (0 : Int32))])) rfl rfl (hb hby d13_5)
  have k228 : Rch p e below S0 T226 (mkF m 8 #[.val (.ref wZ), .val (.ref wZ), .unset, .unset, .unset, .unset] [(.int (0 : Int32)), (.int (0 : Int32))]) := fun t h => k227 t (st226 t h)
  have k230 : Rch p e below S0 T226 (mkF m 12 #[.val (.ref wZ), .val (.ref wZ), .unset, .unset, .unset, .unset] [(.ref wZ)]) := fun t h => k228 t (by
      show Steps p.tables e below (T226.setTop (mkF m 8 #[.val (.ref wZ), .val (.ref wZ), .unset, .unset, .unset, .unset] [(.int (0 : Int32)), (.int (0 : Int32))])) _
      refine XS.icmpNo X226.here hx rfl (hb hby d13_8) rfl (teq (by decide : (0 : Int32) = (0 : Int32))).2 ?_
      show Steps p.tables e below (T226.setTop (mkF m 11 #[.val (.ref wZ), .val (.ref wZ), .unset, .unset, .unset, .unset] [])) _
      refine XS.aloadN X226.here hx rfl (hb hby d13_11) rfl rfl ?_
      show Steps p.tables e below (T226.setTop (mkF m 12 #[.val (.ref wZ), .val (.ref wZ), .unset, .unset, .unset, .unset] [(.ref wZ)])) _
      exact h)
  obtain ⟨T229, X229, e229, st229⟩ := getF X226 hx hZ hown (host := "") (Or.inl (hw _ (List.mem_of_getElem? (i := 67) rfl))) Via.refl e226 (FIc.ext O0.2) (g := (mkF m 12 #[.val (.ref wZ), .val (.ref wZ), .unset, .unset, .unset, .unset] [(.ref wZ)])) rfl rfl (hb hby d13_12)
  have k231 : Rch p e below S0 T229 (mkF m 15 #[.val (.ref wZ), .val (.ref wZ), .unset, .unset, .unset, .unset] [(.long (0 : Int64))]) := fun t h => k230 t (st229 t h)
  have k233 : Rch p e below S0 T229 (mkF m 17 #[.val (.ref wZ), .val (.ref wZ), .val (.long (0 : Int64)), .second, .unset, .unset] [(.ref wZ)]) := fun t h => k231 t (by
      show Steps p.tables e below (T229.setTop (mkF m 15 #[.val (.ref wZ), .val (.ref wZ), .unset, .unset, .unset, .unset] [(.long (0 : Int64))])) _
      refine XS.lstoreN X229.here hx rfl (hb hby d13_15) rfl (l' := #[.val (.ref wZ), .val (.ref wZ), .val (.long (0 : Int64)), .second, .unset, .unset]) rfl ?_
      show Steps p.tables e below (T229.setTop (mkF m 16 #[.val (.ref wZ), .val (.ref wZ), .val (.long (0 : Int64)), .second, .unset, .unset] [])) _
      refine XS.aloadN X229.here hx rfl (hb hby d13_16) rfl rfl ?_
      show Steps p.tables e below (T229.setTop (mkF m 17 #[.val (.ref wZ), .val (.ref wZ), .val (.long (0 : Int64)), .second, .unset, .unset] [(.ref wZ)])) _
      exact h)
  obtain ⟨T232, X232, e232, st232⟩ := getF X229 hx hZ hown (host := "") (Or.inl (hw _ (List.mem_of_getElem? (i := 67) rfl))) Via.refl e229 (FIc.ext O0.2) (g := (mkF m 17 #[.val (.ref wZ), .val (.ref wZ), .val (.long (0 : Int64)), .second, .unset, .unset] [(.ref wZ)])) rfl rfl (hb hby d13_17)
  have k234 : Rch p e below S0 T232 (mkF m 20 #[.val (.ref wZ), .val (.ref wZ), .val (.long (0 : Int64)), .second, .unset, .unset] [(.long (0 : Int64))]) := fun t h => k233 t (st232 t h)
  have k235 : Rch p e below S0 T232 (mkF m 62 #[.val (.ref wZ), .val (.ref wZ), .val (.long (0 : Int64)), .second, .val (.long (0 : Int64)), .second] [(.int (0 : Int32))]) := fun t h => k234 t (by
      show Steps p.tables e below (T232.setTop (mkF m 20 #[.val (.ref wZ), .val (.ref wZ), .val (.long (0 : Int64)), .second, .unset, .unset] [(.long (0 : Int64))])) _
      refine XS.lstore X232.here hx rfl (hb hby d13_20) rfl (l' := #[.val (.ref wZ), .val (.ref wZ), .val (.long (0 : Int64)), .second, .val (.long (0 : Int64)), .second]) rfl ?_
      show Steps p.tables e below (T232.setTop (mkF m 22 #[.val (.ref wZ), .val (.ref wZ), .val (.long (0 : Int64)), .second, .val (.long (0 : Int64)), .second] [])) _
      refine XS.lloadN X232.here hx rfl (hb hby d13_22) rfl ?_
      show Steps p.tables e below (T232.setTop (mkF m 23 #[.val (.ref wZ), .val (.ref wZ), .val (.long (0 : Int64)), .second, .val (.long (0 : Int64)), .second] [(.long (0 : Int64))])) _
      refine X232.ldc2Long hx hown (mvT hZ (hw _ (List.mem_of_getElem? (i := 69) rfl))) (g := (mkF m 23 #[.val (.ref wZ), .val (.ref wZ), .val (.long (0 : Int64)), .second, .val (.long (0 : Int64)), .second] [(.long (0 : Int64))])) rfl (hb hby d13_23) _ ?_
      show Steps p.tables e below (T232.setTop (mkF m 26 #[.val (.ref wZ), .val (.ref wZ), .val (.long (0 : Int64)), .second, .val (.long (0 : Int64)), .second] [(.long (-9223372036854775808 : Int64)), (.long (0 : Int64))])) _
      refine XS.lcmp X232.here hx rfl (hb hby d13_26) rfl ?_
      show Steps p.tables e below (T232.setTop (mkF m 27 #[.val (.ref wZ), .val (.ref wZ), .val (.long (0 : Int64)), .second, .val (.long (0 : Int64)), .second] [(.int (lcmpW (0 : Int64) (-9223372036854775808 : Int64)))])) _
      rw [(by decide : lcmpW (0 : Int64) (-9223372036854775808 : Int64) = (1 : Int32))]
      show Steps p.tables e below (T232.setTop (mkF m 27 #[.val (.ref wZ), .val (.ref wZ), .val (.long (0 : Int64)), .second, .val (.long (0 : Int64)), .second] [(.int (1 : Int32))])) _
      refine XS.ifNo X232.here hx rfl (hb hby d13_27) rfl ((if0 _ _).trans (feq (by decide : ¬ ((1 : Int32) = (0 : Int32)))).1) ?_
      show Steps p.tables e below (T232.setTop (mkF m 30 #[.val (.ref wZ), .val (.ref wZ), .val (.long (0 : Int64)), .second, .val (.long (0 : Int64)), .second] [])) _
      refine XS.lload X232.here hx rfl (hb hby d13_30) rfl ?_
      show Steps p.tables e below (T232.setTop (mkF m 32 #[.val (.ref wZ), .val (.ref wZ), .val (.long (0 : Int64)), .second, .val (.long (0 : Int64)), .second] [(.long (0 : Int64))])) _
      refine X232.ldc2Long hx hown (mvT hZ (hw _ (List.mem_of_getElem? (i := 69) rfl))) (g := (mkF m 32 #[.val (.ref wZ), .val (.ref wZ), .val (.long (0 : Int64)), .second, .val (.long (0 : Int64)), .second] [(.long (0 : Int64))])) rfl (hb hby d13_32) _ ?_
      show Steps p.tables e below (T232.setTop (mkF m 35 #[.val (.ref wZ), .val (.ref wZ), .val (.long (0 : Int64)), .second, .val (.long (0 : Int64)), .second] [(.long (-9223372036854775808 : Int64)), (.long (0 : Int64))])) _
      refine XS.lcmp X232.here hx rfl (hb hby d13_35) rfl ?_
      show Steps p.tables e below (T232.setTop (mkF m 36 #[.val (.ref wZ), .val (.ref wZ), .val (.long (0 : Int64)), .second, .val (.long (0 : Int64)), .second] [(.int (lcmpW (0 : Int64) (-9223372036854775808 : Int64)))])) _
      rw [(by decide : lcmpW (0 : Int64) (-9223372036854775808 : Int64) = (1 : Int32))]
      show Steps p.tables e below (T232.setTop (mkF m 36 #[.val (.ref wZ), .val (.ref wZ), .val (.long (0 : Int64)), .second, .val (.long (0 : Int64)), .second] [(.int (1 : Int32))])) _
      refine XS.ifNo X232.here hx rfl (hb hby d13_36) rfl ((if0 _ _).trans (feq (by decide : ¬ ((1 : Int32) = (0 : Int32)))).1) ?_
      show Steps p.tables e below (T232.setTop (mkF m 39 #[.val (.ref wZ), .val (.ref wZ), .val (.long (0 : Int64)), .second, .val (.long (0 : Int64)), .second] [])) _
      refine XS.lloadN X232.here hx rfl (hb hby d13_39) rfl ?_
      show Steps p.tables e below (T232.setTop (mkF m 40 #[.val (.ref wZ), .val (.ref wZ), .val (.long (0 : Int64)), .second, .val (.long (0 : Int64)), .second] [(.long (0 : Int64))])) _
      refine XS.lload X232.here hx rfl (hb hby d13_40) rfl ?_
      show Steps p.tables e below (T232.setTop (mkF m 42 #[.val (.ref wZ), .val (.ref wZ), .val (.long (0 : Int64)), .second, .val (.long (0 : Int64)), .second] [(.long (0 : Int64)), (.long (0 : Int64))])) _
      refine XS.lcmp X232.here hx rfl (hb hby d13_42) rfl ?_
      show Steps p.tables e below (T232.setTop (mkF m 43 #[.val (.ref wZ), .val (.ref wZ), .val (.long (0 : Int64)), .second, .val (.long (0 : Int64)), .second] [(.int (lcmpW (0 : Int64) (0 : Int64)))])) _
      rw [(by decide : lcmpW (0 : Int64) (0 : Int64) = (0 : Int32))]
      show Steps p.tables e below (T232.setTop (mkF m 43 #[.val (.ref wZ), .val (.ref wZ), .val (.long (0 : Int64)), .second, .val (.long (0 : Int64)), .second] [(.int (0 : Int32))])) _
      refine XS.ifYes X232.here hx rfl (pc0 := 43) (pc' := 61) rfl (hb hby d13_43) rfl ((if0 _ _).trans (teq (by decide : (0 : Int32) = (0 : Int32))).1) (by decide) (by decide) ?_
      show Steps p.tables e below (T232.setTop (mkF m 61 #[.val (.ref wZ), .val (.ref wZ), .val (.long (0 : Int64)), .second, .val (.long (0 : Int64)), .second] [])) _
      refine XS.iconst X232.here hx rfl (hb hby d13_61) ?_
      show Steps p.tables e below (T232.setTop (mkF m 62 #[.val (.ref wZ), .val (.ref wZ), .val (.long (0 : Int64)), .second, .val (.long (0 : Int64)), .second] [(.int (0 : Int32))])) _
      exact h)
  obtain ⟨fs, hr, hrun, hended, hW, hsame⟩ := X232.leave (v := (some (.int (0 : Int32)))) (fun h => by rw [Bd.returns] at h; cases h)
  refine ⟨_, _, ?_, hrun, hended, _, _, rfl, ?_, ⟨_, rfl⟩, hW, hsame.mono (by decide) (by decide)⟩
  · rw [← hS0]
    refine k235 _ ?_
    show Steps p.tables e below (T232.setTop (mkF m 62 #[.val (.ref wZ), .val (.ref wZ), .val (.long (0 : Int64)), .second, .val (.long (0 : Int64)), .second] [(.int (0 : Int32))])) _
    exact retI X232 hx Bd.returns (hb hby d13_62) hr
  · show Q_rmBC Z  h0 n0 _ T232.heap _
    rw [e232]
    exact ⟨rfl, N0, rfl⟩
def Q_rmCTl (Z : State)  (h0 : Heap) (n0 : Nat) (v : Option Value) (h : Heap) (L : List Loc) : Prop := v = some (.int (-1 : Int32)) ∧ Fr n0 L ∧ h = h0
theorem ef_12 (m : MethodId) (x0 : Addr) (x1 : Addr) : entryFrame m #[(.ref x0), (.ref x1)] 4 = mkF m 0 #[.val (.ref x0), .val (.ref x1), .unset, .unset] [] := by first | (simp [entryFrame, mkF, argsToLocals, Value.category]; done) | rfl
theorem d12_0 : decode prog_24_method_13_code 0 = .ok (.aload_n 0, 1) := by decide +kernel
theorem d12_1 : decode prog_24_method_13_code 1 = .ok (.getfield 60, 3) := by decide +kernel
theorem d12_4 : decode prog_24_method_13_code 4 = .ok (.aload_n 1, 1) := by decide +kernel
theorem d12_5 : decode prog_24_method_13_code 5 = .ok (.getfield 60, 3) := by decide +kernel
theorem pd_11 : parseMethodDescriptor "(Ljava/math/BigDecimal;)I" = some ⟨[(.object "java/math/BigDecimal")], some .int⟩ := by decide +kernel
theorem d12_8 : decode prog_24_method_13_code 8 = .ok (.invokevirtual 92, 3) := by decide +kernel
theorem d12_11 : decode prog_24_method_13_code 11 = .ok (.istore_n 2, 1) := by decide +kernel
theorem d12_12 : decode prog_24_method_13_code 12 = .ok (.iload_n 2, 1) := by decide +kernel
theorem d12_13 : decode prog_24_method_13_code 13 = .ok (.ifCond .eq 5, 3) := by decide +kernel
theorem d12_18 : decode prog_24_method_13_code 18 = .ok (.aload_n 0, 1) := by decide +kernel
theorem d12_19 : decode prog_24_method_13_code 19 = .ok (.getfield 63, 3) := by decide +kernel
theorem d12_22 : decode prog_24_method_13_code 22 = .ok (.arraylength, 1) := by decide +kernel
theorem d12_23 : decode prog_24_method_13_code 23 = .ok (.aload_n 1, 1) := by decide +kernel
theorem d12_24 : decode prog_24_method_13_code 24 = .ok (.getfield 63, 3) := by decide +kernel
theorem d12_27 : decode prog_24_method_13_code 27 = .ok (.arraylength, 1) := by decide +kernel
theorem d12_28 : decode prog_24_method_13_code 28 = .ok (.invokestatic 96, 3) := by decide +kernel
theorem d12_31 : decode prog_24_method_13_code 31 = .ok (.istore_n 3, 1) := by decide +kernel
theorem d12_32 : decode prog_24_method_13_code 32 = .ok (.iload_n 3, 1) := by decide +kernel
theorem d12_33 : decode prog_24_method_13_code 33 = .ok (.ifCond .eq 5, 3) := by decide +kernel
theorem d12_38 : decode prog_24_method_13_code 38 = .ok (.aload_n 0, 1) := by decide +kernel
theorem d12_39 : decode prog_24_method_13_code 39 = .ok (.getfield 63, 3) := by decide +kernel
theorem d12_42 : decode prog_24_method_13_code 42 = .ok (.aload_n 1, 1) := by decide +kernel
theorem d12_43 : decode prog_24_method_13_code 43 = .ok (.getfield 63, 3) := by decide +kernel
theorem pd_13 : parseMethodDescriptor "([I[I)I" = some ⟨[(.array .int), (.array .int)], some .int⟩ := by decide +kernel
theorem d12_46 : decode prog_24_method_13_code 46 = .ok (.invokestatic 100, 3) := by decide +kernel
theorem d12_49 : decode prog_24_method_13_code 49 = .ok (.ireturn, 1) := by decide +kernel
set_option maxRecDepth 65536 in
set_option maxHeartbeats 40000000 in
theorem rmCTl (l : Launch) (Z : State) (a0 : Array Value) (hw : ∀ d ∈ tables_1, d.before a0 Z = true) (ws : List Jvm.Cond) (a1 : Addr) (a2 : Addr) (ra : Addr) (ka : ClassId) (x : Int32) (rb : Addr) (kb : ClassId) (y : Int32) (wZ : Addr) (h0 : Heap) (n0 : Nat) (O0 : Old Z n0 h0) (EZ : Exa Z Z.heap wZ "java/math/BigDecimal") (FSc : Fld Z Z.heap wZ "java/math/BigDecimal" "scale" "I" (.int (0 : Int32))) (FIc : Fld Z Z.heap wZ "java/math/BigDecimal" "intCompact" "J" (.long (0 : Int64))) (G1 : Fld Z h0 a1 "com/example/lumenplan/lumenplan/network/RankedPath" "km" "Ljava/math/BigDecimal;" (.ref wZ)) (G2 : Fld Z h0 a2 "com/example/lumenplan/lumenplan/network/RankedPath" "km" "Ljava/math/BigDecimal;" (.ref wZ)) (F1 : Fld Z h0 a1 "com/example/lumenplan/lumenplan/network/RankedPath" "nodes" "[I" (.ref ra)) (F2 : Fld Z h0 a2 "com/example/lumenplan/lumenplan/network/RankedPath" "nodes" "[I" (.ref rb)) (Va : Arv Z h0 ra ka .int (1 : Int32) [.int x] (.int (0 : Int32))) (Vb : Arv Z h0 rb kb .int (1 : Int32) [.int y] (.int (0 : Int32))) (hne : ¬ (ra = rb)) (hq : x < y) :
    MetFree l (⟨"com/example/lumenplan/lumenplan/network/RankedPath", "compareTo", "(Lcom/example/lumenplan/lumenplan/network/RankedPath;)I"⟩ : MethodName) (head1 (Jvm.Cond.code (⟨"com/example/lumenplan/lumenplan/network/RankedPath", "compareTo", "(Lcom/example/lumenplan/lumenplan/network/RankedPath;)I"⟩ : MethodName) prog_24_method_13_code 4 (some .int) :: ws) ({ frames := 2, cells := 0, slots := 0, locals := 60 } : Room)) (fun a U => a = #[(.ref a1), (.ref a2)] ∧ Z.Warmed39 U.vm ∧ U.heap = h0) (fun _ _ _ _ _ => True) (fun _ U o U' => ∃ v L, o = .returned v ∧ Q_rmCTl Z  h0 n0 v U'.heap L ∧ FrameEnd U o U' L ({ frames := 2, cells := 0, slots := 0, locals := 60 } : Room).cells ({ frames := 2, cells := 0, slots := 0, locals := 60 } : Room).slots) := by
  refine MetFree.of_bodySF (plainFor_of_name pn_RankedPath) hisR ?_
  intro p e s m args below meth c s₁ Bd hml0 hP hK
  obtain ⟨rfl, hZ, hh⟩ := hP
  have hx := Bd.exec
  have hby := Bd.bytes
  have hml : c.maxLocals = 4 := hml0
  have hown : s.vm.findClass "com/example/lumenplan/lumenplan/network/RankedPath" = some m.cls := findClass_of_methodNamed Bd.named
  have hnm := (name_of_methodNamed Bd.named Bd.method).1
  have X0 : Stand p l e ({ frames := 2, cells := 0, slots := 0, locals := 60 } : Room) s m #[(.ref a1), (.ref a2)] below meth c s₁ [] 0 0 := Stand.of_body Bd
  have e0 : s₁.heap = h0 := by rw [← hh, Bd.state]; rfl
  have N0 := Fr.nil n0
  obtain ⟨S0, hS0⟩ : ∃ z, z = s₁.setTop (entryFrame m #[(.ref a1), (.ref a2)] 4) := ⟨_, rfl⟩
  have k0 : Rch p e below S0 s₁ (mkF m 0 #[.val (.ref a1), .val (.ref a2), .unset, .unset] []) := fun t k => hS0 ▸ castTop (ef_12 m a1 a2) k
  have k237 : Rch p e below S0 s₁ (mkF m 1 #[.val (.ref a1), .val (.ref a2), .unset, .unset] [(.ref a1)]) := fun t h => k0 t (by
      show Steps p.tables e below (s₁.setTop (mkF m 0 #[.val (.ref a1), .val (.ref a2), .unset, .unset] [])) _
      refine XS.aloadN X0.here hx rfl (hb hby d12_0) rfl rfl ?_
      show Steps p.tables e below (s₁.setTop (mkF m 1 #[.val (.ref a1), .val (.ref a2), .unset, .unset] [(.ref a1)])) _
      exact h)
  obtain ⟨T236, X236, e236, st236⟩ := getF X0 hx hZ hown (host := "") (Or.inl (hw _ (List.mem_of_getElem? (i := 15) rfl))) Via.refl e0 G1 (g := (mkF m 1 #[.val (.ref a1), .val (.ref a2), .unset, .unset] [(.ref a1)])) rfl rfl (hb hby d12_1)
  have k238 : Rch p e below S0 T236 (mkF m 4 #[.val (.ref a1), .val (.ref a2), .unset, .unset] [(.ref wZ)]) := fun t h => k237 t (st236 t h)
  have k240 : Rch p e below S0 T236 (mkF m 5 #[.val (.ref a1), .val (.ref a2), .unset, .unset] [(.ref a2), (.ref wZ)]) := fun t h => k238 t (by
      show Steps p.tables e below (T236.setTop (mkF m 4 #[.val (.ref a1), .val (.ref a2), .unset, .unset] [(.ref wZ)])) _
      refine XS.aloadN X236.here hx rfl (hb hby d12_4) rfl rfl ?_
      show Steps p.tables e below (T236.setTop (mkF m 5 #[.val (.ref a1), .val (.ref a2), .unset, .unset] [(.ref a2), (.ref wZ)])) _
      exact h)
  obtain ⟨T239, X239, e239, st239⟩ := getF X236 hx hZ hown (host := "") (Or.inl (hw _ (List.mem_of_getElem? (i := 15) rfl))) Via.refl e236 G2 (g := (mkF m 5 #[.val (.ref a1), .val (.ref a2), .unset, .unset] [(.ref a2), (.ref wZ)])) rfl rfl (hb hby d12_5)
  have k241 : Rch p e below S0 T239 (mkF m 8 #[.val (.ref a1), .val (.ref a2), .unset, .unset] [(.ref wZ), (.ref wZ)]) := fun t h => k240 t (st239 t h)
  obtain ⟨cq242, kq242, q242a, q242b, q242c⟩ := isOf hZ e239 (EZ.ext O0.2)
  obtain ⟨_, _, ⟨T242, L242, kk242, n242⟩, -, X242, ⟨Lc242, hQ242, l242, y242, z242⟩, st242⟩ := X239.virtualBack hx (y := (⟨"java/math/BigDecimal", "compareTo", "(Ljava/math/BigDecimal;)I"⟩ : MethodName)) (z := (⟨"java/math/BigDecimal", "compareTo", "(Ljava/math/BigDecimal;)I"⟩ : MethodName)) hown (mvT hZ (hw _ (List.mem_of_getElem? (i := 60) rfl))) (mvT hZ (hw _ (List.mem_of_getElem? (i := 61) rfl))) (notFace_of_selects (args := #[]) (mvT hZ (hw _ (List.mem_of_getElem? (i := 63) rfl)))) (mvT hZ (hw _ (List.mem_of_getElem? (i := 63) rfl))) (mvT hZ (hw _ (List.mem_of_getElem? (i := 62) rfl))) (by decide) (backOf (W := 0) (rmBC l Z a0 hw [] wZ  h0 n0 O0 FSc FIc) hZ (hw _ (List.mem_of_getElem? (i := 64) rfl)) (hw _ (List.mem_of_getElem? (i := 7) rfl)) (by decide) (by decide)) q242a q242c (g := (mkF m 8 #[.val (.ref a1), .val (.ref a2), .unset, .unset] [(.ref wZ), (.ref wZ)])) rfl (by rw [hml]; rfl) (Steps.refl _) (argsL := [(.ref wZ)]) (rest := []) (lenOf pd_11 rfl) rfl (by show 2 * 0 + _ ≤ _; exact Nat.le_of_eq rfl) (hb hby d12_8) (fun _ _ => ⟨rfl, e239, (by decide : 0 + 0 ≤ _), (by decide : 0 + 0 ≤ _)⟩)
  dsimp only [Pt.U, Pt.locs, Pt.cells, Pt.slots] at X242 l242 y242 z242 st242 hQ242
  subst l242 y242 z242
  obtain ⟨rfl, Nq242, hh242⟩ := hQ242
  have N242 := Fr.app N0 Nq242
  have k243 : Rch p e below S0 T242 (mkF m 11 #[.val (.ref a1), .val (.ref a2), .unset, .unset] [(.int (0 : Int32))]) := fun t h => k241 t (st242.trans h)
  have k245 : Rch p e below S0 T242 (mkF m 19 #[.val (.ref a1), .val (.ref a2), .val (.int (0 : Int32)), .unset] [(.ref a1)]) := fun t h => k243 t (by
      show Steps p.tables e below (T242.setTop (mkF m 11 #[.val (.ref a1), .val (.ref a2), .unset, .unset] [(.int (0 : Int32))])) _
      refine XS.istoreN X242.here hx rfl (hb hby d12_11) rfl (l' := #[.val (.ref a1), .val (.ref a2), .val (.int (0 : Int32)), .unset]) rfl ?_
      show Steps p.tables e below (T242.setTop (mkF m 12 #[.val (.ref a1), .val (.ref a2), .val (.int (0 : Int32)), .unset] [])) _
      refine XS.iloadN X242.here hx rfl (hb hby d12_12) rfl ?_
      show Steps p.tables e below (T242.setTop (mkF m 13 #[.val (.ref a1), .val (.ref a2), .val (.int (0 : Int32)), .unset] [(.int (0 : Int32))])) _
      refine XS.ifYes X242.here hx rfl (pc0 := 13) (pc' := 18) rfl (hb hby d12_13) rfl ((if0 _ _).trans (teq (by decide : (0 : Int32) = (0 : Int32))).1) (by decide) (by decide) ?_
      show Steps p.tables e below (T242.setTop (mkF m 18 #[.val (.ref a1), .val (.ref a2), .val (.int (0 : Int32)), .unset] [])) _
      refine XS.aloadN X242.here hx rfl (hb hby d12_18) rfl rfl ?_
      show Steps p.tables e below (T242.setTop (mkF m 19 #[.val (.ref a1), .val (.ref a2), .val (.int (0 : Int32)), .unset] [(.ref a1)])) _
      exact h)
  obtain ⟨T244, X244, e244, st244⟩ := getF X242 hx hZ hown (host := "") (Or.inl (hw _ (List.mem_of_getElem? (i := 17) rfl))) Via.refl hh242 F1 (g := (mkF m 19 #[.val (.ref a1), .val (.ref a2), .val (.int (0 : Int32)), .unset] [(.ref a1)])) rfl rfl (hb hby d12_19)
  have k246 : Rch p e below S0 T244 (mkF m 22 #[.val (.ref a1), .val (.ref a2), .val (.int (0 : Int32)), .unset] [(.ref ra)]) := fun t h => k245 t (st244 t h)
  obtain ⟨cl247, Ar247, q247, Sz247, Ng247, Hs247, G247⟩ := id Va
  have k249 : Rch p e below S0 T244 (mkF m 24 #[.val (.ref a1), .val (.ref a2), .val (.int (0 : Int32)), .unset] [(.ref a2), (.int (1 : Int32))]) := fun t h => k246 t (by
      show Steps p.tables e below (T244.setTop (mkF m 22 #[.val (.ref a1), .val (.ref a2), .val (.int (0 : Int32)), .unset] [(.ref ra)])) _
      refine X244.arraylength hx (by rw [e244]; exact Ar247.1) (State.isArrayOf_alike hZ.alike Ar247.2.1) (g := (mkF m 22 #[.val (.ref a1), .val (.ref a2), .val (.int (0 : Int32)), .unset] [(.ref ra)])) rfl rfl (hb hby d12_22) _ ?_
      rw [len_of Sz247 Ng247]
      show Steps p.tables e below (T244.setTop (mkF m 23 #[.val (.ref a1), .val (.ref a2), .val (.int (0 : Int32)), .unset] [(.int (1 : Int32))])) _
      refine XS.aloadN X244.here hx rfl (hb hby d12_23) rfl rfl ?_
      show Steps p.tables e below (T244.setTop (mkF m 24 #[.val (.ref a1), .val (.ref a2), .val (.int (0 : Int32)), .unset] [(.ref a2), (.int (1 : Int32))])) _
      exact h)
  obtain ⟨T248, X248, e248, st248⟩ := getF X244 hx hZ hown (host := "") (Or.inl (hw _ (List.mem_of_getElem? (i := 17) rfl))) Via.refl e244 F2 (g := (mkF m 24 #[.val (.ref a1), .val (.ref a2), .val (.int (0 : Int32)), .unset] [(.ref a2), (.int (1 : Int32))])) rfl rfl (hb hby d12_24)
  have k250 : Rch p e below S0 T248 (mkF m 27 #[.val (.ref a1), .val (.ref a2), .val (.int (0 : Int32)), .unset] [(.ref rb), (.int (1 : Int32))]) := fun t h => k249 t (st248 t h)
  obtain ⟨cl251, Ar251, q251, Sz251, Ng251, Hs251, G251⟩ := id Vb
  have k252 : Rch p e below S0 T248 (mkF m 28 #[.val (.ref a1), .val (.ref a2), .val (.int (0 : Int32)), .unset] [(.int (1 : Int32)), (.int (1 : Int32))]) := fun t h => k250 t (by
      show Steps p.tables e below (T248.setTop (mkF m 27 #[.val (.ref a1), .val (.ref a2), .val (.int (0 : Int32)), .unset] [(.ref rb), (.int (1 : Int32))])) _
      refine X248.arraylength hx (by rw [e248]; exact Ar251.1) (State.isArrayOf_alike hZ.alike Ar251.2.1) (g := (mkF m 27 #[.val (.ref a1), .val (.ref a2), .val (.int (0 : Int32)), .unset] [(.ref rb), (.int (1 : Int32))])) rfl rfl (hb hby d12_27) _ ?_
      rw [len_of Sz251 Ng251]
      show Steps p.tables e below (T248.setTop (mkF m 28 #[.val (.ref a1), .val (.ref a2), .val (.int (0 : Int32)), .unset] [(.int (1 : Int32)), (.int (1 : Int32))])) _
      exact h)
  obtain ⟨_, _, ⟨T253, L253, kk253, n253⟩, -, X253, ⟨Lc253, hQ253, l253, y253, z253⟩, st253⟩ := Jvm.LawKit.callS X248 hx (y := (⟨"java/lang/Integer", "compare", "(II)I"⟩ : MethodName)) hown (mvT hZ (hw _ (List.mem_of_getElem? (i := 70) rfl))) (mvT hZ (hw _ (List.mem_of_getElem? (i := 71) rfl))) (mvT hZ (hw _ (List.mem_of_getElem? (i := 72) rfl))) (mvT hZ (hw _ (List.mem_of_getElem? (i := 73) rfl))) (by decide) (backOf (W := 0) (rmICe l Z a0 hw [] (1 : Int32) (1 : Int32)  h0 n0 O0 rfl) hZ (hw _ (List.mem_of_getElem? (i := 73) rfl)) (hw _ (List.mem_of_getElem? (i := 72) rfl)) (by decide) (by decide)) (g := (mkF m 28 #[.val (.ref a1), .val (.ref a2), .val (.int (0 : Int32)), .unset] [(.int (1 : Int32)), (.int (1 : Int32))])) rfl (by rw [hml]; rfl) (argsL := [(.int (1 : Int32)), (.int (1 : Int32))]) (rest := []) (lenOf pd_12 rfl) rfl (by show 2 * 0 + _ ≤ _; exact Nat.le_of_eq rfl) (hb hby d12_28) (fun _ _ => ⟨rfl, e248, (by decide : 0 + 0 ≤ _), (by decide : 0 + 0 ≤ _)⟩)
  dsimp only [Pt.U, Pt.locs, Pt.cells, Pt.slots] at X253 l253 y253 z253 st253 hQ253
  subst l253 y253 z253
  obtain ⟨rfl, Nq253, hh253⟩ := hQ253
  have N253 := Fr.app N242 Nq253
  have k254 : Rch p e below S0 T253 (mkF m 31 #[.val (.ref a1), .val (.ref a2), .val (.int (0 : Int32)), .unset] [(.int (0 : Int32))]) := fun t h => k252 t (st253 t h)
  have k256 : Rch p e below S0 T253 (mkF m 39 #[.val (.ref a1), .val (.ref a2), .val (.int (0 : Int32)), .val (.int (0 : Int32))] [(.ref a1)]) := fun t h => k254 t (by
      show Steps p.tables e below (T253.setTop (mkF m 31 #[.val (.ref a1), .val (.ref a2), .val (.int (0 : Int32)), .unset] [(.int (0 : Int32))])) _
      refine XS.istoreN X253.here hx rfl (hb hby d12_31) rfl (l' := #[.val (.ref a1), .val (.ref a2), .val (.int (0 : Int32)), .val (.int (0 : Int32))]) rfl ?_
      show Steps p.tables e below (T253.setTop (mkF m 32 #[.val (.ref a1), .val (.ref a2), .val (.int (0 : Int32)), .val (.int (0 : Int32))] [])) _
      refine XS.iloadN X253.here hx rfl (hb hby d12_32) rfl ?_
      show Steps p.tables e below (T253.setTop (mkF m 33 #[.val (.ref a1), .val (.ref a2), .val (.int (0 : Int32)), .val (.int (0 : Int32))] [(.int (0 : Int32))])) _
      refine XS.ifYes X253.here hx rfl (pc0 := 33) (pc' := 38) rfl (hb hby d12_33) rfl ((if0 _ _).trans (teq (by decide : (0 : Int32) = (0 : Int32))).1) (by decide) (by decide) ?_
      show Steps p.tables e below (T253.setTop (mkF m 38 #[.val (.ref a1), .val (.ref a2), .val (.int (0 : Int32)), .val (.int (0 : Int32))] [])) _
      refine XS.aloadN X253.here hx rfl (hb hby d12_38) rfl rfl ?_
      show Steps p.tables e below (T253.setTop (mkF m 39 #[.val (.ref a1), .val (.ref a2), .val (.int (0 : Int32)), .val (.int (0 : Int32))] [(.ref a1)])) _
      exact h)
  obtain ⟨T255, X255, e255, st255⟩ := getF X253 hx hZ hown (host := "") (Or.inl (hw _ (List.mem_of_getElem? (i := 17) rfl))) Via.refl hh253 F1 (g := (mkF m 39 #[.val (.ref a1), .val (.ref a2), .val (.int (0 : Int32)), .val (.int (0 : Int32))] [(.ref a1)])) rfl rfl (hb hby d12_39)
  have k257 : Rch p e below S0 T255 (mkF m 42 #[.val (.ref a1), .val (.ref a2), .val (.int (0 : Int32)), .val (.int (0 : Int32))] [(.ref ra)]) := fun t h => k256 t (st255 t h)
  have k259 : Rch p e below S0 T255 (mkF m 43 #[.val (.ref a1), .val (.ref a2), .val (.int (0 : Int32)), .val (.int (0 : Int32))] [(.ref a2), (.ref ra)]) := fun t h => k257 t (by
      show Steps p.tables e below (T255.setTop (mkF m 42 #[.val (.ref a1), .val (.ref a2), .val (.int (0 : Int32)), .val (.int (0 : Int32))] [(.ref ra)])) _
      refine XS.aloadN X255.here hx rfl (hb hby d12_42) rfl rfl ?_
      show Steps p.tables e below (T255.setTop (mkF m 43 #[.val (.ref a1), .val (.ref a2), .val (.int (0 : Int32)), .val (.int (0 : Int32))] [(.ref a2), (.ref ra)])) _
      exact h)
  obtain ⟨T258, X258, e258, st258⟩ := getF X255 hx hZ hown (host := "") (Or.inl (hw _ (List.mem_of_getElem? (i := 17) rfl))) Via.refl e255 F2 (g := (mkF m 43 #[.val (.ref a1), .val (.ref a2), .val (.int (0 : Int32)), .val (.int (0 : Int32))] [(.ref a2), (.ref ra)])) rfl rfl (hb hby d12_43)
  have k260 : Rch p e below S0 T258 (mkF m 46 #[.val (.ref a1), .val (.ref a2), .val (.int (0 : Int32)), .val (.int (0 : Int32))] [(.ref rb), (.ref ra)]) := fun t h => k259 t (st258 t h)
  obtain ⟨_, _, ⟨T261, L261, kk261, n261⟩, -, X261, ⟨Lc261, hQ261, l261, y261, z261⟩, st261⟩ := Jvm.LawKit.callS X258 hx (y := (⟨"java/util/Arrays", "compare", "([I[I)I"⟩ : MethodName)) hown (mvT hZ (hw _ (List.mem_of_getElem? (i := 74) rfl))) (mvT hZ (hw _ (List.mem_of_getElem? (i := 75) rfl))) (mvT hZ (hw _ (List.mem_of_getElem? (i := 46) rfl))) (mvT hZ (hw _ (List.mem_of_getElem? (i := 76) rfl))) (by decide) (backOf (W := 0) (rmACl l Z a0 hw []  ra ka x rb kb y h0 n0 O0 Va Vb hne hq) hZ (hw _ (List.mem_of_getElem? (i := 76) rfl)) (hw _ (List.mem_of_getElem? (i := 46) rfl)) (by decide) (by decide)) (g := (mkF m 46 #[.val (.ref a1), .val (.ref a2), .val (.int (0 : Int32)), .val (.int (0 : Int32))] [(.ref rb), (.ref ra)])) rfl (by rw [hml]; rfl) (argsL := [(.ref ra), (.ref rb)]) (rest := []) (lenOf pd_13 rfl) rfl (by show 2 * 0 + _ ≤ _; exact Nat.le_of_eq rfl) (hb hby d12_46) (fun _ _ => ⟨rfl, e258, (by decide : 0 + 0 ≤ _), (by decide : 0 + 0 ≤ _)⟩)
  dsimp only [Pt.U, Pt.locs, Pt.cells, Pt.slots] at X261 l261 y261 z261 st261 hQ261
  subst l261 y261 z261
  obtain ⟨rfl, Nq261, hh261⟩ := hQ261
  have N261 := Fr.app N253 Nq261
  have k262 : Rch p e below S0 T261 (mkF m 49 #[.val (.ref a1), .val (.ref a2), .val (.int (0 : Int32)), .val (.int (0 : Int32))] [(.int (-1 : Int32))]) := fun t h => k260 t (st261 t h)
  obtain ⟨fs, hr, hrun, hended, hW, hsame⟩ := X261.leave (v := (some (.int (-1 : Int32)))) (fun h => by rw [Bd.returns] at h; cases h)
  refine ⟨_, _, ?_, hrun, hended, _, _, rfl, ?_, ⟨_, rfl⟩, hW, hsame.mono (by decide) (by decide)⟩
  · rw [← hS0]
    refine k262 _ ?_
    show Steps p.tables e below (T261.setTop (mkF m 49 #[.val (.ref a1), .val (.ref a2), .val (.int (0 : Int32)), .val (.int (0 : Int32))] [(.int (-1 : Int32))])) _
    exact retI X261 hx Bd.returns (hb hby d12_49) hr
  · show Q_rmCTl Z  h0 n0 _ T261.heap _
    rw [hh261]
    exact ⟨rfl, N261, rfl⟩
def Q_rmCTe (Z : State)  (h0 : Heap) (n0 : Nat) (v : Option Value) (h : Heap) (L : List Loc) : Prop := v = some (.int (0 : Int32)) ∧ Fr n0 L ∧ h = h0
set_option maxRecDepth 65536 in
set_option maxHeartbeats 40000000 in
theorem rmCTe (l : Launch) (Z : State) (a0 : Array Value) (hw : ∀ d ∈ tables_1, d.before a0 Z = true) (ws : List Jvm.Cond) (a1 : Addr) (a2 : Addr) (ra : Addr) (ka : ClassId) (x : Int32) (rb : Addr) (kb : ClassId) (y : Int32) (wZ : Addr) (h0 : Heap) (n0 : Nat) (O0 : Old Z n0 h0) (EZ : Exa Z Z.heap wZ "java/math/BigDecimal") (FSc : Fld Z Z.heap wZ "java/math/BigDecimal" "scale" "I" (.int (0 : Int32))) (FIc : Fld Z Z.heap wZ "java/math/BigDecimal" "intCompact" "J" (.long (0 : Int64))) (G1 : Fld Z h0 a1 "com/example/lumenplan/lumenplan/network/RankedPath" "km" "Ljava/math/BigDecimal;" (.ref wZ)) (G2 : Fld Z h0 a2 "com/example/lumenplan/lumenplan/network/RankedPath" "km" "Ljava/math/BigDecimal;" (.ref wZ)) (F1 : Fld Z h0 a1 "com/example/lumenplan/lumenplan/network/RankedPath" "nodes" "[I" (.ref ra)) (F2 : Fld Z h0 a2 "com/example/lumenplan/lumenplan/network/RankedPath" "nodes" "[I" (.ref rb)) (Va : Arv Z h0 ra ka .int (1 : Int32) [.int x] (.int (0 : Int32))) (Vb : Arv Z h0 rb kb .int (1 : Int32) [.int y] (.int (0 : Int32))) (hne : ¬ (ra = rb)) (hq : x = y) :
    MetFree l (⟨"com/example/lumenplan/lumenplan/network/RankedPath", "compareTo", "(Lcom/example/lumenplan/lumenplan/network/RankedPath;)I"⟩ : MethodName) (head1 (Jvm.Cond.code (⟨"com/example/lumenplan/lumenplan/network/RankedPath", "compareTo", "(Lcom/example/lumenplan/lumenplan/network/RankedPath;)I"⟩ : MethodName) prog_24_method_13_code 4 (some .int) :: ws) ({ frames := 2, cells := 0, slots := 0, locals := 60 } : Room)) (fun a U => a = #[(.ref a1), (.ref a2)] ∧ Z.Warmed39 U.vm ∧ U.heap = h0) (fun _ _ _ _ _ => True) (fun _ U o U' => ∃ v L, o = .returned v ∧ Q_rmCTe Z  h0 n0 v U'.heap L ∧ FrameEnd U o U' L ({ frames := 2, cells := 0, slots := 0, locals := 60 } : Room).cells ({ frames := 2, cells := 0, slots := 0, locals := 60 } : Room).slots) := by
  refine MetFree.of_bodySF (plainFor_of_name pn_RankedPath) hisR ?_
  intro p e s m args below meth c s₁ Bd hml0 hP hK
  obtain ⟨rfl, hZ, hh⟩ := hP
  have hx := Bd.exec
  have hby := Bd.bytes
  have hml : c.maxLocals = 4 := hml0
  have hown : s.vm.findClass "com/example/lumenplan/lumenplan/network/RankedPath" = some m.cls := findClass_of_methodNamed Bd.named
  have hnm := (name_of_methodNamed Bd.named Bd.method).1
  have X0 : Stand p l e ({ frames := 2, cells := 0, slots := 0, locals := 60 } : Room) s m #[(.ref a1), (.ref a2)] below meth c s₁ [] 0 0 := Stand.of_body Bd
  have e0 : s₁.heap = h0 := by rw [← hh, Bd.state]; rfl
  have N0 := Fr.nil n0
  obtain ⟨S0, hS0⟩ : ∃ z, z = s₁.setTop (entryFrame m #[(.ref a1), (.ref a2)] 4) := ⟨_, rfl⟩
  have k0 : Rch p e below S0 s₁ (mkF m 0 #[.val (.ref a1), .val (.ref a2), .unset, .unset] []) := fun t k => hS0 ▸ castTop (ef_12 m a1 a2) k
  have k264 : Rch p e below S0 s₁ (mkF m 1 #[.val (.ref a1), .val (.ref a2), .unset, .unset] [(.ref a1)]) := fun t h => k0 t (by
      show Steps p.tables e below (s₁.setTop (mkF m 0 #[.val (.ref a1), .val (.ref a2), .unset, .unset] [])) _
      refine XS.aloadN X0.here hx rfl (hb hby d12_0) rfl rfl ?_
      show Steps p.tables e below (s₁.setTop (mkF m 1 #[.val (.ref a1), .val (.ref a2), .unset, .unset] [(.ref a1)])) _
      exact h)
  obtain ⟨T263, X263, e263, st263⟩ := getF X0 hx hZ hown (host := "") (Or.inl (hw _ (List.mem_of_getElem? (i := 15) rfl))) Via.refl e0 G1 (g := (mkF m 1 #[.val (.ref a1), .val (.ref a2), .unset, .unset] [(.ref a1)])) rfl rfl (hb hby d12_1)
  have k265 : Rch p e below S0 T263 (mkF m 4 #[.val (.ref a1), .val (.ref a2), .unset, .unset] [(.ref wZ)]) := fun t h => k264 t (st263 t h)
  have k267 : Rch p e below S0 T263 (mkF m 5 #[.val (.ref a1), .val (.ref a2), .unset, .unset] [(.ref a2), (.ref wZ)]) := fun t h => k265 t (by
      show Steps p.tables e below (T263.setTop (mkF m 4 #[.val (.ref a1), .val (.ref a2), .unset, .unset] [(.ref wZ)])) _
      refine XS.aloadN X263.here hx rfl (hb hby d12_4) rfl rfl ?_
      show Steps p.tables e below (T263.setTop (mkF m 5 #[.val (.ref a1), .val (.ref a2), .unset, .unset] [(.ref a2), (.ref wZ)])) _
      exact h)
  obtain ⟨T266, X266, e266, st266⟩ := getF X263 hx hZ hown (host := "") (Or.inl (hw _ (List.mem_of_getElem? (i := 15) rfl))) Via.refl e263 G2 (g := (mkF m 5 #[.val (.ref a1), .val (.ref a2), .unset, .unset] [(.ref a2), (.ref wZ)])) rfl rfl (hb hby d12_5)
  have k268 : Rch p e below S0 T266 (mkF m 8 #[.val (.ref a1), .val (.ref a2), .unset, .unset] [(.ref wZ), (.ref wZ)]) := fun t h => k267 t (st266 t h)
  obtain ⟨cq269, kq269, q269a, q269b, q269c⟩ := isOf hZ e266 (EZ.ext O0.2)
  obtain ⟨_, _, ⟨T269, L269, kk269, n269⟩, -, X269, ⟨Lc269, hQ269, l269, y269, z269⟩, st269⟩ := X266.virtualBack hx (y := (⟨"java/math/BigDecimal", "compareTo", "(Ljava/math/BigDecimal;)I"⟩ : MethodName)) (z := (⟨"java/math/BigDecimal", "compareTo", "(Ljava/math/BigDecimal;)I"⟩ : MethodName)) hown (mvT hZ (hw _ (List.mem_of_getElem? (i := 60) rfl))) (mvT hZ (hw _ (List.mem_of_getElem? (i := 61) rfl))) (notFace_of_selects (args := #[]) (mvT hZ (hw _ (List.mem_of_getElem? (i := 63) rfl)))) (mvT hZ (hw _ (List.mem_of_getElem? (i := 63) rfl))) (mvT hZ (hw _ (List.mem_of_getElem? (i := 62) rfl))) (by decide) (backOf (W := 0) (rmBC l Z a0 hw [] wZ  h0 n0 O0 FSc FIc) hZ (hw _ (List.mem_of_getElem? (i := 64) rfl)) (hw _ (List.mem_of_getElem? (i := 7) rfl)) (by decide) (by decide)) q269a q269c (g := (mkF m 8 #[.val (.ref a1), .val (.ref a2), .unset, .unset] [(.ref wZ), (.ref wZ)])) rfl (by rw [hml]; rfl) (Steps.refl _) (argsL := [(.ref wZ)]) (rest := []) (lenOf pd_11 rfl) rfl (by show 2 * 0 + _ ≤ _; exact Nat.le_of_eq rfl) (hb hby d12_8) (fun _ _ => ⟨rfl, e266, (by decide : 0 + 0 ≤ _), (by decide : 0 + 0 ≤ _)⟩)
  dsimp only [Pt.U, Pt.locs, Pt.cells, Pt.slots] at X269 l269 y269 z269 st269 hQ269
  subst l269 y269 z269
  obtain ⟨rfl, Nq269, hh269⟩ := hQ269
  have N269 := Fr.app N0 Nq269
  have k270 : Rch p e below S0 T269 (mkF m 11 #[.val (.ref a1), .val (.ref a2), .unset, .unset] [(.int (0 : Int32))]) := fun t h => k268 t (st269.trans h)
  have k272 : Rch p e below S0 T269 (mkF m 19 #[.val (.ref a1), .val (.ref a2), .val (.int (0 : Int32)), .unset] [(.ref a1)]) := fun t h => k270 t (by
      show Steps p.tables e below (T269.setTop (mkF m 11 #[.val (.ref a1), .val (.ref a2), .unset, .unset] [(.int (0 : Int32))])) _
      refine XS.istoreN X269.here hx rfl (hb hby d12_11) rfl (l' := #[.val (.ref a1), .val (.ref a2), .val (.int (0 : Int32)), .unset]) rfl ?_
      show Steps p.tables e below (T269.setTop (mkF m 12 #[.val (.ref a1), .val (.ref a2), .val (.int (0 : Int32)), .unset] [])) _
      refine XS.iloadN X269.here hx rfl (hb hby d12_12) rfl ?_
      show Steps p.tables e below (T269.setTop (mkF m 13 #[.val (.ref a1), .val (.ref a2), .val (.int (0 : Int32)), .unset] [(.int (0 : Int32))])) _
      refine XS.ifYes X269.here hx rfl (pc0 := 13) (pc' := 18) rfl (hb hby d12_13) rfl ((if0 _ _).trans (teq (by decide : (0 : Int32) = (0 : Int32))).1) (by decide) (by decide) ?_
      show Steps p.tables e below (T269.setTop (mkF m 18 #[.val (.ref a1), .val (.ref a2), .val (.int (0 : Int32)), .unset] [])) _
      refine XS.aloadN X269.here hx rfl (hb hby d12_18) rfl rfl ?_
      show Steps p.tables e below (T269.setTop (mkF m 19 #[.val (.ref a1), .val (.ref a2), .val (.int (0 : Int32)), .unset] [(.ref a1)])) _
      exact h)
  obtain ⟨T271, X271, e271, st271⟩ := getF X269 hx hZ hown (host := "") (Or.inl (hw _ (List.mem_of_getElem? (i := 17) rfl))) Via.refl hh269 F1 (g := (mkF m 19 #[.val (.ref a1), .val (.ref a2), .val (.int (0 : Int32)), .unset] [(.ref a1)])) rfl rfl (hb hby d12_19)
  have k273 : Rch p e below S0 T271 (mkF m 22 #[.val (.ref a1), .val (.ref a2), .val (.int (0 : Int32)), .unset] [(.ref ra)]) := fun t h => k272 t (st271 t h)
  obtain ⟨cl274, Ar274, q274, Sz274, Ng274, Hs274, G274⟩ := id Va
  have k276 : Rch p e below S0 T271 (mkF m 24 #[.val (.ref a1), .val (.ref a2), .val (.int (0 : Int32)), .unset] [(.ref a2), (.int (1 : Int32))]) := fun t h => k273 t (by
      show Steps p.tables e below (T271.setTop (mkF m 22 #[.val (.ref a1), .val (.ref a2), .val (.int (0 : Int32)), .unset] [(.ref ra)])) _
      refine X271.arraylength hx (by rw [e271]; exact Ar274.1) (State.isArrayOf_alike hZ.alike Ar274.2.1) (g := (mkF m 22 #[.val (.ref a1), .val (.ref a2), .val (.int (0 : Int32)), .unset] [(.ref ra)])) rfl rfl (hb hby d12_22) _ ?_
      rw [len_of Sz274 Ng274]
      show Steps p.tables e below (T271.setTop (mkF m 23 #[.val (.ref a1), .val (.ref a2), .val (.int (0 : Int32)), .unset] [(.int (1 : Int32))])) _
      refine XS.aloadN X271.here hx rfl (hb hby d12_23) rfl rfl ?_
      show Steps p.tables e below (T271.setTop (mkF m 24 #[.val (.ref a1), .val (.ref a2), .val (.int (0 : Int32)), .unset] [(.ref a2), (.int (1 : Int32))])) _
      exact h)
  obtain ⟨T275, X275, e275, st275⟩ := getF X271 hx hZ hown (host := "") (Or.inl (hw _ (List.mem_of_getElem? (i := 17) rfl))) Via.refl e271 F2 (g := (mkF m 24 #[.val (.ref a1), .val (.ref a2), .val (.int (0 : Int32)), .unset] [(.ref a2), (.int (1 : Int32))])) rfl rfl (hb hby d12_24)
  have k277 : Rch p e below S0 T275 (mkF m 27 #[.val (.ref a1), .val (.ref a2), .val (.int (0 : Int32)), .unset] [(.ref rb), (.int (1 : Int32))]) := fun t h => k276 t (st275 t h)
  obtain ⟨cl278, Ar278, q278, Sz278, Ng278, Hs278, G278⟩ := id Vb
  have k279 : Rch p e below S0 T275 (mkF m 28 #[.val (.ref a1), .val (.ref a2), .val (.int (0 : Int32)), .unset] [(.int (1 : Int32)), (.int (1 : Int32))]) := fun t h => k277 t (by
      show Steps p.tables e below (T275.setTop (mkF m 27 #[.val (.ref a1), .val (.ref a2), .val (.int (0 : Int32)), .unset] [(.ref rb), (.int (1 : Int32))])) _
      refine X275.arraylength hx (by rw [e275]; exact Ar278.1) (State.isArrayOf_alike hZ.alike Ar278.2.1) (g := (mkF m 27 #[.val (.ref a1), .val (.ref a2), .val (.int (0 : Int32)), .unset] [(.ref rb), (.int (1 : Int32))])) rfl rfl (hb hby d12_27) _ ?_
      rw [len_of Sz278 Ng278]
      show Steps p.tables e below (T275.setTop (mkF m 28 #[.val (.ref a1), .val (.ref a2), .val (.int (0 : Int32)), .unset] [(.int (1 : Int32)), (.int (1 : Int32))])) _
      exact h)
  obtain ⟨_, _, ⟨T280, L280, kk280, n280⟩, -, X280, ⟨Lc280, hQ280, l280, y280, z280⟩, st280⟩ := Jvm.LawKit.callS X275 hx (y := (⟨"java/lang/Integer", "compare", "(II)I"⟩ : MethodName)) hown (mvT hZ (hw _ (List.mem_of_getElem? (i := 70) rfl))) (mvT hZ (hw _ (List.mem_of_getElem? (i := 71) rfl))) (mvT hZ (hw _ (List.mem_of_getElem? (i := 72) rfl))) (mvT hZ (hw _ (List.mem_of_getElem? (i := 73) rfl))) (by decide) (backOf (W := 0) (rmICe l Z a0 hw [] (1 : Int32) (1 : Int32)  h0 n0 O0 rfl) hZ (hw _ (List.mem_of_getElem? (i := 73) rfl)) (hw _ (List.mem_of_getElem? (i := 72) rfl)) (by decide) (by decide)) (g := (mkF m 28 #[.val (.ref a1), .val (.ref a2), .val (.int (0 : Int32)), .unset] [(.int (1 : Int32)), (.int (1 : Int32))])) rfl (by rw [hml]; rfl) (argsL := [(.int (1 : Int32)), (.int (1 : Int32))]) (rest := []) (lenOf pd_12 rfl) rfl (by show 2 * 0 + _ ≤ _; exact Nat.le_of_eq rfl) (hb hby d12_28) (fun _ _ => ⟨rfl, e275, (by decide : 0 + 0 ≤ _), (by decide : 0 + 0 ≤ _)⟩)
  dsimp only [Pt.U, Pt.locs, Pt.cells, Pt.slots] at X280 l280 y280 z280 st280 hQ280
  subst l280 y280 z280
  obtain ⟨rfl, Nq280, hh280⟩ := hQ280
  have N280 := Fr.app N269 Nq280
  have k281 : Rch p e below S0 T280 (mkF m 31 #[.val (.ref a1), .val (.ref a2), .val (.int (0 : Int32)), .unset] [(.int (0 : Int32))]) := fun t h => k279 t (st280 t h)
  have k283 : Rch p e below S0 T280 (mkF m 39 #[.val (.ref a1), .val (.ref a2), .val (.int (0 : Int32)), .val (.int (0 : Int32))] [(.ref a1)]) := fun t h => k281 t (by
      show Steps p.tables e below (T280.setTop (mkF m 31 #[.val (.ref a1), .val (.ref a2), .val (.int (0 : Int32)), .unset] [(.int (0 : Int32))])) _
      refine XS.istoreN X280.here hx rfl (hb hby d12_31) rfl (l' := #[.val (.ref a1), .val (.ref a2), .val (.int (0 : Int32)), .val (.int (0 : Int32))]) rfl ?_
      show Steps p.tables e below (T280.setTop (mkF m 32 #[.val (.ref a1), .val (.ref a2), .val (.int (0 : Int32)), .val (.int (0 : Int32))] [])) _
      refine XS.iloadN X280.here hx rfl (hb hby d12_32) rfl ?_
      show Steps p.tables e below (T280.setTop (mkF m 33 #[.val (.ref a1), .val (.ref a2), .val (.int (0 : Int32)), .val (.int (0 : Int32))] [(.int (0 : Int32))])) _
      refine XS.ifYes X280.here hx rfl (pc0 := 33) (pc' := 38) rfl (hb hby d12_33) rfl ((if0 _ _).trans (teq (by decide : (0 : Int32) = (0 : Int32))).1) (by decide) (by decide) ?_
      show Steps p.tables e below (T280.setTop (mkF m 38 #[.val (.ref a1), .val (.ref a2), .val (.int (0 : Int32)), .val (.int (0 : Int32))] [])) _
      refine XS.aloadN X280.here hx rfl (hb hby d12_38) rfl rfl ?_
      show Steps p.tables e below (T280.setTop (mkF m 39 #[.val (.ref a1), .val (.ref a2), .val (.int (0 : Int32)), .val (.int (0 : Int32))] [(.ref a1)])) _
      exact h)
  obtain ⟨T282, X282, e282, st282⟩ := getF X280 hx hZ hown (host := "") (Or.inl (hw _ (List.mem_of_getElem? (i := 17) rfl))) Via.refl hh280 F1 (g := (mkF m 39 #[.val (.ref a1), .val (.ref a2), .val (.int (0 : Int32)), .val (.int (0 : Int32))] [(.ref a1)])) rfl rfl (hb hby d12_39)
  have k284 : Rch p e below S0 T282 (mkF m 42 #[.val (.ref a1), .val (.ref a2), .val (.int (0 : Int32)), .val (.int (0 : Int32))] [(.ref ra)]) := fun t h => k283 t (st282 t h)
  have k286 : Rch p e below S0 T282 (mkF m 43 #[.val (.ref a1), .val (.ref a2), .val (.int (0 : Int32)), .val (.int (0 : Int32))] [(.ref a2), (.ref ra)]) := fun t h => k284 t (by
      show Steps p.tables e below (T282.setTop (mkF m 42 #[.val (.ref a1), .val (.ref a2), .val (.int (0 : Int32)), .val (.int (0 : Int32))] [(.ref ra)])) _
      refine XS.aloadN X282.here hx rfl (hb hby d12_42) rfl rfl ?_
      show Steps p.tables e below (T282.setTop (mkF m 43 #[.val (.ref a1), .val (.ref a2), .val (.int (0 : Int32)), .val (.int (0 : Int32))] [(.ref a2), (.ref ra)])) _
      exact h)
  obtain ⟨T285, X285, e285, st285⟩ := getF X282 hx hZ hown (host := "") (Or.inl (hw _ (List.mem_of_getElem? (i := 17) rfl))) Via.refl e282 F2 (g := (mkF m 43 #[.val (.ref a1), .val (.ref a2), .val (.int (0 : Int32)), .val (.int (0 : Int32))] [(.ref a2), (.ref ra)])) rfl rfl (hb hby d12_43)
  have k287 : Rch p e below S0 T285 (mkF m 46 #[.val (.ref a1), .val (.ref a2), .val (.int (0 : Int32)), .val (.int (0 : Int32))] [(.ref rb), (.ref ra)]) := fun t h => k286 t (st285 t h)
  obtain ⟨_, _, ⟨T288, L288, kk288, n288⟩, -, X288, ⟨Lc288, hQ288, l288, y288, z288⟩, st288⟩ := Jvm.LawKit.callS X285 hx (y := (⟨"java/util/Arrays", "compare", "([I[I)I"⟩ : MethodName)) hown (mvT hZ (hw _ (List.mem_of_getElem? (i := 74) rfl))) (mvT hZ (hw _ (List.mem_of_getElem? (i := 75) rfl))) (mvT hZ (hw _ (List.mem_of_getElem? (i := 46) rfl))) (mvT hZ (hw _ (List.mem_of_getElem? (i := 76) rfl))) (by decide) (backOf (W := 0) (rmACe l Z a0 hw []  ra ka x rb kb y h0 n0 O0 Va Vb hne hq) hZ (hw _ (List.mem_of_getElem? (i := 76) rfl)) (hw _ (List.mem_of_getElem? (i := 46) rfl)) (by decide) (by decide)) (g := (mkF m 46 #[.val (.ref a1), .val (.ref a2), .val (.int (0 : Int32)), .val (.int (0 : Int32))] [(.ref rb), (.ref ra)])) rfl (by rw [hml]; rfl) (argsL := [(.ref ra), (.ref rb)]) (rest := []) (lenOf pd_13 rfl) rfl (by show 2 * 0 + _ ≤ _; exact Nat.le_of_eq rfl) (hb hby d12_46) (fun _ _ => ⟨rfl, e285, (by decide : 0 + 0 ≤ _), (by decide : 0 + 0 ≤ _)⟩)
  dsimp only [Pt.U, Pt.locs, Pt.cells, Pt.slots] at X288 l288 y288 z288 st288 hQ288
  subst l288 y288 z288
  obtain ⟨rfl, Nq288, hh288⟩ := hQ288
  have N288 := Fr.app N280 Nq288
  have k289 : Rch p e below S0 T288 (mkF m 49 #[.val (.ref a1), .val (.ref a2), .val (.int (0 : Int32)), .val (.int (0 : Int32))] [(.int (0 : Int32))]) := fun t h => k287 t (st288 t h)
  obtain ⟨fs, hr, hrun, hended, hW, hsame⟩ := X288.leave (v := (some (.int (0 : Int32)))) (fun h => by rw [Bd.returns] at h; cases h)
  refine ⟨_, _, ?_, hrun, hended, _, _, rfl, ?_, ⟨_, rfl⟩, hW, hsame.mono (by decide) (by decide)⟩
  · rw [← hS0]
    refine k289 _ ?_
    show Steps p.tables e below (T288.setTop (mkF m 49 #[.val (.ref a1), .val (.ref a2), .val (.int (0 : Int32)), .val (.int (0 : Int32))] [(.int (0 : Int32))])) _
    exact retI X288 hx Bd.returns (hb hby d12_49) hr
  · show Q_rmCTe Z  h0 n0 _ T288.heap _
    rw [hh288]
    exact ⟨rfl, N288, rfl⟩
def Q_rmCTg (Z : State)  (h0 : Heap) (n0 : Nat) (v : Option Value) (h : Heap) (L : List Loc) : Prop := v = some (.int (1 : Int32)) ∧ Fr n0 L ∧ h = h0
set_option maxRecDepth 65536 in
set_option maxHeartbeats 40000000 in
theorem rmCTg (l : Launch) (Z : State) (a0 : Array Value) (hw : ∀ d ∈ tables_1, d.before a0 Z = true) (ws : List Jvm.Cond) (a1 : Addr) (a2 : Addr) (ra : Addr) (ka : ClassId) (x : Int32) (rb : Addr) (kb : ClassId) (y : Int32) (wZ : Addr) (h0 : Heap) (n0 : Nat) (O0 : Old Z n0 h0) (EZ : Exa Z Z.heap wZ "java/math/BigDecimal") (FSc : Fld Z Z.heap wZ "java/math/BigDecimal" "scale" "I" (.int (0 : Int32))) (FIc : Fld Z Z.heap wZ "java/math/BigDecimal" "intCompact" "J" (.long (0 : Int64))) (G1 : Fld Z h0 a1 "com/example/lumenplan/lumenplan/network/RankedPath" "km" "Ljava/math/BigDecimal;" (.ref wZ)) (G2 : Fld Z h0 a2 "com/example/lumenplan/lumenplan/network/RankedPath" "km" "Ljava/math/BigDecimal;" (.ref wZ)) (F1 : Fld Z h0 a1 "com/example/lumenplan/lumenplan/network/RankedPath" "nodes" "[I" (.ref ra)) (F2 : Fld Z h0 a2 "com/example/lumenplan/lumenplan/network/RankedPath" "nodes" "[I" (.ref rb)) (Va : Arv Z h0 ra ka .int (1 : Int32) [.int x] (.int (0 : Int32))) (Vb : Arv Z h0 rb kb .int (1 : Int32) [.int y] (.int (0 : Int32))) (hne : ¬ (ra = rb)) (hq : y < x) :
    MetFree l (⟨"com/example/lumenplan/lumenplan/network/RankedPath", "compareTo", "(Lcom/example/lumenplan/lumenplan/network/RankedPath;)I"⟩ : MethodName) (head1 (Jvm.Cond.code (⟨"com/example/lumenplan/lumenplan/network/RankedPath", "compareTo", "(Lcom/example/lumenplan/lumenplan/network/RankedPath;)I"⟩ : MethodName) prog_24_method_13_code 4 (some .int) :: ws) ({ frames := 2, cells := 0, slots := 0, locals := 60 } : Room)) (fun a U => a = #[(.ref a1), (.ref a2)] ∧ Z.Warmed39 U.vm ∧ U.heap = h0) (fun _ _ _ _ _ => True) (fun _ U o U' => ∃ v L, o = .returned v ∧ Q_rmCTg Z  h0 n0 v U'.heap L ∧ FrameEnd U o U' L ({ frames := 2, cells := 0, slots := 0, locals := 60 } : Room).cells ({ frames := 2, cells := 0, slots := 0, locals := 60 } : Room).slots) := by
  refine MetFree.of_bodySF (plainFor_of_name pn_RankedPath) hisR ?_
  intro p e s m args below meth c s₁ Bd hml0 hP hK
  obtain ⟨rfl, hZ, hh⟩ := hP
  have hx := Bd.exec
  have hby := Bd.bytes
  have hml : c.maxLocals = 4 := hml0
  have hown : s.vm.findClass "com/example/lumenplan/lumenplan/network/RankedPath" = some m.cls := findClass_of_methodNamed Bd.named
  have hnm := (name_of_methodNamed Bd.named Bd.method).1
  have X0 : Stand p l e ({ frames := 2, cells := 0, slots := 0, locals := 60 } : Room) s m #[(.ref a1), (.ref a2)] below meth c s₁ [] 0 0 := Stand.of_body Bd
  have e0 : s₁.heap = h0 := by rw [← hh, Bd.state]; rfl
  have N0 := Fr.nil n0
  obtain ⟨S0, hS0⟩ : ∃ z, z = s₁.setTop (entryFrame m #[(.ref a1), (.ref a2)] 4) := ⟨_, rfl⟩
  have k0 : Rch p e below S0 s₁ (mkF m 0 #[.val (.ref a1), .val (.ref a2), .unset, .unset] []) := fun t k => hS0 ▸ castTop (ef_12 m a1 a2) k
  have k291 : Rch p e below S0 s₁ (mkF m 1 #[.val (.ref a1), .val (.ref a2), .unset, .unset] [(.ref a1)]) := fun t h => k0 t (by
      show Steps p.tables e below (s₁.setTop (mkF m 0 #[.val (.ref a1), .val (.ref a2), .unset, .unset] [])) _
      refine XS.aloadN X0.here hx rfl (hb hby d12_0) rfl rfl ?_
      show Steps p.tables e below (s₁.setTop (mkF m 1 #[.val (.ref a1), .val (.ref a2), .unset, .unset] [(.ref a1)])) _
      exact h)
  obtain ⟨T290, X290, e290, st290⟩ := getF X0 hx hZ hown (host := "") (Or.inl (hw _ (List.mem_of_getElem? (i := 15) rfl))) Via.refl e0 G1 (g := (mkF m 1 #[.val (.ref a1), .val (.ref a2), .unset, .unset] [(.ref a1)])) rfl rfl (hb hby d12_1)
  have k292 : Rch p e below S0 T290 (mkF m 4 #[.val (.ref a1), .val (.ref a2), .unset, .unset] [(.ref wZ)]) := fun t h => k291 t (st290 t h)
  have k294 : Rch p e below S0 T290 (mkF m 5 #[.val (.ref a1), .val (.ref a2), .unset, .unset] [(.ref a2), (.ref wZ)]) := fun t h => k292 t (by
      show Steps p.tables e below (T290.setTop (mkF m 4 #[.val (.ref a1), .val (.ref a2), .unset, .unset] [(.ref wZ)])) _
      refine XS.aloadN X290.here hx rfl (hb hby d12_4) rfl rfl ?_
      show Steps p.tables e below (T290.setTop (mkF m 5 #[.val (.ref a1), .val (.ref a2), .unset, .unset] [(.ref a2), (.ref wZ)])) _
      exact h)
  obtain ⟨T293, X293, e293, st293⟩ := getF X290 hx hZ hown (host := "") (Or.inl (hw _ (List.mem_of_getElem? (i := 15) rfl))) Via.refl e290 G2 (g := (mkF m 5 #[.val (.ref a1), .val (.ref a2), .unset, .unset] [(.ref a2), (.ref wZ)])) rfl rfl (hb hby d12_5)
  have k295 : Rch p e below S0 T293 (mkF m 8 #[.val (.ref a1), .val (.ref a2), .unset, .unset] [(.ref wZ), (.ref wZ)]) := fun t h => k294 t (st293 t h)
  obtain ⟨cq296, kq296, q296a, q296b, q296c⟩ := isOf hZ e293 (EZ.ext O0.2)
  obtain ⟨_, _, ⟨T296, L296, kk296, n296⟩, -, X296, ⟨Lc296, hQ296, l296, y296, z296⟩, st296⟩ := X293.virtualBack hx (y := (⟨"java/math/BigDecimal", "compareTo", "(Ljava/math/BigDecimal;)I"⟩ : MethodName)) (z := (⟨"java/math/BigDecimal", "compareTo", "(Ljava/math/BigDecimal;)I"⟩ : MethodName)) hown (mvT hZ (hw _ (List.mem_of_getElem? (i := 60) rfl))) (mvT hZ (hw _ (List.mem_of_getElem? (i := 61) rfl))) (notFace_of_selects (args := #[]) (mvT hZ (hw _ (List.mem_of_getElem? (i := 63) rfl)))) (mvT hZ (hw _ (List.mem_of_getElem? (i := 63) rfl))) (mvT hZ (hw _ (List.mem_of_getElem? (i := 62) rfl))) (by decide) (backOf (W := 0) (rmBC l Z a0 hw [] wZ  h0 n0 O0 FSc FIc) hZ (hw _ (List.mem_of_getElem? (i := 64) rfl)) (hw _ (List.mem_of_getElem? (i := 7) rfl)) (by decide) (by decide)) q296a q296c (g := (mkF m 8 #[.val (.ref a1), .val (.ref a2), .unset, .unset] [(.ref wZ), (.ref wZ)])) rfl (by rw [hml]; rfl) (Steps.refl _) (argsL := [(.ref wZ)]) (rest := []) (lenOf pd_11 rfl) rfl (by show 2 * 0 + _ ≤ _; exact Nat.le_of_eq rfl) (hb hby d12_8) (fun _ _ => ⟨rfl, e293, (by decide : 0 + 0 ≤ _), (by decide : 0 + 0 ≤ _)⟩)
  dsimp only [Pt.U, Pt.locs, Pt.cells, Pt.slots] at X296 l296 y296 z296 st296 hQ296
  subst l296 y296 z296
  obtain ⟨rfl, Nq296, hh296⟩ := hQ296
  have N296 := Fr.app N0 Nq296
  have k297 : Rch p e below S0 T296 (mkF m 11 #[.val (.ref a1), .val (.ref a2), .unset, .unset] [(.int (0 : Int32))]) := fun t h => k295 t (st296.trans h)
  have k299 : Rch p e below S0 T296 (mkF m 19 #[.val (.ref a1), .val (.ref a2), .val (.int (0 : Int32)), .unset] [(.ref a1)]) := fun t h => k297 t (by
      show Steps p.tables e below (T296.setTop (mkF m 11 #[.val (.ref a1), .val (.ref a2), .unset, .unset] [(.int (0 : Int32))])) _
      refine XS.istoreN X296.here hx rfl (hb hby d12_11) rfl (l' := #[.val (.ref a1), .val (.ref a2), .val (.int (0 : Int32)), .unset]) rfl ?_
      show Steps p.tables e below (T296.setTop (mkF m 12 #[.val (.ref a1), .val (.ref a2), .val (.int (0 : Int32)), .unset] [])) _
      refine XS.iloadN X296.here hx rfl (hb hby d12_12) rfl ?_
      show Steps p.tables e below (T296.setTop (mkF m 13 #[.val (.ref a1), .val (.ref a2), .val (.int (0 : Int32)), .unset] [(.int (0 : Int32))])) _
      refine XS.ifYes X296.here hx rfl (pc0 := 13) (pc' := 18) rfl (hb hby d12_13) rfl ((if0 _ _).trans (teq (by decide : (0 : Int32) = (0 : Int32))).1) (by decide) (by decide) ?_
      show Steps p.tables e below (T296.setTop (mkF m 18 #[.val (.ref a1), .val (.ref a2), .val (.int (0 : Int32)), .unset] [])) _
      refine XS.aloadN X296.here hx rfl (hb hby d12_18) rfl rfl ?_
      show Steps p.tables e below (T296.setTop (mkF m 19 #[.val (.ref a1), .val (.ref a2), .val (.int (0 : Int32)), .unset] [(.ref a1)])) _
      exact h)
  obtain ⟨T298, X298, e298, st298⟩ := getF X296 hx hZ hown (host := "") (Or.inl (hw _ (List.mem_of_getElem? (i := 17) rfl))) Via.refl hh296 F1 (g := (mkF m 19 #[.val (.ref a1), .val (.ref a2), .val (.int (0 : Int32)), .unset] [(.ref a1)])) rfl rfl (hb hby d12_19)
  have k300 : Rch p e below S0 T298 (mkF m 22 #[.val (.ref a1), .val (.ref a2), .val (.int (0 : Int32)), .unset] [(.ref ra)]) := fun t h => k299 t (st298 t h)
  obtain ⟨cl301, Ar301, q301, Sz301, Ng301, Hs301, G301⟩ := id Va
  have k303 : Rch p e below S0 T298 (mkF m 24 #[.val (.ref a1), .val (.ref a2), .val (.int (0 : Int32)), .unset] [(.ref a2), (.int (1 : Int32))]) := fun t h => k300 t (by
      show Steps p.tables e below (T298.setTop (mkF m 22 #[.val (.ref a1), .val (.ref a2), .val (.int (0 : Int32)), .unset] [(.ref ra)])) _
      refine X298.arraylength hx (by rw [e298]; exact Ar301.1) (State.isArrayOf_alike hZ.alike Ar301.2.1) (g := (mkF m 22 #[.val (.ref a1), .val (.ref a2), .val (.int (0 : Int32)), .unset] [(.ref ra)])) rfl rfl (hb hby d12_22) _ ?_
      rw [len_of Sz301 Ng301]
      show Steps p.tables e below (T298.setTop (mkF m 23 #[.val (.ref a1), .val (.ref a2), .val (.int (0 : Int32)), .unset] [(.int (1 : Int32))])) _
      refine XS.aloadN X298.here hx rfl (hb hby d12_23) rfl rfl ?_
      show Steps p.tables e below (T298.setTop (mkF m 24 #[.val (.ref a1), .val (.ref a2), .val (.int (0 : Int32)), .unset] [(.ref a2), (.int (1 : Int32))])) _
      exact h)
  obtain ⟨T302, X302, e302, st302⟩ := getF X298 hx hZ hown (host := "") (Or.inl (hw _ (List.mem_of_getElem? (i := 17) rfl))) Via.refl e298 F2 (g := (mkF m 24 #[.val (.ref a1), .val (.ref a2), .val (.int (0 : Int32)), .unset] [(.ref a2), (.int (1 : Int32))])) rfl rfl (hb hby d12_24)
  have k304 : Rch p e below S0 T302 (mkF m 27 #[.val (.ref a1), .val (.ref a2), .val (.int (0 : Int32)), .unset] [(.ref rb), (.int (1 : Int32))]) := fun t h => k303 t (st302 t h)
  obtain ⟨cl305, Ar305, q305, Sz305, Ng305, Hs305, G305⟩ := id Vb
  have k306 : Rch p e below S0 T302 (mkF m 28 #[.val (.ref a1), .val (.ref a2), .val (.int (0 : Int32)), .unset] [(.int (1 : Int32)), (.int (1 : Int32))]) := fun t h => k304 t (by
      show Steps p.tables e below (T302.setTop (mkF m 27 #[.val (.ref a1), .val (.ref a2), .val (.int (0 : Int32)), .unset] [(.ref rb), (.int (1 : Int32))])) _
      refine X302.arraylength hx (by rw [e302]; exact Ar305.1) (State.isArrayOf_alike hZ.alike Ar305.2.1) (g := (mkF m 27 #[.val (.ref a1), .val (.ref a2), .val (.int (0 : Int32)), .unset] [(.ref rb), (.int (1 : Int32))])) rfl rfl (hb hby d12_27) _ ?_
      rw [len_of Sz305 Ng305]
      show Steps p.tables e below (T302.setTop (mkF m 28 #[.val (.ref a1), .val (.ref a2), .val (.int (0 : Int32)), .unset] [(.int (1 : Int32)), (.int (1 : Int32))])) _
      exact h)
  obtain ⟨_, _, ⟨T307, L307, kk307, n307⟩, -, X307, ⟨Lc307, hQ307, l307, y307, z307⟩, st307⟩ := Jvm.LawKit.callS X302 hx (y := (⟨"java/lang/Integer", "compare", "(II)I"⟩ : MethodName)) hown (mvT hZ (hw _ (List.mem_of_getElem? (i := 70) rfl))) (mvT hZ (hw _ (List.mem_of_getElem? (i := 71) rfl))) (mvT hZ (hw _ (List.mem_of_getElem? (i := 72) rfl))) (mvT hZ (hw _ (List.mem_of_getElem? (i := 73) rfl))) (by decide) (backOf (W := 0) (rmICe l Z a0 hw [] (1 : Int32) (1 : Int32)  h0 n0 O0 rfl) hZ (hw _ (List.mem_of_getElem? (i := 73) rfl)) (hw _ (List.mem_of_getElem? (i := 72) rfl)) (by decide) (by decide)) (g := (mkF m 28 #[.val (.ref a1), .val (.ref a2), .val (.int (0 : Int32)), .unset] [(.int (1 : Int32)), (.int (1 : Int32))])) rfl (by rw [hml]; rfl) (argsL := [(.int (1 : Int32)), (.int (1 : Int32))]) (rest := []) (lenOf pd_12 rfl) rfl (by show 2 * 0 + _ ≤ _; exact Nat.le_of_eq rfl) (hb hby d12_28) (fun _ _ => ⟨rfl, e302, (by decide : 0 + 0 ≤ _), (by decide : 0 + 0 ≤ _)⟩)
  dsimp only [Pt.U, Pt.locs, Pt.cells, Pt.slots] at X307 l307 y307 z307 st307 hQ307
  subst l307 y307 z307
  obtain ⟨rfl, Nq307, hh307⟩ := hQ307
  have N307 := Fr.app N296 Nq307
  have k308 : Rch p e below S0 T307 (mkF m 31 #[.val (.ref a1), .val (.ref a2), .val (.int (0 : Int32)), .unset] [(.int (0 : Int32))]) := fun t h => k306 t (st307 t h)
  have k310 : Rch p e below S0 T307 (mkF m 39 #[.val (.ref a1), .val (.ref a2), .val (.int (0 : Int32)), .val (.int (0 : Int32))] [(.ref a1)]) := fun t h => k308 t (by
      show Steps p.tables e below (T307.setTop (mkF m 31 #[.val (.ref a1), .val (.ref a2), .val (.int (0 : Int32)), .unset] [(.int (0 : Int32))])) _
      refine XS.istoreN X307.here hx rfl (hb hby d12_31) rfl (l' := #[.val (.ref a1), .val (.ref a2), .val (.int (0 : Int32)), .val (.int (0 : Int32))]) rfl ?_
      show Steps p.tables e below (T307.setTop (mkF m 32 #[.val (.ref a1), .val (.ref a2), .val (.int (0 : Int32)), .val (.int (0 : Int32))] [])) _
      refine XS.iloadN X307.here hx rfl (hb hby d12_32) rfl ?_
      show Steps p.tables e below (T307.setTop (mkF m 33 #[.val (.ref a1), .val (.ref a2), .val (.int (0 : Int32)), .val (.int (0 : Int32))] [(.int (0 : Int32))])) _
      refine XS.ifYes X307.here hx rfl (pc0 := 33) (pc' := 38) rfl (hb hby d12_33) rfl ((if0 _ _).trans (teq (by decide : (0 : Int32) = (0 : Int32))).1) (by decide) (by decide) ?_
      show Steps p.tables e below (T307.setTop (mkF m 38 #[.val (.ref a1), .val (.ref a2), .val (.int (0 : Int32)), .val (.int (0 : Int32))] [])) _
      refine XS.aloadN X307.here hx rfl (hb hby d12_38) rfl rfl ?_
      show Steps p.tables e below (T307.setTop (mkF m 39 #[.val (.ref a1), .val (.ref a2), .val (.int (0 : Int32)), .val (.int (0 : Int32))] [(.ref a1)])) _
      exact h)
  obtain ⟨T309, X309, e309, st309⟩ := getF X307 hx hZ hown (host := "") (Or.inl (hw _ (List.mem_of_getElem? (i := 17) rfl))) Via.refl hh307 F1 (g := (mkF m 39 #[.val (.ref a1), .val (.ref a2), .val (.int (0 : Int32)), .val (.int (0 : Int32))] [(.ref a1)])) rfl rfl (hb hby d12_39)
  have k311 : Rch p e below S0 T309 (mkF m 42 #[.val (.ref a1), .val (.ref a2), .val (.int (0 : Int32)), .val (.int (0 : Int32))] [(.ref ra)]) := fun t h => k310 t (st309 t h)
  have k313 : Rch p e below S0 T309 (mkF m 43 #[.val (.ref a1), .val (.ref a2), .val (.int (0 : Int32)), .val (.int (0 : Int32))] [(.ref a2), (.ref ra)]) := fun t h => k311 t (by
      show Steps p.tables e below (T309.setTop (mkF m 42 #[.val (.ref a1), .val (.ref a2), .val (.int (0 : Int32)), .val (.int (0 : Int32))] [(.ref ra)])) _
      refine XS.aloadN X309.here hx rfl (hb hby d12_42) rfl rfl ?_
      show Steps p.tables e below (T309.setTop (mkF m 43 #[.val (.ref a1), .val (.ref a2), .val (.int (0 : Int32)), .val (.int (0 : Int32))] [(.ref a2), (.ref ra)])) _
      exact h)
  obtain ⟨T312, X312, e312, st312⟩ := getF X309 hx hZ hown (host := "") (Or.inl (hw _ (List.mem_of_getElem? (i := 17) rfl))) Via.refl e309 F2 (g := (mkF m 43 #[.val (.ref a1), .val (.ref a2), .val (.int (0 : Int32)), .val (.int (0 : Int32))] [(.ref a2), (.ref ra)])) rfl rfl (hb hby d12_43)
  have k314 : Rch p e below S0 T312 (mkF m 46 #[.val (.ref a1), .val (.ref a2), .val (.int (0 : Int32)), .val (.int (0 : Int32))] [(.ref rb), (.ref ra)]) := fun t h => k313 t (st312 t h)
  obtain ⟨_, _, ⟨T315, L315, kk315, n315⟩, -, X315, ⟨Lc315, hQ315, l315, y315, z315⟩, st315⟩ := Jvm.LawKit.callS X312 hx (y := (⟨"java/util/Arrays", "compare", "([I[I)I"⟩ : MethodName)) hown (mvT hZ (hw _ (List.mem_of_getElem? (i := 74) rfl))) (mvT hZ (hw _ (List.mem_of_getElem? (i := 75) rfl))) (mvT hZ (hw _ (List.mem_of_getElem? (i := 46) rfl))) (mvT hZ (hw _ (List.mem_of_getElem? (i := 76) rfl))) (by decide) (backOf (W := 0) (rmACg l Z a0 hw []  ra ka x rb kb y h0 n0 O0 Va Vb hne hq) hZ (hw _ (List.mem_of_getElem? (i := 76) rfl)) (hw _ (List.mem_of_getElem? (i := 46) rfl)) (by decide) (by decide)) (g := (mkF m 46 #[.val (.ref a1), .val (.ref a2), .val (.int (0 : Int32)), .val (.int (0 : Int32))] [(.ref rb), (.ref ra)])) rfl (by rw [hml]; rfl) (argsL := [(.ref ra), (.ref rb)]) (rest := []) (lenOf pd_13 rfl) rfl (by show 2 * 0 + _ ≤ _; exact Nat.le_of_eq rfl) (hb hby d12_46) (fun _ _ => ⟨rfl, e312, (by decide : 0 + 0 ≤ _), (by decide : 0 + 0 ≤ _)⟩)
  dsimp only [Pt.U, Pt.locs, Pt.cells, Pt.slots] at X315 l315 y315 z315 st315 hQ315
  subst l315 y315 z315
  obtain ⟨rfl, Nq315, hh315⟩ := hQ315
  have N315 := Fr.app N307 Nq315
  have k316 : Rch p e below S0 T315 (mkF m 49 #[.val (.ref a1), .val (.ref a2), .val (.int (0 : Int32)), .val (.int (0 : Int32))] [(.int (1 : Int32))]) := fun t h => k314 t (st315 t h)
  obtain ⟨fs, hr, hrun, hended, hW, hsame⟩ := X315.leave (v := (some (.int (1 : Int32)))) (fun h => by rw [Bd.returns] at h; cases h)
  refine ⟨_, _, ?_, hrun, hended, _, _, rfl, ?_, ⟨_, rfl⟩, hW, hsame.mono (by decide) (by decide)⟩
  · rw [← hS0]
    refine k316 _ ?_
    show Steps p.tables e below (T315.setTop (mkF m 49 #[.val (.ref a1), .val (.ref a2), .val (.int (0 : Int32)), .val (.int (0 : Int32))] [(.int (1 : Int32))])) _
    exact retI X315 hx Bd.returns (hb hby d12_49) hr
  · show Q_rmCTg Z  h0 n0 _ T315.heap _
    rw [hh315]
    exact ⟨rfl, N315, rfl⟩
def Q_rmGl (Z : State)  (h0 : Heap) (n0 : Nat) (v : Option Value) (h : Heap) (L : List Loc) : Prop := v = some (.int (-1 : Int32)) ∧ Fr n0 L ∧ h = h0
theorem ef_18 (m : MethodId) (x0 : Int32) : entryFrame m #[(.int x0)] 1 = mkF m 0 #[.val (.int x0)] [] := by first | (simp [entryFrame, mkF, argsToLocals, Value.category]; done) | rfl
theorem pn_RankedPathAtPinLaw : plainName "com/example/lumenplan/lumenplan/network/RankedPathAtPinLaw" = true := by first | (simp [plainName, overriddenIn]; done) | decide +kernel
theorem d18_0 : decode method_2_code 0 = .ok (.iload_n 0, 1) := by decide +kernel
theorem d18_1 : decode method_2_code 1 = .ok (.ifCond .ge 5, 3) := by decide +kernel
theorem d18_4 : decode method_2_code 4 = .ok (.iconst (-1), 1) := by decide +kernel
theorem d18_5 : decode method_2_code 5 = .ok (.ireturn, 1) := by decide +kernel
set_option maxRecDepth 65536 in
set_option maxHeartbeats 40000000 in
theorem rmGl (l : Launch) (Z : State) (a0 : Array Value) (hw : ∀ d ∈ tables_1, d.before a0 Z = true) (ws : List Jvm.Cond)  (h0 : Heap) (n0 : Nat) (O0 : Old Z n0 h0) :
    MetFree l (⟨"com/example/lumenplan/lumenplan/network/RankedPathAtPinLaw", "sign", "(I)I"⟩ : MethodName) (head1 (Jvm.Cond.code (⟨"com/example/lumenplan/lumenplan/network/RankedPathAtPinLaw", "sign", "(I)I"⟩ : MethodName) method_2_code 1 (some .int) :: ws) ({ frames := 0, cells := 0, slots := 0, locals := 0 } : Room)) (fun a U => a = #[(.int (-1 : Int32))] ∧ Z.Warmed39 U.vm ∧ U.heap = h0) (fun _ _ _ _ _ => True) (fun _ U o U' => ∃ v L, o = .returned v ∧ Q_rmGl Z  h0 n0 v U'.heap L ∧ FrameEnd U o U' L ({ frames := 0, cells := 0, slots := 0, locals := 0 } : Room).cells ({ frames := 0, cells := 0, slots := 0, locals := 0 } : Room).slots) := by
  refine MetFree.of_bodySF (plainFor_of_name pn_RankedPathAtPinLaw) hisR ?_
  intro p e s m args below meth c s₁ Bd hml0 hP hK
  obtain ⟨rfl, hZ, hh⟩ := hP
  have hx := Bd.exec
  have hby := Bd.bytes
  have hml : c.maxLocals = 1 := hml0
  have hown : s.vm.findClass "com/example/lumenplan/lumenplan/network/RankedPathAtPinLaw" = some m.cls := findClass_of_methodNamed Bd.named
  have hnm := (name_of_methodNamed Bd.named Bd.method).1
  have X0 : Stand p l e ({ frames := 0, cells := 0, slots := 0, locals := 0 } : Room) s m #[(.int (-1 : Int32))] below meth c s₁ [] 0 0 := Stand.of_body Bd
  have e0 : s₁.heap = h0 := by rw [← hh, Bd.state]; rfl
  have N0 := Fr.nil n0
  obtain ⟨S0, hS0⟩ : ∃ z, z = s₁.setTop (entryFrame m #[(.int (-1 : Int32))] 1) := ⟨_, rfl⟩
  have k0 : Rch p e below S0 s₁ (mkF m 0 #[.val (.int (-1 : Int32))] []) := fun t k => hS0 ▸ castTop (ef_18 m (-1 : Int32)) k
  have k317 : Rch p e below S0 s₁ (mkF m 5 #[.val (.int (-1 : Int32))] [(.int (-1 : Int32))]) := fun t h => k0 t (by
      show Steps p.tables e below (s₁.setTop (mkF m 0 #[.val (.int (-1 : Int32))] [])) _
      refine XS.iloadN X0.here hx rfl (hb hby d18_0) rfl ?_
      show Steps p.tables e below (s₁.setTop (mkF m 1 #[.val (.int (-1 : Int32))] [(.int (-1 : Int32))])) _
      refine XS.ifNo X0.here hx rfl (hb hby d18_1) rfl ((if0 _ _).trans (tlt (by decide : (-1 : Int32) < (0 : Int32))).2.1) ?_
      show Steps p.tables e below (s₁.setTop (mkF m 4 #[.val (.int (-1 : Int32))] [])) _
      refine XS.iconst X0.here hx rfl (hb hby d18_4) ?_
      show Steps p.tables e below (s₁.setTop (mkF m 5 #[.val (.int (-1 : Int32))] [(.int (-1 : Int32))])) _
      exact h)
  obtain ⟨fs, hr, hrun, hended, hW, hsame⟩ := X0.leave (v := (some (.int (-1 : Int32)))) (fun h => by rw [Bd.returns] at h; cases h)
  refine ⟨_, _, ?_, hrun, hended, _, _, rfl, ?_, ⟨_, rfl⟩, hW, hsame.mono (by decide) (by decide)⟩
  · rw [← hS0]
    refine k317 _ ?_
    show Steps p.tables e below (s₁.setTop (mkF m 5 #[.val (.int (-1 : Int32))] [(.int (-1 : Int32))])) _
    exact retI X0 hx Bd.returns (hb hby d18_5) hr
  · show Q_rmGl Z  h0 n0 _ s₁.heap _
    rw [e0]
    exact ⟨rfl, N0, rfl⟩
def Q_rmGe (Z : State)  (h0 : Heap) (n0 : Nat) (v : Option Value) (h : Heap) (L : List Loc) : Prop := v = some (.int (0 : Int32)) ∧ Fr n0 L ∧ h = h0
theorem d18_6 : decode method_2_code 6 = .ok (.iload_n 0, 1) := by decide +kernel
theorem d18_7 : decode method_2_code 7 = .ok (.ifCond .le 5, 3) := by decide +kernel
theorem d18_12 : decode method_2_code 12 = .ok (.iconst 0, 1) := by decide +kernel
theorem d18_13 : decode method_2_code 13 = .ok (.ireturn, 1) := by decide +kernel
set_option maxRecDepth 65536 in
set_option maxHeartbeats 40000000 in
theorem rmGe (l : Launch) (Z : State) (a0 : Array Value) (hw : ∀ d ∈ tables_1, d.before a0 Z = true) (ws : List Jvm.Cond)  (h0 : Heap) (n0 : Nat) (O0 : Old Z n0 h0) :
    MetFree l (⟨"com/example/lumenplan/lumenplan/network/RankedPathAtPinLaw", "sign", "(I)I"⟩ : MethodName) (head1 (Jvm.Cond.code (⟨"com/example/lumenplan/lumenplan/network/RankedPathAtPinLaw", "sign", "(I)I"⟩ : MethodName) method_2_code 1 (some .int) :: ws) ({ frames := 0, cells := 0, slots := 0, locals := 0 } : Room)) (fun a U => a = #[(.int (0 : Int32))] ∧ Z.Warmed39 U.vm ∧ U.heap = h0) (fun _ _ _ _ _ => True) (fun _ U o U' => ∃ v L, o = .returned v ∧ Q_rmGe Z  h0 n0 v U'.heap L ∧ FrameEnd U o U' L ({ frames := 0, cells := 0, slots := 0, locals := 0 } : Room).cells ({ frames := 0, cells := 0, slots := 0, locals := 0 } : Room).slots) := by
  refine MetFree.of_bodySF (plainFor_of_name pn_RankedPathAtPinLaw) hisR ?_
  intro p e s m args below meth c s₁ Bd hml0 hP hK
  obtain ⟨rfl, hZ, hh⟩ := hP
  have hx := Bd.exec
  have hby := Bd.bytes
  have hml : c.maxLocals = 1 := hml0
  have hown : s.vm.findClass "com/example/lumenplan/lumenplan/network/RankedPathAtPinLaw" = some m.cls := findClass_of_methodNamed Bd.named
  have hnm := (name_of_methodNamed Bd.named Bd.method).1
  have X0 : Stand p l e ({ frames := 0, cells := 0, slots := 0, locals := 0 } : Room) s m #[(.int (0 : Int32))] below meth c s₁ [] 0 0 := Stand.of_body Bd
  have e0 : s₁.heap = h0 := by rw [← hh, Bd.state]; rfl
  have N0 := Fr.nil n0
  obtain ⟨S0, hS0⟩ : ∃ z, z = s₁.setTop (entryFrame m #[(.int (0 : Int32))] 1) := ⟨_, rfl⟩
  have k0 : Rch p e below S0 s₁ (mkF m 0 #[.val (.int (0 : Int32))] []) := fun t k => hS0 ▸ castTop (ef_18 m (0 : Int32)) k
  have k318 : Rch p e below S0 s₁ (mkF m 13 #[.val (.int (0 : Int32))] [(.int (0 : Int32))]) := fun t h => k0 t (by
      show Steps p.tables e below (s₁.setTop (mkF m 0 #[.val (.int (0 : Int32))] [])) _
      refine XS.iloadN X0.here hx rfl (hb hby d18_0) rfl ?_
      show Steps p.tables e below (s₁.setTop (mkF m 1 #[.val (.int (0 : Int32))] [(.int (0 : Int32))])) _
      refine XS.ifYes X0.here hx rfl (pc0 := 1) (pc' := 6) rfl (hb hby d18_1) rfl ((if0 _ _).trans (flt (by decide : ¬ ((0 : Int32) < (0 : Int32)))).2.1) (by decide) (by decide) ?_
      show Steps p.tables e below (s₁.setTop (mkF m 6 #[.val (.int (0 : Int32))] [])) _
      refine XS.iloadN X0.here hx rfl (hb hby d18_6) rfl ?_
      show Steps p.tables e below (s₁.setTop (mkF m 7 #[.val (.int (0 : Int32))] [(.int (0 : Int32))])) _
      refine XS.ifYes X0.here hx rfl (pc0 := 7) (pc' := 12) rfl (hb hby d18_7) rfl ((if0 _ _).trans (flt (by decide : ¬ ((0 : Int32) < (0 : Int32)))).2.2.2) (by decide) (by decide) ?_
      show Steps p.tables e below (s₁.setTop (mkF m 12 #[.val (.int (0 : Int32))] [])) _
      refine XS.iconst X0.here hx rfl (hb hby d18_12) ?_
      show Steps p.tables e below (s₁.setTop (mkF m 13 #[.val (.int (0 : Int32))] [(.int (0 : Int32))])) _
      exact h)
  obtain ⟨fs, hr, hrun, hended, hW, hsame⟩ := X0.leave (v := (some (.int (0 : Int32)))) (fun h => by rw [Bd.returns] at h; cases h)
  refine ⟨_, _, ?_, hrun, hended, _, _, rfl, ?_, ⟨_, rfl⟩, hW, hsame.mono (by decide) (by decide)⟩
  · rw [← hS0]
    refine k318 _ ?_
    show Steps p.tables e below (s₁.setTop (mkF m 13 #[.val (.int (0 : Int32))] [(.int (0 : Int32))])) _
    exact retI X0 hx Bd.returns (hb hby d18_13) hr
  · show Q_rmGe Z  h0 n0 _ s₁.heap _
    rw [e0]
    exact ⟨rfl, N0, rfl⟩
def Q_rmGg (Z : State)  (h0 : Heap) (n0 : Nat) (v : Option Value) (h : Heap) (L : List Loc) : Prop := v = some (.int (1 : Int32)) ∧ Fr n0 L ∧ h = h0
theorem d18_10 : decode method_2_code 10 = .ok (.iconst 1, 1) := by decide +kernel
theorem d18_11 : decode method_2_code 11 = .ok (.ireturn, 1) := by decide +kernel
set_option maxRecDepth 65536 in
set_option maxHeartbeats 40000000 in
theorem rmGg (l : Launch) (Z : State) (a0 : Array Value) (hw : ∀ d ∈ tables_1, d.before a0 Z = true) (ws : List Jvm.Cond)  (h0 : Heap) (n0 : Nat) (O0 : Old Z n0 h0) :
    MetFree l (⟨"com/example/lumenplan/lumenplan/network/RankedPathAtPinLaw", "sign", "(I)I"⟩ : MethodName) (head1 (Jvm.Cond.code (⟨"com/example/lumenplan/lumenplan/network/RankedPathAtPinLaw", "sign", "(I)I"⟩ : MethodName) method_2_code 1 (some .int) :: ws) ({ frames := 0, cells := 0, slots := 0, locals := 0 } : Room)) (fun a U => a = #[(.int (1 : Int32))] ∧ Z.Warmed39 U.vm ∧ U.heap = h0) (fun _ _ _ _ _ => True) (fun _ U o U' => ∃ v L, o = .returned v ∧ Q_rmGg Z  h0 n0 v U'.heap L ∧ FrameEnd U o U' L ({ frames := 0, cells := 0, slots := 0, locals := 0 } : Room).cells ({ frames := 0, cells := 0, slots := 0, locals := 0 } : Room).slots) := by
  refine MetFree.of_bodySF (plainFor_of_name pn_RankedPathAtPinLaw) hisR ?_
  intro p e s m args below meth c s₁ Bd hml0 hP hK
  obtain ⟨rfl, hZ, hh⟩ := hP
  have hx := Bd.exec
  have hby := Bd.bytes
  have hml : c.maxLocals = 1 := hml0
  have hown : s.vm.findClass "com/example/lumenplan/lumenplan/network/RankedPathAtPinLaw" = some m.cls := findClass_of_methodNamed Bd.named
  have hnm := (name_of_methodNamed Bd.named Bd.method).1
  have X0 : Stand p l e ({ frames := 0, cells := 0, slots := 0, locals := 0 } : Room) s m #[(.int (1 : Int32))] below meth c s₁ [] 0 0 := Stand.of_body Bd
  have e0 : s₁.heap = h0 := by rw [← hh, Bd.state]; rfl
  have N0 := Fr.nil n0
  obtain ⟨S0, hS0⟩ : ∃ z, z = s₁.setTop (entryFrame m #[(.int (1 : Int32))] 1) := ⟨_, rfl⟩
  have k0 : Rch p e below S0 s₁ (mkF m 0 #[.val (.int (1 : Int32))] []) := fun t k => hS0 ▸ castTop (ef_18 m (1 : Int32)) k
  have k319 : Rch p e below S0 s₁ (mkF m 11 #[.val (.int (1 : Int32))] [(.int (1 : Int32))]) := fun t h => k0 t (by
      show Steps p.tables e below (s₁.setTop (mkF m 0 #[.val (.int (1 : Int32))] [])) _
      refine XS.iloadN X0.here hx rfl (hb hby d18_0) rfl ?_
      show Steps p.tables e below (s₁.setTop (mkF m 1 #[.val (.int (1 : Int32))] [(.int (1 : Int32))])) _
      refine XS.ifYes X0.here hx rfl (pc0 := 1) (pc' := 6) rfl (hb hby d18_1) rfl ((if0 _ _).trans (flt (by decide : ¬ ((1 : Int32) < (0 : Int32)))).2.1) (by decide) (by decide) ?_
      show Steps p.tables e below (s₁.setTop (mkF m 6 #[.val (.int (1 : Int32))] [])) _
      refine XS.iloadN X0.here hx rfl (hb hby d18_6) rfl ?_
      show Steps p.tables e below (s₁.setTop (mkF m 7 #[.val (.int (1 : Int32))] [(.int (1 : Int32))])) _
      refine XS.ifNo X0.here hx rfl (hb hby d18_7) rfl ((if0 _ _).trans (tlt (by decide : (0 : Int32) < (1 : Int32))).2.2.2) ?_
      show Steps p.tables e below (s₁.setTop (mkF m 10 #[.val (.int (1 : Int32))] [])) _
      refine XS.iconst X0.here hx rfl (hb hby d18_10) ?_
      show Steps p.tables e below (s₁.setTop (mkF m 11 #[.val (.int (1 : Int32))] [(.int (1 : Int32))])) _
      exact h)
  obtain ⟨fs, hr, hrun, hended, hW, hsame⟩ := X0.leave (v := (some (.int (1 : Int32)))) (fun h => by rw [Bd.returns] at h; cases h)
  refine ⟨_, _, ?_, hrun, hended, _, _, rfl, ?_, ⟨_, rfl⟩, hW, hsame.mono (by decide) (by decide)⟩
  · rw [← hS0]
    refine k319 _ ?_
    show Steps p.tables e below (s₁.setTop (mkF m 11 #[.val (.int (1 : Int32))] [(.int (1 : Int32))])) _
    exact retI X0 hx Bd.returns (hb hby d18_11) hr
  · show Q_rmGg Z  h0 n0 _ s₁.heap _
    rw [e0]
    exact ⟨rfl, N0, rfl⟩
def Q_rm0 (Z : State)  (h0 : Heap) (n0 : Nat) (v : Option Value) (h : Heap) (L : List Loc) : Prop := v = some (.int (1 : Int32)) ∧ Fr n0 L
theorem ef_0 (m : MethodId) (x0 : Int32) (x1 : Int32) (x2 : Int32) : entryFrame m #[(.int x0), (.int x1), (.int x2)] maxLocals = mkF m 0 #[.val (.int x0), .val (.int x1), .val (.int x2), .unset, .unset, .unset, .unset] [] := by first | (simp [entryFrame, mkF, argsToLocals, Value.category, maxLocals]; done) | rfl
theorem pd_0 : parseMethodDescriptor "(I)Lcom/example/lumenplan/lumenplan/network/RankedPath;" = some ⟨[.int], some (.object "com/example/lumenplan/lumenplan/network/RankedPath")⟩ := by decide +kernel
theorem pd_3 : parseMethodDescriptor "()I" = some ⟨[], some .int⟩ := by decide +kernel
theorem pd_4 : parseMethodDescriptor "(I)I" = some ⟨[.int], some .int⟩ := by decide +kernel
theorem pd_5 : parseMethodDescriptor "(I)Z" = some ⟨[.int], some .boolean⟩ := by decide +kernel
theorem pd_6 : parseMethodDescriptor "(Lcom/example/lumenplan/lumenplan/network/RankedPath;)Z" = some ⟨[(.object "com/example/lumenplan/lumenplan/network/RankedPath")], some .boolean⟩ := by decide +kernel
theorem pd_10 : parseMethodDescriptor "(Lcom/example/lumenplan/lumenplan/network/RankedPath;)I" = some ⟨[(.object "com/example/lumenplan/lumenplan/network/RankedPath")], some .int⟩ := by decide +kernel
set_option maxRecDepth 65536 in
set_option maxHeartbeats 40000000 in
theorem rm0 (l : Launch) (Z : State) (a0 : Array Value) (hw : ∀ d ∈ tables_1, d.before a0 Z = true) (ws : List Jvm.Cond) (p1 : Int32) (p2 : Int32) (p3 : Int32) (wZ : Addr) (h0 : Heap) (n0 : Nat) (O0 : Old Z n0 h0) (SZ : Sta Z Z.heap "java/math/BigDecimal" "ZERO" "Ljava/math/BigDecimal;" (.ref wZ)) (EZ : Exa Z Z.heap wZ "java/math/BigDecimal") (FSc : Fld Z Z.heap wZ "java/math/BigDecimal" "scale" "I" (.int (0 : Int32))) (FIc : Fld Z Z.heap wZ "java/math/BigDecimal" "intCompact" "J" (.long (0 : Int64))) :
    MetFree l x (head1 (Jvm.Cond.code x code maxLocals ret :: ws) room_1) (fun a U => a = #[(.int p1), (.int p2), (.int p3)] ∧ Z.Warmed39 U.vm ∧ U.heap = h0) (fun _ _ _ _ _ => True) (fun _ U o U' => ∃ v L, o = .returned v ∧ Q_rm0 Z  h0 n0 v U'.heap L ∧ FrameEnd U o U' L room_1.cells room_1.slots) := by
  refine MetFree.of_bodySF (plainFor_of_name pn_RankedPathAtPinLaw) hisR ?_
  intro p e s m args below meth c s₁ Bd hml0 hP hK
  obtain ⟨rfl, hZ, hh⟩ := hP
  have hx := Bd.exec
  have hby := Bd.bytes
  have hml : c.maxLocals = 7 := hml0
  have hown : s.vm.findClass "com/example/lumenplan/lumenplan/network/RankedPathAtPinLaw" = some m.cls := findClass_of_methodNamed Bd.named
  have hnm := (name_of_methodNamed Bd.named Bd.method).1
  have X0 : Stand p l e room_1 s m #[(.int p1), (.int p2), (.int p3)] below meth c s₁ [] 0 0 := Stand.of_body Bd
  have e0 : s₁.heap = h0 := by rw [← hh, Bd.state]; rfl
  have N0 := Fr.nil n0
  obtain ⟨S0, hS0⟩ : ∃ z, z = s₁.setTop (entryFrame m #[(.int p1), (.int p2), (.int p3)] maxLocals) := ⟨_, rfl⟩
  have k0 : Rch p e below S0 s₁ (mkF m 0 #[.val (.int p1), .val (.int p2), .val (.int p3), .unset, .unset, .unset, .unset] []) := fun t k => hS0 ▸ castTop (ef_0 m p1 p2 p3) k
  by_cases hf : p3 &&& 1 = 0
  · have k320 : Rch p e below S0 s₁ (mkF m 11 #[.val (.int p1), .val (.int p2), .val (.int p3), .unset, .unset, .unset, .unset] [(.int p2)]) := fun t h => k0 t (by
        show Steps p.tables e below (s₁.setTop (mkF m 0 #[.val (.int p1), .val (.int p2), .val (.int p3), .unset, .unset, .unset, .unset] [])) _
        refine XS.iloadN X0.here hx rfl (hb hby at_0) rfl ?_
        show Steps p.tables e below (s₁.setTop (mkF m 1 #[.val (.int p1), .val (.int p2), .val (.int p3), .unset, .unset, .unset, .unset] [(.int p3)])) _
        refine XS.iconst X0.here hx rfl (hb hby at_1) ?_
        show Steps p.tables e below (s₁.setTop (mkF m 2 #[.val (.int p1), .val (.int p2), .val (.int p3), .unset, .unset, .unset, .unset] [(.int (1 : Int32)), (.int p3)])) _
        refine XS.iand X0.here hx rfl (hb hby at_2) rfl ?_
        show Steps p.tables e below (s₁.setTop (mkF m 3 #[.val (.int p1), .val (.int p2), .val (.int p3), .unset, .unset, .unset, .unset] [(.int (p3 &&& (1 : Int32)))])) _
        refine XS.ifYes X0.here hx rfl (pc0 := 3) (pc' := 10) rfl (hb hby at_3) rfl ((if0 _ _).trans (teq (hf : (p3 &&& (1 : Int32)) = (0 : Int32))).1) (by decide) (by decide) ?_
        show Steps p.tables e below (s₁.setTop (mkF m 10 #[.val (.int p1), .val (.int p2), .val (.int p3), .unset, .unset, .unset, .unset] [])) _
        refine XS.iloadN X0.here hx rfl (hb hby at_10) rfl ?_
        show Steps p.tables e below (s₁.setTop (mkF m 11 #[.val (.int p1), .val (.int p2), .val (.int p3), .unset, .unset, .unset, .unset] [(.int p2)])) _
        exact h)
    by_cases c1 : p1 < p2
    · have k354 : Rch p e below S0 s₁ (mkF m 13 #[.val (.int p1), .val (.int p2), .val (.int p3), .val (.int p2), .unset, .unset, .unset] [(.int p1)]) := fun t h => k320 t (by
          show Steps p.tables e below (s₁.setTop (mkF m 11 #[.val (.int p1), .val (.int p2), .val (.int p3), .unset, .unset, .unset, .unset] [(.int p2)])) _
          refine XS.istoreN X0.here hx rfl (hb hby at_11) rfl (l' := #[.val (.int p1), .val (.int p2), .val (.int p3), .val (.int p2), .unset, .unset, .unset]) rfl ?_
          show Steps p.tables e below (s₁.setTop (mkF m 12 #[.val (.int p1), .val (.int p2), .val (.int p3), .val (.int p2), .unset, .unset, .unset] [])) _
          refine XS.iloadN X0.here hx rfl (hb hby at_12) rfl ?_
          show Steps p.tables e below (s₁.setTop (mkF m 13 #[.val (.int p1), .val (.int p2), .val (.int p3), .val (.int p2), .unset, .unset, .unset] [(.int p1)])) _
          exact h)
      obtain ⟨_, _, ⟨T355, L355, kk355, n355⟩, -, X355, ⟨Lc355, hQ355, l355, y355, z355⟩, st355⟩ := Jvm.LawKit.callS X0 hx (y := (⟨"com/example/lumenplan/lumenplan/network/RankedPath", "at", "(I)Lcom/example/lumenplan/lumenplan/network/RankedPath;"⟩ : MethodName)) hown (mvT hZ (hw _ (List.mem_of_getElem? (i := 0) rfl))) (mvT hZ (hw _ (List.mem_of_getElem? (i := 1) rfl))) (mvT hZ (hw _ (List.mem_of_getElem? (i := 2) rfl))) (mvT hZ (hw _ (List.mem_of_getElem? (i := 3) rfl))) (by decide) (backOf (W := 0) (rmT l Z a0 hw [] p1 wZ h0 n0 O0 SZ) hZ (hw _ (List.mem_of_getElem? (i := 3) rfl)) (hw _ (List.mem_of_getElem? (i := 2) rfl)) (by decide) (by decide)) (g := (mkF m 13 #[.val (.int p1), .val (.int p2), .val (.int p3), .val (.int p2), .unset, .unset, .unset] [(.int p1)])) rfl (by rw [hml]; rfl) (argsL := [(.int p1)]) (rest := []) (lenOf pd_0 rfl) rfl (by show 2 * 0 + _ ≤ _; exact Nat.le_of_eq rfl) (hb hby at_13) (fun _ _ => ⟨rfl, e0, (by decide : 0 + 2 ≤ _), (by decide : 0 + 3 ≤ _)⟩)
      dsimp only [Pt.U, Pt.locs, Pt.cells, Pt.slots] at X355 l355 y355 z355 st355 hQ355
      subst l355 y355 z355
      obtain ⟨b355, d355, kd355, rfl, Nq355, E355, zb355, zd355, Eb355, Fk355, Fn355, Vd355⟩ := hQ355
      have N355 := Fr.app N0 Nq355
      have k356 : Rch p e below S0 T355 (mkF m 16 #[.val (.int p1), .val (.int p2), .val (.int p3), .val (.int p2), .unset, .unset, .unset] [(.ref b355)]) := fun t h => k354 t (st355 t h)
      have ge_b355 : n0 ≤ b355 := own_ge O0 zb355
      have ge_d355 : n0 ≤ d355 := own_ge O0 zd355
      have O357 := O0.ext E355
      have k358 : Rch p e below S0 T355 (mkF m 19 #[.val (.int p1), .val (.int p2), .val (.int p3), .val (.int p2), .val (.ref b355), .unset, .unset] [(.int p2)]) := fun t h => k356 t (by
          show Steps p.tables e below (T355.setTop (mkF m 16 #[.val (.int p1), .val (.int p2), .val (.int p3), .val (.int p2), .unset, .unset, .unset] [(.ref b355)])) _
          refine XS.astore X355.here hx rfl (hb hby at_16) rfl rfl (l' := #[.val (.int p1), .val (.int p2), .val (.int p3), .val (.int p2), .val (.ref b355), .unset, .unset]) rfl ?_
          show Steps p.tables e below (T355.setTop (mkF m 18 #[.val (.int p1), .val (.int p2), .val (.int p3), .val (.int p2), .val (.ref b355), .unset, .unset] [])) _
          refine XS.iloadN X355.here hx rfl (hb hby at_18) rfl ?_
          show Steps p.tables e below (T355.setTop (mkF m 19 #[.val (.int p1), .val (.int p2), .val (.int p3), .val (.int p2), .val (.ref b355), .unset, .unset] [(.int p2)])) _
          exact h)
      obtain ⟨_, _, ⟨T359, L359, kk359, n359⟩, -, X359, ⟨Lc359, hQ359, l359, y359, z359⟩, st359⟩ := Jvm.LawKit.callS X355 hx (y := (⟨"com/example/lumenplan/lumenplan/network/RankedPath", "at", "(I)Lcom/example/lumenplan/lumenplan/network/RankedPath;"⟩ : MethodName)) hown (mvT hZ (hw _ (List.mem_of_getElem? (i := 0) rfl))) (mvT hZ (hw _ (List.mem_of_getElem? (i := 1) rfl))) (mvT hZ (hw _ (List.mem_of_getElem? (i := 2) rfl))) (mvT hZ (hw _ (List.mem_of_getElem? (i := 3) rfl))) (by decide) (backOf (W := 0) (rmT l Z a0 hw [] p2 wZ T355.heap n0 O357 SZ) hZ (hw _ (List.mem_of_getElem? (i := 3) rfl)) (hw _ (List.mem_of_getElem? (i := 2) rfl)) (by decide) (by decide)) (g := (mkF m 19 #[.val (.int p1), .val (.int p2), .val (.int p3), .val (.int p2), .val (.ref b355), .unset, .unset] [(.int p2)])) rfl (by rw [hml]; rfl) (argsL := [(.int p2)]) (rest := []) (lenOf pd_0 rfl) rfl (by show 2 * 0 + _ ≤ _; exact Nat.le_of_eq rfl) (hb hby at_19) (fun _ _ => ⟨rfl, rfl, (by decide : 2 + 2 ≤ _), (by decide : 3 + 3 ≤ _)⟩)
      dsimp only [Pt.U, Pt.locs, Pt.cells, Pt.slots] at X359 l359 y359 z359 st359 hQ359
      subst l359 y359 z359
      obtain ⟨b359, d359, kd359, rfl, Nq359, E359, zb359, zd359, Eb359, Fk359, Fn359, Vd359⟩ := hQ359
      have N359 := Fr.app N355 Nq359
      have k360 : Rch p e below S0 T359 (mkF m 22 #[.val (.int p1), .val (.int p2), .val (.int p3), .val (.int p2), .val (.ref b355), .unset, .unset] [(.ref b359)]) := fun t h => k358 t (st359 t h)
      have ne_b355_b359 : b355 ≠ b359 := own_ne Eb355.lt zb359
      have ne_d355_b359 : d355 ≠ b359 := own_ne Vd355.lt zb359
      have ge_b359 : n0 ≤ b359 := own_ge O357 zb359
      have ne_b355_d359 : b355 ≠ d359 := own_ne Eb355.lt zd359
      have ne_d355_d359 : d355 ≠ d359 := own_ne Vd355.lt zd359
      have ge_d359 : n0 ≤ d359 := own_ge O357 zd359
      have O361 := O357.ext E359
      replace Eb355 := Eb355.ext E359
      replace Fk355 := Fk355.ext E359
      replace Fn355 := Fn355.ext E359
      replace Vd355 := Vd355.ext E359
      have k362 : Rch p e below S0 T359 (mkF m 26 #[.val (.int p1), .val (.int p2), .val (.int p3), .val (.int p2), .val (.ref b355), .val (.ref b359), .unset] [(.ref b355)]) := fun t h => k360 t (by
          show Steps p.tables e below (T359.setTop (mkF m 22 #[.val (.int p1), .val (.int p2), .val (.int p3), .val (.int p2), .val (.ref b355), .unset, .unset] [(.ref b359)])) _
          refine XS.astore X359.here hx rfl (hb hby at_22) rfl rfl (l' := #[.val (.int p1), .val (.int p2), .val (.int p3), .val (.int p2), .val (.ref b355), .val (.ref b359), .unset]) rfl ?_
          show Steps p.tables e below (T359.setTop (mkF m 24 #[.val (.int p1), .val (.int p2), .val (.int p3), .val (.int p2), .val (.ref b355), .val (.ref b359), .unset] [])) _
          refine XS.aload X359.here hx rfl (hb hby at_24) rfl rfl ?_
          show Steps p.tables e below (T359.setTop (mkF m 26 #[.val (.int p1), .val (.int p2), .val (.int p3), .val (.int p2), .val (.ref b355), .val (.ref b359), .unset] [(.ref b355)])) _
          exact h)
      obtain ⟨cq363, kq363, q363a, q363b, q363c⟩ := isOf hZ rfl Eb355
      obtain ⟨_, _, ⟨T363, L363, kk363, n363⟩, -, X363, ⟨Lc363, hQ363, l363, y363, z363⟩, st363⟩ := X359.virtualBack hx (y := (⟨"com/example/lumenplan/lumenplan/network/RankedPath", "size", "()I"⟩ : MethodName)) (z := (⟨"com/example/lumenplan/lumenplan/network/RankedPath", "size", "()I"⟩ : MethodName)) hown (mvT hZ (hw _ (List.mem_of_getElem? (i := 19) rfl))) (mvT hZ (hw _ (List.mem_of_getElem? (i := 20) rfl))) (notFace_of_selects (args := #[]) (mvT hZ (hw _ (List.mem_of_getElem? (i := 22) rfl)))) (mvT hZ (hw _ (List.mem_of_getElem? (i := 22) rfl))) (mvT hZ (hw _ (List.mem_of_getElem? (i := 21) rfl))) (by decide) (backOf (W := 0) (rmSz l Z a0 hw [] b355 d355 kd355 p1 T359.heap n0 O361 Fn355 Vd355) hZ (hw _ (List.mem_of_getElem? (i := 23) rfl)) (hw _ (List.mem_of_getElem? (i := 2) rfl)) (by decide) (by decide)) q363a q363c (g := (mkF m 26 #[.val (.int p1), .val (.int p2), .val (.int p3), .val (.int p2), .val (.ref b355), .val (.ref b359), .unset] [(.ref b355)])) rfl (by rw [hml]; rfl) (Steps.refl _) (argsL := []) (rest := []) (lenOf pd_3 rfl) rfl (by show 2 * 0 + _ ≤ _; exact Nat.le_of_eq rfl) (hb hby at_26) (fun _ _ => ⟨rfl, rfl, (by decide : 4 + 0 ≤ _), (by decide : 6 + 0 ≤ _)⟩)
      dsimp only [Pt.U, Pt.locs, Pt.cells, Pt.slots] at X363 l363 y363 z363 st363 hQ363
      subst l363 y363 z363
      obtain ⟨rfl, Nq363, hh363⟩ := hQ363
      have N363 := Fr.app N359 Nq363
      have k364 : Rch p e below S0 T363 (mkF m 29 #[.val (.int p1), .val (.int p2), .val (.int p3), .val (.int p2), .val (.ref b355), .val (.ref b359), .unset] [(.int (1 : Int32))]) := fun t h => k362 t (st363.trans h)
      have k365 : Rch p e below S0 T363 (mkF m 38 #[.val (.int p1), .val (.int p2), .val (.int p3), .val (.int p2), .val (.ref b355), .val (.ref b359), .unset] [(.int (0 : Int32)), (.ref b355)]) := fun t h => k364 t (by
          show Steps p.tables e below (T363.setTop (mkF m 29 #[.val (.int p1), .val (.int p2), .val (.int p3), .val (.int p2), .val (.ref b355), .val (.ref b359), .unset] [(.int (1 : Int32))])) _
          refine XS.iconst X363.here hx rfl (hb hby at_29) ?_
          show Steps p.tables e below (T363.setTop (mkF m 30 #[.val (.int p1), .val (.int p2), .val (.int p3), .val (.int p2), .val (.ref b355), .val (.ref b359), .unset] [(.int (1 : Int32)), (.int (1 : Int32))])) _
          refine XS.icmpYes X363.here hx rfl (pc0 := 30) (pc' := 35) rfl (hb hby at_30) rfl (teq (by decide : (1 : Int32) = (1 : Int32))).1 (by decide) (by decide) ?_
          show Steps p.tables e below (T363.setTop (mkF m 35 #[.val (.int p1), .val (.int p2), .val (.int p3), .val (.int p2), .val (.ref b355), .val (.ref b359), .unset] [])) _
          refine XS.aload X363.here hx rfl (hb hby at_35) rfl rfl ?_
          show Steps p.tables e below (T363.setTop (mkF m 37 #[.val (.int p1), .val (.int p2), .val (.int p3), .val (.int p2), .val (.ref b355), .val (.ref b359), .unset] [(.ref b355)])) _
          refine XS.iconst X363.here hx rfl (hb hby at_37) ?_
          show Steps p.tables e below (T363.setTop (mkF m 38 #[.val (.int p1), .val (.int p2), .val (.int p3), .val (.int p2), .val (.ref b355), .val (.ref b359), .unset] [(.int (0 : Int32)), (.ref b355)])) _
          exact h)
      obtain ⟨cq366, kq366, q366a, q366b, q366c⟩ := isOf hZ hh363 Eb355
      obtain ⟨_, _, ⟨T366, L366, kk366, n366⟩, -, X366, ⟨Lc366, hQ366, l366, y366, z366⟩, st366⟩ := X363.virtualBack hx (y := (⟨"com/example/lumenplan/lumenplan/network/RankedPath", "node", "(I)I"⟩ : MethodName)) (z := (⟨"com/example/lumenplan/lumenplan/network/RankedPath", "node", "(I)I"⟩ : MethodName)) hown (mvT hZ (hw _ (List.mem_of_getElem? (i := 24) rfl))) (mvT hZ (hw _ (List.mem_of_getElem? (i := 25) rfl))) (notFace_of_selects (args := #[]) (mvT hZ (hw _ (List.mem_of_getElem? (i := 27) rfl)))) (mvT hZ (hw _ (List.mem_of_getElem? (i := 27) rfl))) (mvT hZ (hw _ (List.mem_of_getElem? (i := 26) rfl))) (by decide) (backOf (W := 0) (rmNd l Z a0 hw [] b355 d355 kd355 p1 T359.heap n0 O361 Fn355 Vd355) hZ (hw _ (List.mem_of_getElem? (i := 28) rfl)) (hw _ (List.mem_of_getElem? (i := 2) rfl)) (by decide) (by decide)) q366a q366c (g := (mkF m 38 #[.val (.int p1), .val (.int p2), .val (.int p3), .val (.int p2), .val (.ref b355), .val (.ref b359), .unset] [(.int (0 : Int32)), (.ref b355)])) rfl (by rw [hml]; rfl) (Steps.refl _) (argsL := [(.int (0 : Int32))]) (rest := []) (lenOf pd_4 rfl) rfl (by show 2 * 0 + _ ≤ _; exact Nat.le_of_eq rfl) (hb hby at_38) (fun _ _ => ⟨rfl, hh363, (by decide : 4 + 0 ≤ _), (by decide : 6 + 0 ≤ _)⟩)
      dsimp only [Pt.U, Pt.locs, Pt.cells, Pt.slots] at X366 l366 y366 z366 st366 hQ366
      subst l366 y366 z366
      obtain ⟨rfl, Nq366, hh366⟩ := hQ366
      have N366 := Fr.app N363 Nq366
      have k367 : Rch p e below S0 T366 (mkF m 41 #[.val (.int p1), .val (.int p2), .val (.int p3), .val (.int p2), .val (.ref b355), .val (.ref b359), .unset] [(.int p1)]) := fun t h => k365 t (st366.trans h)
      have k368 : Rch p e below S0 T366 (mkF m 49 #[.val (.int p1), .val (.int p2), .val (.int p3), .val (.int p2), .val (.ref b355), .val (.ref b359), .unset] [(.ref b355)]) := fun t h => k367 t (by
          show Steps p.tables e below (T366.setTop (mkF m 41 #[.val (.int p1), .val (.int p2), .val (.int p3), .val (.int p2), .val (.ref b355), .val (.ref b359), .unset] [(.int p1)])) _
          refine XS.iloadN X366.here hx rfl (hb hby at_41) rfl ?_
          show Steps p.tables e below (T366.setTop (mkF m 42 #[.val (.int p1), .val (.int p2), .val (.int p3), .val (.int p2), .val (.ref b355), .val (.ref b359), .unset] [(.int p1), (.int p1)])) _
          refine XS.icmpYes X366.here hx rfl (pc0 := 42) (pc' := 47) rfl (hb hby at_42) rfl (teq (rfl : p1 = p1)).1 (by decide) (by decide) ?_
          show Steps p.tables e below (T366.setTop (mkF m 47 #[.val (.int p1), .val (.int p2), .val (.int p3), .val (.int p2), .val (.ref b355), .val (.ref b359), .unset] [])) _
          refine XS.aload X366.here hx rfl (hb hby at_47) rfl rfl ?_
          show Steps p.tables e below (T366.setTop (mkF m 49 #[.val (.int p1), .val (.int p2), .val (.int p3), .val (.int p2), .val (.ref b355), .val (.ref b359), .unset] [(.ref b355)])) _
          exact h)
      obtain ⟨cq369, kq369, q369a, q369b, q369c⟩ := isOf hZ hh366 Eb355
      obtain ⟨_, _, ⟨T369, L369, kk369, n369⟩, -, X369, ⟨Lc369, hQ369, l369, y369, z369⟩, st369⟩ := X366.virtualBack hx (y := (⟨"com/example/lumenplan/lumenplan/network/RankedPath", "last", "()I"⟩ : MethodName)) (z := (⟨"com/example/lumenplan/lumenplan/network/RankedPath", "last", "()I"⟩ : MethodName)) hown (mvT hZ (hw _ (List.mem_of_getElem? (i := 29) rfl))) (mvT hZ (hw _ (List.mem_of_getElem? (i := 30) rfl))) (notFace_of_selects (args := #[]) (mvT hZ (hw _ (List.mem_of_getElem? (i := 32) rfl)))) (mvT hZ (hw _ (List.mem_of_getElem? (i := 32) rfl))) (mvT hZ (hw _ (List.mem_of_getElem? (i := 31) rfl))) (by decide) (backOf (W := 0) (rmLa l Z a0 hw [] b355 d355 kd355 p1 T359.heap n0 O361 Fn355 Vd355) hZ (hw _ (List.mem_of_getElem? (i := 33) rfl)) (hw _ (List.mem_of_getElem? (i := 2) rfl)) (by decide) (by decide)) q369a q369c (g := (mkF m 49 #[.val (.int p1), .val (.int p2), .val (.int p3), .val (.int p2), .val (.ref b355), .val (.ref b359), .unset] [(.ref b355)])) rfl (by rw [hml]; rfl) (Steps.refl _) (argsL := []) (rest := []) (lenOf pd_3 rfl) rfl (by show 2 * 0 + _ ≤ _; exact Nat.le_of_eq rfl) (hb hby at_49) (fun _ _ => ⟨rfl, hh366, (by decide : 4 + 0 ≤ _), (by decide : 6 + 0 ≤ _)⟩)
      dsimp only [Pt.U, Pt.locs, Pt.cells, Pt.slots] at X369 l369 y369 z369 st369 hQ369
      subst l369 y369 z369
      obtain ⟨rfl, Nq369, hh369⟩ := hQ369
      have N369 := Fr.app N366 Nq369
      have k370 : Rch p e below S0 T369 (mkF m 52 #[.val (.int p1), .val (.int p2), .val (.int p3), .val (.int p2), .val (.ref b355), .val (.ref b359), .unset] [(.int p1)]) := fun t h => k368 t (st369.trans h)
      have k371 : Rch p e below S0 T369 (mkF m 61 #[.val (.int p1), .val (.int p2), .val (.int p3), .val (.int p2), .val (.ref b355), .val (.ref b359), .unset] [(.int p1), (.ref b355)]) := fun t h => k370 t (by
          show Steps p.tables e below (T369.setTop (mkF m 52 #[.val (.int p1), .val (.int p2), .val (.int p3), .val (.int p2), .val (.ref b355), .val (.ref b359), .unset] [(.int p1)])) _
          refine XS.iloadN X369.here hx rfl (hb hby at_52) rfl ?_
          show Steps p.tables e below (T369.setTop (mkF m 53 #[.val (.int p1), .val (.int p2), .val (.int p3), .val (.int p2), .val (.ref b355), .val (.ref b359), .unset] [(.int p1), (.int p1)])) _
          refine XS.icmpYes X369.here hx rfl (pc0 := 53) (pc' := 58) rfl (hb hby at_53) rfl (teq (rfl : p1 = p1)).1 (by decide) (by decide) ?_
          show Steps p.tables e below (T369.setTop (mkF m 58 #[.val (.int p1), .val (.int p2), .val (.int p3), .val (.int p2), .val (.ref b355), .val (.ref b359), .unset] [])) _
          refine XS.aload X369.here hx rfl (hb hby at_58) rfl rfl ?_
          show Steps p.tables e below (T369.setTop (mkF m 60 #[.val (.int p1), .val (.int p2), .val (.int p3), .val (.int p2), .val (.ref b355), .val (.ref b359), .unset] [(.ref b355)])) _
          refine XS.iloadN X369.here hx rfl (hb hby at_60) rfl ?_
          show Steps p.tables e below (T369.setTop (mkF m 61 #[.val (.int p1), .val (.int p2), .val (.int p3), .val (.int p2), .val (.ref b355), .val (.ref b359), .unset] [(.int p1), (.ref b355)])) _
          exact h)
      obtain ⟨cq372, kq372, q372a, q372b, q372c⟩ := isOf hZ hh369 Eb355
      obtain ⟨_, _, ⟨T372, L372, kk372, n372⟩, -, X372, ⟨Lc372, hQ372, l372, y372, z372⟩, st372⟩ := X369.virtualBack hx (y := (⟨"com/example/lumenplan/lumenplan/network/RankedPath", "passes", "(I)Z"⟩ : MethodName)) (z := (⟨"com/example/lumenplan/lumenplan/network/RankedPath", "passes", "(I)Z"⟩ : MethodName)) hown (mvT hZ (hw _ (List.mem_of_getElem? (i := 34) rfl))) (mvT hZ (hw _ (List.mem_of_getElem? (i := 35) rfl))) (notFace_of_selects (args := #[]) (mvT hZ (hw _ (List.mem_of_getElem? (i := 37) rfl)))) (mvT hZ (hw _ (List.mem_of_getElem? (i := 37) rfl))) (mvT hZ (hw _ (List.mem_of_getElem? (i := 36) rfl))) (by decide) (backOf (W := 0) (rmPa_y l Z a0 hw [] b355 d355 kd355 p1 p1 T359.heap n0 O361 Fn355 Vd355 rfl) hZ (hw _ (List.mem_of_getElem? (i := 38) rfl)) (hw _ (List.mem_of_getElem? (i := 2) rfl)) (by decide) (by decide)) q372a q372c (g := (mkF m 61 #[.val (.int p1), .val (.int p2), .val (.int p3), .val (.int p2), .val (.ref b355), .val (.ref b359), .unset] [(.int p1), (.ref b355)])) rfl (by rw [hml]; rfl) (Steps.refl _) (argsL := [(.int p1)]) (rest := []) (lenOf pd_5 rfl) rfl (by show 2 * 0 + _ ≤ _; exact Nat.le_of_eq rfl) (hb hby at_61) (fun _ _ => ⟨rfl, hh369, (by decide : 4 + 0 ≤ _), (by decide : 6 + 0 ≤ _)⟩)
      dsimp only [Pt.U, Pt.locs, Pt.cells, Pt.slots] at X372 l372 y372 z372 st372 hQ372
      subst l372 y372 z372
      obtain ⟨rfl, Nq372, hh372⟩ := hQ372
      have N372 := Fr.app N369 Nq372
      have k373 : Rch p e below S0 T372 (mkF m 64 #[.val (.int p1), .val (.int p2), .val (.int p3), .val (.int p2), .val (.ref b355), .val (.ref b359), .unset] [(.int (1 : Int32))]) := fun t h => k371 t (st372.trans h)
      have k374 : Rch p e below S0 T372 (mkF m 72 #[.val (.int p1), .val (.int p2), .val (.int p3), .val (.int p2), .val (.ref b355), .val (.ref b359), .unset] [(.int p2), (.ref b355)]) := fun t h => k373 t (by
          show Steps p.tables e below (T372.setTop (mkF m 64 #[.val (.int p1), .val (.int p2), .val (.int p3), .val (.int p2), .val (.ref b355), .val (.ref b359), .unset] [(.int (1 : Int32))])) _
          refine XS.ifYes X372.here hx rfl (pc0 := 64) (pc' := 69) rfl (hb hby at_64) rfl ((if0 _ _).trans (feq (by decide : ¬ ((1 : Int32) = (0 : Int32)))).2) (by decide) (by decide) ?_
          show Steps p.tables e below (T372.setTop (mkF m 69 #[.val (.int p1), .val (.int p2), .val (.int p3), .val (.int p2), .val (.ref b355), .val (.ref b359), .unset] [])) _
          refine XS.aload X372.here hx rfl (hb hby at_69) rfl rfl ?_
          show Steps p.tables e below (T372.setTop (mkF m 71 #[.val (.int p1), .val (.int p2), .val (.int p3), .val (.int p2), .val (.ref b355), .val (.ref b359), .unset] [(.ref b355)])) _
          refine XS.iloadN X372.here hx rfl (hb hby at_71) rfl ?_
          show Steps p.tables e below (T372.setTop (mkF m 72 #[.val (.int p1), .val (.int p2), .val (.int p3), .val (.int p2), .val (.ref b355), .val (.ref b359), .unset] [(.int p2), (.ref b355)])) _
          exact h)
      obtain ⟨cq375, kq375, q375a, q375b, q375c⟩ := isOf hZ hh372 Eb355
      obtain ⟨_, _, ⟨T375, L375, kk375, n375⟩, -, X375, ⟨Lc375, hQ375, l375, y375, z375⟩, st375⟩ := X372.virtualBack hx (y := (⟨"com/example/lumenplan/lumenplan/network/RankedPath", "passes", "(I)Z"⟩ : MethodName)) (z := (⟨"com/example/lumenplan/lumenplan/network/RankedPath", "passes", "(I)Z"⟩ : MethodName)) hown (mvT hZ (hw _ (List.mem_of_getElem? (i := 34) rfl))) (mvT hZ (hw _ (List.mem_of_getElem? (i := 35) rfl))) (notFace_of_selects (args := #[]) (mvT hZ (hw _ (List.mem_of_getElem? (i := 37) rfl)))) (mvT hZ (hw _ (List.mem_of_getElem? (i := 37) rfl))) (mvT hZ (hw _ (List.mem_of_getElem? (i := 36) rfl))) (by decide) (backOf (W := 0) (rmPa_n l Z a0 hw [] b355 d355 kd355 p1 p2 T359.heap n0 O361 Fn355 Vd355 (fun q => by have h := c1; rw [q] at h; exact own_irr _ h)) hZ (hw _ (List.mem_of_getElem? (i := 38) rfl)) (hw _ (List.mem_of_getElem? (i := 2) rfl)) (by decide) (by decide)) q375a q375c (g := (mkF m 72 #[.val (.int p1), .val (.int p2), .val (.int p3), .val (.int p2), .val (.ref b355), .val (.ref b359), .unset] [(.int p2), (.ref b355)])) rfl (by rw [hml]; rfl) (Steps.refl _) (argsL := [(.int p2)]) (rest := []) (lenOf pd_5 rfl) rfl (by show 2 * 0 + _ ≤ _; exact Nat.le_of_eq rfl) (hb hby at_72) (fun _ _ => ⟨rfl, hh372, (by decide : 4 + 0 ≤ _), (by decide : 6 + 0 ≤ _)⟩)
      dsimp only [Pt.U, Pt.locs, Pt.cells, Pt.slots] at X375 l375 y375 z375 st375 hQ375
      subst l375 y375 z375
      obtain ⟨rfl, Nq375, hh375⟩ := hQ375
      have N375 := Fr.app N372 Nq375
      have k376 : Rch p e below S0 T375 (mkF m 75 #[.val (.int p1), .val (.int p2), .val (.int p3), .val (.int p2), .val (.ref b355), .val (.ref b359), .unset] [(.int (0 : Int32))]) := fun t h => k374 t (st375.trans h)
      have k377 : Rch p e below S0 T375 (mkF m 94 #[.val (.int p1), .val (.int p2), .val (.int p3), .val (.int p2), .val (.ref b355), .val (.ref b359), .unset] [(.ref b359), (.ref b355)]) := fun t h => k376 t (by
          show Steps p.tables e below (T375.setTop (mkF m 75 #[.val (.int p1), .val (.int p2), .val (.int p3), .val (.int p2), .val (.ref b355), .val (.ref b359), .unset] [(.int (0 : Int32))])) _
          refine XS.iloadN X375.here hx rfl (hb hby at_75) rfl ?_
          show Steps p.tables e below (T375.setTop (mkF m 76 #[.val (.int p1), .val (.int p2), .val (.int p3), .val (.int p2), .val (.ref b355), .val (.ref b359), .unset] [(.int p2), (.int (0 : Int32))])) _
          refine XS.iloadN X375.here hx rfl (hb hby at_76) rfl ?_
          show Steps p.tables e below (T375.setTop (mkF m 77 #[.val (.int p1), .val (.int p2), .val (.int p3), .val (.int p2), .val (.ref b355), .val (.ref b359), .unset] [(.int p1), (.int p2), (.int (0 : Int32))])) _
          refine XS.icmpYes X375.here hx rfl (pc0 := 77) (pc' := 84) rfl (hb hby at_77) rfl (feq ((fun q => (fun q => by have h := c1; rw [q] at h; exact own_irr _ h) q.symm) : ¬ (p2 = p1))).2 (by decide) (by decide) ?_
          show Steps p.tables e below (T375.setTop (mkF m 84 #[.val (.int p1), .val (.int p2), .val (.int p3), .val (.int p2), .val (.ref b355), .val (.ref b359), .unset] [(.int (0 : Int32))])) _
          refine XS.iconst X375.here hx rfl (hb hby at_84) ?_
          show Steps p.tables e below (T375.setTop (mkF m 85 #[.val (.int p1), .val (.int p2), .val (.int p3), .val (.int p2), .val (.ref b355), .val (.ref b359), .unset] [(.int (0 : Int32)), (.int (0 : Int32))])) _
          refine XS.icmpYes X375.here hx rfl (pc0 := 85) (pc' := 90) rfl (hb hby at_85) rfl (teq (by decide : (0 : Int32) = (0 : Int32))).1 (by decide) (by decide) ?_
          show Steps p.tables e below (T375.setTop (mkF m 90 #[.val (.int p1), .val (.int p2), .val (.int p3), .val (.int p2), .val (.ref b355), .val (.ref b359), .unset] [])) _
          refine XS.aload X375.here hx rfl (hb hby at_90) rfl rfl ?_
          show Steps p.tables e below (T375.setTop (mkF m 92 #[.val (.int p1), .val (.int p2), .val (.int p3), .val (.int p2), .val (.ref b355), .val (.ref b359), .unset] [(.ref b355)])) _
          refine XS.aload X375.here hx rfl (hb hby at_92) rfl rfl ?_
          show Steps p.tables e below (T375.setTop (mkF m 94 #[.val (.int p1), .val (.int p2), .val (.int p3), .val (.int p2), .val (.ref b355), .val (.ref b359), .unset] [(.ref b359), (.ref b355)])) _
          exact h)
      obtain ⟨cq378, kq378, q378a, q378b, q378c⟩ := isOf hZ hh375 Eb355
      obtain ⟨_, _, ⟨T378, L378, kk378, n378⟩, -, X378, ⟨Lc378, hQ378, l378, y378, z378⟩, st378⟩ := X375.virtualBack hx (y := (⟨"com/example/lumenplan/lumenplan/network/RankedPath", "startsWith", "(Lcom/example/lumenplan/lumenplan/network/RankedPath;)Z"⟩ : MethodName)) (z := (⟨"com/example/lumenplan/lumenplan/network/RankedPath", "startsWith", "(Lcom/example/lumenplan/lumenplan/network/RankedPath;)Z"⟩ : MethodName)) hown (mvT hZ (hw _ (List.mem_of_getElem? (i := 39) rfl))) (mvT hZ (hw _ (List.mem_of_getElem? (i := 40) rfl))) (notFace_of_selects (args := #[]) (mvT hZ (hw _ (List.mem_of_getElem? (i := 42) rfl)))) (mvT hZ (hw _ (List.mem_of_getElem? (i := 42) rfl))) (mvT hZ (hw _ (List.mem_of_getElem? (i := 41) rfl))) (by decide) (backOf (W := 0) (rmSWn l Z a0 hw [] b355 b359 d355 kd355 p1 d359 kd359 p2 T359.heap n0 O361 Fn355 Fn359 Vd355 Vd359 (fun q => by have h := c1; rw [q] at h; exact own_irr _ h)) hZ (hw _ (List.mem_of_getElem? (i := 43) rfl)) (hw _ (List.mem_of_getElem? (i := 2) rfl)) (by decide) (by decide)) q378a q378c (g := (mkF m 94 #[.val (.int p1), .val (.int p2), .val (.int p3), .val (.int p2), .val (.ref b355), .val (.ref b359), .unset] [(.ref b359), (.ref b355)])) rfl (by rw [hml]; rfl) (Steps.refl _) (argsL := [(.ref b359)]) (rest := []) (lenOf pd_6 rfl) rfl (by show 2 * 0 + _ ≤ _; exact Nat.le_of_eq rfl) (hb hby at_94) (fun _ _ => ⟨rfl, hh375, (by decide : 4 + 0 ≤ _), (by decide : 6 + 0 ≤ _)⟩)
      dsimp only [Pt.U, Pt.locs, Pt.cells, Pt.slots] at X378 l378 y378 z378 st378 hQ378
      subst l378 y378 z378
      obtain ⟨rfl, Nq378, hh378⟩ := hQ378
      have N378 := Fr.app N375 Nq378
      have k379 : Rch p e below S0 T378 (mkF m 97 #[.val (.int p1), .val (.int p2), .val (.int p3), .val (.int p2), .val (.ref b355), .val (.ref b359), .unset] [(.int (0 : Int32))]) := fun t h => k377 t (st378.trans h)
      have k380 : Rch p e below S0 T378 (mkF m 137 #[.val (.int p1), .val (.int p2), .val (.int p3), .val (.int p2), .val (.ref b355), .val (.ref b359), .val (.int (-1 : Int32))] [(.ref b359), (.ref b355)]) := fun t h => k379 t (by
          show Steps p.tables e below (T378.setTop (mkF m 97 #[.val (.int p1), .val (.int p2), .val (.int p3), .val (.int p2), .val (.ref b355), .val (.ref b359), .unset] [(.int (0 : Int32))])) _
          refine XS.iloadN X378.here hx rfl (hb hby at_97) rfl ?_
          show Steps p.tables e below (T378.setTop (mkF m 98 #[.val (.int p1), .val (.int p2), .val (.int p3), .val (.int p2), .val (.ref b355), .val (.ref b359), .unset] [(.int p2), (.int (0 : Int32))])) _
          refine XS.iloadN X378.here hx rfl (hb hby at_98) rfl ?_
          show Steps p.tables e below (T378.setTop (mkF m 99 #[.val (.int p1), .val (.int p2), .val (.int p3), .val (.int p2), .val (.ref b355), .val (.ref b359), .unset] [(.int p1), (.int p2), (.int (0 : Int32))])) _
          refine XS.icmpYes X378.here hx rfl (pc0 := 99) (pc' := 106) rfl (hb hby at_99) rfl (feq ((fun q => (fun q => by have h := c1; rw [q] at h; exact own_irr _ h) q.symm) : ¬ (p2 = p1))).2 (by decide) (by decide) ?_
          show Steps p.tables e below (T378.setTop (mkF m 106 #[.val (.int p1), .val (.int p2), .val (.int p3), .val (.int p2), .val (.ref b355), .val (.ref b359), .unset] [(.int (0 : Int32))])) _
          refine XS.iconst X378.here hx rfl (hb hby at_106) ?_
          show Steps p.tables e below (T378.setTop (mkF m 107 #[.val (.int p1), .val (.int p2), .val (.int p3), .val (.int p2), .val (.ref b355), .val (.ref b359), .unset] [(.int (0 : Int32)), (.int (0 : Int32))])) _
          refine XS.icmpYes X378.here hx rfl (pc0 := 107) (pc' := 112) rfl (hb hby at_107) rfl (teq (by decide : (0 : Int32) = (0 : Int32))).1 (by decide) (by decide) ?_
          show Steps p.tables e below (T378.setTop (mkF m 112 #[.val (.int p1), .val (.int p2), .val (.int p3), .val (.int p2), .val (.ref b355), .val (.ref b359), .unset] [])) _
          refine XS.iloadN X378.here hx rfl (hb hby at_112) rfl ?_
          show Steps p.tables e below (T378.setTop (mkF m 113 #[.val (.int p1), .val (.int p2), .val (.int p3), .val (.int p2), .val (.ref b355), .val (.ref b359), .unset] [(.int p1)])) _
          refine XS.iloadN X378.here hx rfl (hb hby at_113) rfl ?_
          show Steps p.tables e below (T378.setTop (mkF m 114 #[.val (.int p1), .val (.int p2), .val (.int p3), .val (.int p2), .val (.ref b355), .val (.ref b359), .unset] [(.int p2), (.int p1)])) _
          refine XS.icmpNo X378.here hx rfl (hb hby at_114) rfl (tlt (c1 : p1 < p2)).2.1 ?_
          show Steps p.tables e below (T378.setTop (mkF m 117 #[.val (.int p1), .val (.int p2), .val (.int p3), .val (.int p2), .val (.ref b355), .val (.ref b359), .unset] [])) _
          refine XS.iconst X378.here hx rfl (hb hby at_117) ?_
          show Steps p.tables e below (T378.setTop (mkF m 118 #[.val (.int p1), .val (.int p2), .val (.int p3), .val (.int p2), .val (.ref b355), .val (.ref b359), .unset] [(.int (-1 : Int32))])) _
          refine XS.goto X378.here hx rfl (pc0 := 118) (pc' := 131) rfl (hb hby at_118) (by decide) (by decide) ?_
          show Steps p.tables e below (T378.setTop (mkF m 131 #[.val (.int p1), .val (.int p2), .val (.int p3), .val (.int p2), .val (.ref b355), .val (.ref b359), .unset] [(.int (-1 : Int32))])) _
          refine XS.istore X378.here hx rfl (hb hby at_131) rfl (l' := #[.val (.int p1), .val (.int p2), .val (.int p3), .val (.int p2), .val (.ref b355), .val (.ref b359), .val (.int (-1 : Int32))]) rfl ?_
          show Steps p.tables e below (T378.setTop (mkF m 133 #[.val (.int p1), .val (.int p2), .val (.int p3), .val (.int p2), .val (.ref b355), .val (.ref b359), .val (.int (-1 : Int32))] [])) _
          refine XS.aload X378.here hx rfl (hb hby at_133) rfl rfl ?_
          show Steps p.tables e below (T378.setTop (mkF m 135 #[.val (.int p1), .val (.int p2), .val (.int p3), .val (.int p2), .val (.ref b355), .val (.ref b359), .val (.int (-1 : Int32))] [(.ref b355)])) _
          refine XS.aload X378.here hx rfl (hb hby at_135) rfl rfl ?_
          show Steps p.tables e below (T378.setTop (mkF m 137 #[.val (.int p1), .val (.int p2), .val (.int p3), .val (.int p2), .val (.ref b355), .val (.ref b359), .val (.int (-1 : Int32))] [(.ref b359), (.ref b355)])) _
          exact h)
      obtain ⟨cq381, kq381, q381a, q381b, q381c⟩ := isOf hZ hh378 Eb355
      obtain ⟨_, _, ⟨T381, L381, kk381, n381⟩, -, X381, ⟨Lc381, hQ381, l381, y381, z381⟩, st381⟩ := X378.virtualBack hx (y := (⟨"com/example/lumenplan/lumenplan/network/RankedPath", "compareTo", "(Lcom/example/lumenplan/lumenplan/network/RankedPath;)I"⟩ : MethodName)) (z := (⟨"com/example/lumenplan/lumenplan/network/RankedPath", "compareTo", "(Lcom/example/lumenplan/lumenplan/network/RankedPath;)I"⟩ : MethodName)) hown (mvT hZ (hw _ (List.mem_of_getElem? (i := 55) rfl))) (mvT hZ (hw _ (List.mem_of_getElem? (i := 56) rfl))) (notFace_of_selects (args := #[]) (mvT hZ (hw _ (List.mem_of_getElem? (i := 58) rfl)))) (mvT hZ (hw _ (List.mem_of_getElem? (i := 58) rfl))) (mvT hZ (hw _ (List.mem_of_getElem? (i := 57) rfl))) (by decide) (backOf (W := 0) (rmCTl l Z a0 hw [] b355 b359 d355 kd355 p1 d359 kd359 p2 wZ T359.heap n0 O361 EZ FSc FIc Fk355 Fk359 Fn355 Fn359 Vd355 Vd359 (fun q => ne_d355_d359 q) c1) hZ (hw _ (List.mem_of_getElem? (i := 59) rfl)) (hw _ (List.mem_of_getElem? (i := 2) rfl)) (by decide) (by decide)) q381a q381c (g := (mkF m 137 #[.val (.int p1), .val (.int p2), .val (.int p3), .val (.int p2), .val (.ref b355), .val (.ref b359), .val (.int (-1 : Int32))] [(.ref b359), (.ref b355)])) rfl (by rw [hml]; rfl) (Steps.refl _) (argsL := [(.ref b359)]) (rest := []) (lenOf pd_10 rfl) rfl (by show 2 * 0 + _ ≤ _; exact Nat.le_of_eq rfl) (hb hby at_137) (fun _ _ => ⟨rfl, hh378, (by decide : 4 + 0 ≤ _), (by decide : 6 + 0 ≤ _)⟩)
      dsimp only [Pt.U, Pt.locs, Pt.cells, Pt.slots] at X381 l381 y381 z381 st381 hQ381
      subst l381 y381 z381
      obtain ⟨rfl, Nq381, hh381⟩ := hQ381
      have N381 := Fr.app N378 Nq381
      have k382 : Rch p e below S0 T381 (mkF m 140 #[.val (.int p1), .val (.int p2), .val (.int p3), .val (.int p2), .val (.ref b355), .val (.ref b359), .val (.int (-1 : Int32))] [(.int (-1 : Int32))]) := fun t h => k380 t (st381.trans h)
      obtain ⟨_, _, ⟨T383, L383, kk383, n383⟩, -, X383, ⟨Lc383, hQ383, l383, y383, z383⟩, st383⟩ := Jvm.LawKit.callS X381 hx (y := (⟨"com/example/lumenplan/lumenplan/network/RankedPathAtPinLaw", "sign", "(I)I"⟩ : MethodName)) hown (mvT hZ (hw _ (List.mem_of_getElem? (i := 85) rfl))) (mvT hZ (hw _ (List.mem_of_getElem? (i := 86) rfl))) (mvT hZ (hw _ (List.mem_of_getElem? (i := 87) rfl))) (mvT hZ (hw _ (List.mem_of_getElem? (i := 88) rfl))) (by decide) (backOf (W := 0) (rmGl l Z a0 hw []   T359.heap n0 O361 ) hZ (hw _ (List.mem_of_getElem? (i := 88) rfl)) (hw _ (List.mem_of_getElem? (i := 87) rfl)) (by decide) (by decide)) (g := (mkF m 140 #[.val (.int p1), .val (.int p2), .val (.int p3), .val (.int p2), .val (.ref b355), .val (.ref b359), .val (.int (-1 : Int32))] [(.int (-1 : Int32))])) rfl (by rw [hml]; rfl) (argsL := [(.int (-1 : Int32))]) (rest := []) (lenOf pd_4 rfl) rfl (by show 2 * 0 + _ ≤ _; exact Nat.le_of_eq rfl) (hb hby at_140) (fun _ _ => ⟨rfl, hh381, (by decide : 4 + 0 ≤ _), (by decide : 6 + 0 ≤ _)⟩)
      dsimp only [Pt.U, Pt.locs, Pt.cells, Pt.slots] at X383 l383 y383 z383 st383 hQ383
      subst l383 y383 z383
      obtain ⟨rfl, Nq383, hh383⟩ := hQ383
      have N383 := Fr.app N381 Nq383
      have k384 : Rch p e below S0 T383 (mkF m 143 #[.val (.int p1), .val (.int p2), .val (.int p3), .val (.int p2), .val (.ref b355), .val (.ref b359), .val (.int (-1 : Int32))] [(.int (-1 : Int32))]) := fun t h => k382 t (st383 t h)
      have k385 : Rch p e below S0 T383 (mkF m 153 #[.val (.int p1), .val (.int p2), .val (.int p3), .val (.int p2), .val (.ref b355), .val (.ref b359), .val (.int (-1 : Int32))] [(.int (1 : Int32))]) := fun t h => k384 t (by
          show Steps p.tables e below (T383.setTop (mkF m 143 #[.val (.int p1), .val (.int p2), .val (.int p3), .val (.int p2), .val (.ref b355), .val (.ref b359), .val (.int (-1 : Int32))] [(.int (-1 : Int32))])) _
          refine XS.iload X383.here hx rfl (hb hby at_143) rfl ?_
          show Steps p.tables e below (T383.setTop (mkF m 145 #[.val (.int p1), .val (.int p2), .val (.int p3), .val (.int p2), .val (.ref b355), .val (.ref b359), .val (.int (-1 : Int32))] [(.int (-1 : Int32)), (.int (-1 : Int32))])) _
          refine XS.icmpNo X383.here hx rfl (hb hby at_145) rfl (teq (by decide : (-1 : Int32) = (-1 : Int32))).2 ?_
          show Steps p.tables e below (T383.setTop (mkF m 148 #[.val (.int p1), .val (.int p2), .val (.int p3), .val (.int p2), .val (.ref b355), .val (.ref b359), .val (.int (-1 : Int32))] [])) _
          refine XS.iconst X383.here hx rfl (hb hby at_148) ?_
          show Steps p.tables e below (T383.setTop (mkF m 149 #[.val (.int p1), .val (.int p2), .val (.int p3), .val (.int p2), .val (.ref b355), .val (.ref b359), .val (.int (-1 : Int32))] [(.int (1 : Int32))])) _
          refine XS.goto X383.here hx rfl (pc0 := 149) (pc' := 153) rfl (hb hby at_149) (by decide) (by decide) ?_
          show Steps p.tables e below (T383.setTop (mkF m 153 #[.val (.int p1), .val (.int p2), .val (.int p3), .val (.int p2), .val (.ref b355), .val (.ref b359), .val (.int (-1 : Int32))] [(.int (1 : Int32))])) _
          exact h)
      obtain ⟨fs, hr, hrun, hended, hW, hsame⟩ := X383.leave (v := (some (.int (1 : Int32)))) (fun h => by rw [Bd.returns] at h; cases h)
      refine ⟨_, _, ?_, hrun, hended, _, _, rfl, ?_, ⟨_, rfl⟩, hW, hsame.mono (by decide) (by decide)⟩
      · rw [← hS0]
        refine k385 _ ?_
        show Steps p.tables e below (T383.setTop (mkF m 153 #[.val (.int p1), .val (.int p2), .val (.int p3), .val (.int p2), .val (.ref b355), .val (.ref b359), .val (.int (-1 : Int32))] [(.int (1 : Int32))])) _
        exact retN X383 hx (t := .boolean) Bd.returns (by simp) (hb hby at_153) hr
      · show Q_rm0 Z  h0 n0 _ T383.heap _
        rw [hh383]
        exact ⟨rfl, N383⟩
    · by_cases c2 : p2 < p1
      · have k386 : Rch p e below S0 s₁ (mkF m 13 #[.val (.int p1), .val (.int p2), .val (.int p3), .val (.int p2), .unset, .unset, .unset] [(.int p1)]) := fun t h => k320 t (by
            show Steps p.tables e below (s₁.setTop (mkF m 11 #[.val (.int p1), .val (.int p2), .val (.int p3), .unset, .unset, .unset, .unset] [(.int p2)])) _
            refine XS.istoreN X0.here hx rfl (hb hby at_11) rfl (l' := #[.val (.int p1), .val (.int p2), .val (.int p3), .val (.int p2), .unset, .unset, .unset]) rfl ?_
            show Steps p.tables e below (s₁.setTop (mkF m 12 #[.val (.int p1), .val (.int p2), .val (.int p3), .val (.int p2), .unset, .unset, .unset] [])) _
            refine XS.iloadN X0.here hx rfl (hb hby at_12) rfl ?_
            show Steps p.tables e below (s₁.setTop (mkF m 13 #[.val (.int p1), .val (.int p2), .val (.int p3), .val (.int p2), .unset, .unset, .unset] [(.int p1)])) _
            exact h)
        obtain ⟨_, _, ⟨T387, L387, kk387, n387⟩, -, X387, ⟨Lc387, hQ387, l387, y387, z387⟩, st387⟩ := Jvm.LawKit.callS X0 hx (y := (⟨"com/example/lumenplan/lumenplan/network/RankedPath", "at", "(I)Lcom/example/lumenplan/lumenplan/network/RankedPath;"⟩ : MethodName)) hown (mvT hZ (hw _ (List.mem_of_getElem? (i := 0) rfl))) (mvT hZ (hw _ (List.mem_of_getElem? (i := 1) rfl))) (mvT hZ (hw _ (List.mem_of_getElem? (i := 2) rfl))) (mvT hZ (hw _ (List.mem_of_getElem? (i := 3) rfl))) (by decide) (backOf (W := 0) (rmT l Z a0 hw [] p1 wZ h0 n0 O0 SZ) hZ (hw _ (List.mem_of_getElem? (i := 3) rfl)) (hw _ (List.mem_of_getElem? (i := 2) rfl)) (by decide) (by decide)) (g := (mkF m 13 #[.val (.int p1), .val (.int p2), .val (.int p3), .val (.int p2), .unset, .unset, .unset] [(.int p1)])) rfl (by rw [hml]; rfl) (argsL := [(.int p1)]) (rest := []) (lenOf pd_0 rfl) rfl (by show 2 * 0 + _ ≤ _; exact Nat.le_of_eq rfl) (hb hby at_13) (fun _ _ => ⟨rfl, e0, (by decide : 0 + 2 ≤ _), (by decide : 0 + 3 ≤ _)⟩)
        dsimp only [Pt.U, Pt.locs, Pt.cells, Pt.slots] at X387 l387 y387 z387 st387 hQ387
        subst l387 y387 z387
        obtain ⟨b387, d387, kd387, rfl, Nq387, E387, zb387, zd387, Eb387, Fk387, Fn387, Vd387⟩ := hQ387
        have N387 := Fr.app N0 Nq387
        have k388 : Rch p e below S0 T387 (mkF m 16 #[.val (.int p1), .val (.int p2), .val (.int p3), .val (.int p2), .unset, .unset, .unset] [(.ref b387)]) := fun t h => k386 t (st387 t h)
        have ge_b387 : n0 ≤ b387 := own_ge O0 zb387
        have ge_d387 : n0 ≤ d387 := own_ge O0 zd387
        have O389 := O0.ext E387
        have k390 : Rch p e below S0 T387 (mkF m 19 #[.val (.int p1), .val (.int p2), .val (.int p3), .val (.int p2), .val (.ref b387), .unset, .unset] [(.int p2)]) := fun t h => k388 t (by
            show Steps p.tables e below (T387.setTop (mkF m 16 #[.val (.int p1), .val (.int p2), .val (.int p3), .val (.int p2), .unset, .unset, .unset] [(.ref b387)])) _
            refine XS.astore X387.here hx rfl (hb hby at_16) rfl rfl (l' := #[.val (.int p1), .val (.int p2), .val (.int p3), .val (.int p2), .val (.ref b387), .unset, .unset]) rfl ?_
            show Steps p.tables e below (T387.setTop (mkF m 18 #[.val (.int p1), .val (.int p2), .val (.int p3), .val (.int p2), .val (.ref b387), .unset, .unset] [])) _
            refine XS.iloadN X387.here hx rfl (hb hby at_18) rfl ?_
            show Steps p.tables e below (T387.setTop (mkF m 19 #[.val (.int p1), .val (.int p2), .val (.int p3), .val (.int p2), .val (.ref b387), .unset, .unset] [(.int p2)])) _
            exact h)
        obtain ⟨_, _, ⟨T391, L391, kk391, n391⟩, -, X391, ⟨Lc391, hQ391, l391, y391, z391⟩, st391⟩ := Jvm.LawKit.callS X387 hx (y := (⟨"com/example/lumenplan/lumenplan/network/RankedPath", "at", "(I)Lcom/example/lumenplan/lumenplan/network/RankedPath;"⟩ : MethodName)) hown (mvT hZ (hw _ (List.mem_of_getElem? (i := 0) rfl))) (mvT hZ (hw _ (List.mem_of_getElem? (i := 1) rfl))) (mvT hZ (hw _ (List.mem_of_getElem? (i := 2) rfl))) (mvT hZ (hw _ (List.mem_of_getElem? (i := 3) rfl))) (by decide) (backOf (W := 0) (rmT l Z a0 hw [] p2 wZ T387.heap n0 O389 SZ) hZ (hw _ (List.mem_of_getElem? (i := 3) rfl)) (hw _ (List.mem_of_getElem? (i := 2) rfl)) (by decide) (by decide)) (g := (mkF m 19 #[.val (.int p1), .val (.int p2), .val (.int p3), .val (.int p2), .val (.ref b387), .unset, .unset] [(.int p2)])) rfl (by rw [hml]; rfl) (argsL := [(.int p2)]) (rest := []) (lenOf pd_0 rfl) rfl (by show 2 * 0 + _ ≤ _; exact Nat.le_of_eq rfl) (hb hby at_19) (fun _ _ => ⟨rfl, rfl, (by decide : 2 + 2 ≤ _), (by decide : 3 + 3 ≤ _)⟩)
        dsimp only [Pt.U, Pt.locs, Pt.cells, Pt.slots] at X391 l391 y391 z391 st391 hQ391
        subst l391 y391 z391
        obtain ⟨b391, d391, kd391, rfl, Nq391, E391, zb391, zd391, Eb391, Fk391, Fn391, Vd391⟩ := hQ391
        have N391 := Fr.app N387 Nq391
        have k392 : Rch p e below S0 T391 (mkF m 22 #[.val (.int p1), .val (.int p2), .val (.int p3), .val (.int p2), .val (.ref b387), .unset, .unset] [(.ref b391)]) := fun t h => k390 t (st391 t h)
        have ne_b387_b391 : b387 ≠ b391 := own_ne Eb387.lt zb391
        have ne_d387_b391 : d387 ≠ b391 := own_ne Vd387.lt zb391
        have ge_b391 : n0 ≤ b391 := own_ge O389 zb391
        have ne_b387_d391 : b387 ≠ d391 := own_ne Eb387.lt zd391
        have ne_d387_d391 : d387 ≠ d391 := own_ne Vd387.lt zd391
        have ge_d391 : n0 ≤ d391 := own_ge O389 zd391
        have O393 := O389.ext E391
        replace Eb387 := Eb387.ext E391
        replace Fk387 := Fk387.ext E391
        replace Fn387 := Fn387.ext E391
        replace Vd387 := Vd387.ext E391
        have k394 : Rch p e below S0 T391 (mkF m 26 #[.val (.int p1), .val (.int p2), .val (.int p3), .val (.int p2), .val (.ref b387), .val (.ref b391), .unset] [(.ref b387)]) := fun t h => k392 t (by
            show Steps p.tables e below (T391.setTop (mkF m 22 #[.val (.int p1), .val (.int p2), .val (.int p3), .val (.int p2), .val (.ref b387), .unset, .unset] [(.ref b391)])) _
            refine XS.astore X391.here hx rfl (hb hby at_22) rfl rfl (l' := #[.val (.int p1), .val (.int p2), .val (.int p3), .val (.int p2), .val (.ref b387), .val (.ref b391), .unset]) rfl ?_
            show Steps p.tables e below (T391.setTop (mkF m 24 #[.val (.int p1), .val (.int p2), .val (.int p3), .val (.int p2), .val (.ref b387), .val (.ref b391), .unset] [])) _
            refine XS.aload X391.here hx rfl (hb hby at_24) rfl rfl ?_
            show Steps p.tables e below (T391.setTop (mkF m 26 #[.val (.int p1), .val (.int p2), .val (.int p3), .val (.int p2), .val (.ref b387), .val (.ref b391), .unset] [(.ref b387)])) _
            exact h)
        obtain ⟨cq395, kq395, q395a, q395b, q395c⟩ := isOf hZ rfl Eb387
        obtain ⟨_, _, ⟨T395, L395, kk395, n395⟩, -, X395, ⟨Lc395, hQ395, l395, y395, z395⟩, st395⟩ := X391.virtualBack hx (y := (⟨"com/example/lumenplan/lumenplan/network/RankedPath", "size", "()I"⟩ : MethodName)) (z := (⟨"com/example/lumenplan/lumenplan/network/RankedPath", "size", "()I"⟩ : MethodName)) hown (mvT hZ (hw _ (List.mem_of_getElem? (i := 19) rfl))) (mvT hZ (hw _ (List.mem_of_getElem? (i := 20) rfl))) (notFace_of_selects (args := #[]) (mvT hZ (hw _ (List.mem_of_getElem? (i := 22) rfl)))) (mvT hZ (hw _ (List.mem_of_getElem? (i := 22) rfl))) (mvT hZ (hw _ (List.mem_of_getElem? (i := 21) rfl))) (by decide) (backOf (W := 0) (rmSz l Z a0 hw [] b387 d387 kd387 p1 T391.heap n0 O393 Fn387 Vd387) hZ (hw _ (List.mem_of_getElem? (i := 23) rfl)) (hw _ (List.mem_of_getElem? (i := 2) rfl)) (by decide) (by decide)) q395a q395c (g := (mkF m 26 #[.val (.int p1), .val (.int p2), .val (.int p3), .val (.int p2), .val (.ref b387), .val (.ref b391), .unset] [(.ref b387)])) rfl (by rw [hml]; rfl) (Steps.refl _) (argsL := []) (rest := []) (lenOf pd_3 rfl) rfl (by show 2 * 0 + _ ≤ _; exact Nat.le_of_eq rfl) (hb hby at_26) (fun _ _ => ⟨rfl, rfl, (by decide : 4 + 0 ≤ _), (by decide : 6 + 0 ≤ _)⟩)
        dsimp only [Pt.U, Pt.locs, Pt.cells, Pt.slots] at X395 l395 y395 z395 st395 hQ395
        subst l395 y395 z395
        obtain ⟨rfl, Nq395, hh395⟩ := hQ395
        have N395 := Fr.app N391 Nq395
        have k396 : Rch p e below S0 T395 (mkF m 29 #[.val (.int p1), .val (.int p2), .val (.int p3), .val (.int p2), .val (.ref b387), .val (.ref b391), .unset] [(.int (1 : Int32))]) := fun t h => k394 t (st395.trans h)
        have k397 : Rch p e below S0 T395 (mkF m 38 #[.val (.int p1), .val (.int p2), .val (.int p3), .val (.int p2), .val (.ref b387), .val (.ref b391), .unset] [(.int (0 : Int32)), (.ref b387)]) := fun t h => k396 t (by
            show Steps p.tables e below (T395.setTop (mkF m 29 #[.val (.int p1), .val (.int p2), .val (.int p3), .val (.int p2), .val (.ref b387), .val (.ref b391), .unset] [(.int (1 : Int32))])) _
            refine XS.iconst X395.here hx rfl (hb hby at_29) ?_
            show Steps p.tables e below (T395.setTop (mkF m 30 #[.val (.int p1), .val (.int p2), .val (.int p3), .val (.int p2), .val (.ref b387), .val (.ref b391), .unset] [(.int (1 : Int32)), (.int (1 : Int32))])) _
            refine XS.icmpYes X395.here hx rfl (pc0 := 30) (pc' := 35) rfl (hb hby at_30) rfl (teq (by decide : (1 : Int32) = (1 : Int32))).1 (by decide) (by decide) ?_
            show Steps p.tables e below (T395.setTop (mkF m 35 #[.val (.int p1), .val (.int p2), .val (.int p3), .val (.int p2), .val (.ref b387), .val (.ref b391), .unset] [])) _
            refine XS.aload X395.here hx rfl (hb hby at_35) rfl rfl ?_
            show Steps p.tables e below (T395.setTop (mkF m 37 #[.val (.int p1), .val (.int p2), .val (.int p3), .val (.int p2), .val (.ref b387), .val (.ref b391), .unset] [(.ref b387)])) _
            refine XS.iconst X395.here hx rfl (hb hby at_37) ?_
            show Steps p.tables e below (T395.setTop (mkF m 38 #[.val (.int p1), .val (.int p2), .val (.int p3), .val (.int p2), .val (.ref b387), .val (.ref b391), .unset] [(.int (0 : Int32)), (.ref b387)])) _
            exact h)
        obtain ⟨cq398, kq398, q398a, q398b, q398c⟩ := isOf hZ hh395 Eb387
        obtain ⟨_, _, ⟨T398, L398, kk398, n398⟩, -, X398, ⟨Lc398, hQ398, l398, y398, z398⟩, st398⟩ := X395.virtualBack hx (y := (⟨"com/example/lumenplan/lumenplan/network/RankedPath", "node", "(I)I"⟩ : MethodName)) (z := (⟨"com/example/lumenplan/lumenplan/network/RankedPath", "node", "(I)I"⟩ : MethodName)) hown (mvT hZ (hw _ (List.mem_of_getElem? (i := 24) rfl))) (mvT hZ (hw _ (List.mem_of_getElem? (i := 25) rfl))) (notFace_of_selects (args := #[]) (mvT hZ (hw _ (List.mem_of_getElem? (i := 27) rfl)))) (mvT hZ (hw _ (List.mem_of_getElem? (i := 27) rfl))) (mvT hZ (hw _ (List.mem_of_getElem? (i := 26) rfl))) (by decide) (backOf (W := 0) (rmNd l Z a0 hw [] b387 d387 kd387 p1 T391.heap n0 O393 Fn387 Vd387) hZ (hw _ (List.mem_of_getElem? (i := 28) rfl)) (hw _ (List.mem_of_getElem? (i := 2) rfl)) (by decide) (by decide)) q398a q398c (g := (mkF m 38 #[.val (.int p1), .val (.int p2), .val (.int p3), .val (.int p2), .val (.ref b387), .val (.ref b391), .unset] [(.int (0 : Int32)), (.ref b387)])) rfl (by rw [hml]; rfl) (Steps.refl _) (argsL := [(.int (0 : Int32))]) (rest := []) (lenOf pd_4 rfl) rfl (by show 2 * 0 + _ ≤ _; exact Nat.le_of_eq rfl) (hb hby at_38) (fun _ _ => ⟨rfl, hh395, (by decide : 4 + 0 ≤ _), (by decide : 6 + 0 ≤ _)⟩)
        dsimp only [Pt.U, Pt.locs, Pt.cells, Pt.slots] at X398 l398 y398 z398 st398 hQ398
        subst l398 y398 z398
        obtain ⟨rfl, Nq398, hh398⟩ := hQ398
        have N398 := Fr.app N395 Nq398
        have k399 : Rch p e below S0 T398 (mkF m 41 #[.val (.int p1), .val (.int p2), .val (.int p3), .val (.int p2), .val (.ref b387), .val (.ref b391), .unset] [(.int p1)]) := fun t h => k397 t (st398.trans h)
        have k400 : Rch p e below S0 T398 (mkF m 49 #[.val (.int p1), .val (.int p2), .val (.int p3), .val (.int p2), .val (.ref b387), .val (.ref b391), .unset] [(.ref b387)]) := fun t h => k399 t (by
            show Steps p.tables e below (T398.setTop (mkF m 41 #[.val (.int p1), .val (.int p2), .val (.int p3), .val (.int p2), .val (.ref b387), .val (.ref b391), .unset] [(.int p1)])) _
            refine XS.iloadN X398.here hx rfl (hb hby at_41) rfl ?_
            show Steps p.tables e below (T398.setTop (mkF m 42 #[.val (.int p1), .val (.int p2), .val (.int p3), .val (.int p2), .val (.ref b387), .val (.ref b391), .unset] [(.int p1), (.int p1)])) _
            refine XS.icmpYes X398.here hx rfl (pc0 := 42) (pc' := 47) rfl (hb hby at_42) rfl (teq (rfl : p1 = p1)).1 (by decide) (by decide) ?_
            show Steps p.tables e below (T398.setTop (mkF m 47 #[.val (.int p1), .val (.int p2), .val (.int p3), .val (.int p2), .val (.ref b387), .val (.ref b391), .unset] [])) _
            refine XS.aload X398.here hx rfl (hb hby at_47) rfl rfl ?_
            show Steps p.tables e below (T398.setTop (mkF m 49 #[.val (.int p1), .val (.int p2), .val (.int p3), .val (.int p2), .val (.ref b387), .val (.ref b391), .unset] [(.ref b387)])) _
            exact h)
        obtain ⟨cq401, kq401, q401a, q401b, q401c⟩ := isOf hZ hh398 Eb387
        obtain ⟨_, _, ⟨T401, L401, kk401, n401⟩, -, X401, ⟨Lc401, hQ401, l401, y401, z401⟩, st401⟩ := X398.virtualBack hx (y := (⟨"com/example/lumenplan/lumenplan/network/RankedPath", "last", "()I"⟩ : MethodName)) (z := (⟨"com/example/lumenplan/lumenplan/network/RankedPath", "last", "()I"⟩ : MethodName)) hown (mvT hZ (hw _ (List.mem_of_getElem? (i := 29) rfl))) (mvT hZ (hw _ (List.mem_of_getElem? (i := 30) rfl))) (notFace_of_selects (args := #[]) (mvT hZ (hw _ (List.mem_of_getElem? (i := 32) rfl)))) (mvT hZ (hw _ (List.mem_of_getElem? (i := 32) rfl))) (mvT hZ (hw _ (List.mem_of_getElem? (i := 31) rfl))) (by decide) (backOf (W := 0) (rmLa l Z a0 hw [] b387 d387 kd387 p1 T391.heap n0 O393 Fn387 Vd387) hZ (hw _ (List.mem_of_getElem? (i := 33) rfl)) (hw _ (List.mem_of_getElem? (i := 2) rfl)) (by decide) (by decide)) q401a q401c (g := (mkF m 49 #[.val (.int p1), .val (.int p2), .val (.int p3), .val (.int p2), .val (.ref b387), .val (.ref b391), .unset] [(.ref b387)])) rfl (by rw [hml]; rfl) (Steps.refl _) (argsL := []) (rest := []) (lenOf pd_3 rfl) rfl (by show 2 * 0 + _ ≤ _; exact Nat.le_of_eq rfl) (hb hby at_49) (fun _ _ => ⟨rfl, hh398, (by decide : 4 + 0 ≤ _), (by decide : 6 + 0 ≤ _)⟩)
        dsimp only [Pt.U, Pt.locs, Pt.cells, Pt.slots] at X401 l401 y401 z401 st401 hQ401
        subst l401 y401 z401
        obtain ⟨rfl, Nq401, hh401⟩ := hQ401
        have N401 := Fr.app N398 Nq401
        have k402 : Rch p e below S0 T401 (mkF m 52 #[.val (.int p1), .val (.int p2), .val (.int p3), .val (.int p2), .val (.ref b387), .val (.ref b391), .unset] [(.int p1)]) := fun t h => k400 t (st401.trans h)
        have k403 : Rch p e below S0 T401 (mkF m 61 #[.val (.int p1), .val (.int p2), .val (.int p3), .val (.int p2), .val (.ref b387), .val (.ref b391), .unset] [(.int p1), (.ref b387)]) := fun t h => k402 t (by
            show Steps p.tables e below (T401.setTop (mkF m 52 #[.val (.int p1), .val (.int p2), .val (.int p3), .val (.int p2), .val (.ref b387), .val (.ref b391), .unset] [(.int p1)])) _
            refine XS.iloadN X401.here hx rfl (hb hby at_52) rfl ?_
            show Steps p.tables e below (T401.setTop (mkF m 53 #[.val (.int p1), .val (.int p2), .val (.int p3), .val (.int p2), .val (.ref b387), .val (.ref b391), .unset] [(.int p1), (.int p1)])) _
            refine XS.icmpYes X401.here hx rfl (pc0 := 53) (pc' := 58) rfl (hb hby at_53) rfl (teq (rfl : p1 = p1)).1 (by decide) (by decide) ?_
            show Steps p.tables e below (T401.setTop (mkF m 58 #[.val (.int p1), .val (.int p2), .val (.int p3), .val (.int p2), .val (.ref b387), .val (.ref b391), .unset] [])) _
            refine XS.aload X401.here hx rfl (hb hby at_58) rfl rfl ?_
            show Steps p.tables e below (T401.setTop (mkF m 60 #[.val (.int p1), .val (.int p2), .val (.int p3), .val (.int p2), .val (.ref b387), .val (.ref b391), .unset] [(.ref b387)])) _
            refine XS.iloadN X401.here hx rfl (hb hby at_60) rfl ?_
            show Steps p.tables e below (T401.setTop (mkF m 61 #[.val (.int p1), .val (.int p2), .val (.int p3), .val (.int p2), .val (.ref b387), .val (.ref b391), .unset] [(.int p1), (.ref b387)])) _
            exact h)
        obtain ⟨cq404, kq404, q404a, q404b, q404c⟩ := isOf hZ hh401 Eb387
        obtain ⟨_, _, ⟨T404, L404, kk404, n404⟩, -, X404, ⟨Lc404, hQ404, l404, y404, z404⟩, st404⟩ := X401.virtualBack hx (y := (⟨"com/example/lumenplan/lumenplan/network/RankedPath", "passes", "(I)Z"⟩ : MethodName)) (z := (⟨"com/example/lumenplan/lumenplan/network/RankedPath", "passes", "(I)Z"⟩ : MethodName)) hown (mvT hZ (hw _ (List.mem_of_getElem? (i := 34) rfl))) (mvT hZ (hw _ (List.mem_of_getElem? (i := 35) rfl))) (notFace_of_selects (args := #[]) (mvT hZ (hw _ (List.mem_of_getElem? (i := 37) rfl)))) (mvT hZ (hw _ (List.mem_of_getElem? (i := 37) rfl))) (mvT hZ (hw _ (List.mem_of_getElem? (i := 36) rfl))) (by decide) (backOf (W := 0) (rmPa_y l Z a0 hw [] b387 d387 kd387 p1 p1 T391.heap n0 O393 Fn387 Vd387 rfl) hZ (hw _ (List.mem_of_getElem? (i := 38) rfl)) (hw _ (List.mem_of_getElem? (i := 2) rfl)) (by decide) (by decide)) q404a q404c (g := (mkF m 61 #[.val (.int p1), .val (.int p2), .val (.int p3), .val (.int p2), .val (.ref b387), .val (.ref b391), .unset] [(.int p1), (.ref b387)])) rfl (by rw [hml]; rfl) (Steps.refl _) (argsL := [(.int p1)]) (rest := []) (lenOf pd_5 rfl) rfl (by show 2 * 0 + _ ≤ _; exact Nat.le_of_eq rfl) (hb hby at_61) (fun _ _ => ⟨rfl, hh401, (by decide : 4 + 0 ≤ _), (by decide : 6 + 0 ≤ _)⟩)
        dsimp only [Pt.U, Pt.locs, Pt.cells, Pt.slots] at X404 l404 y404 z404 st404 hQ404
        subst l404 y404 z404
        obtain ⟨rfl, Nq404, hh404⟩ := hQ404
        have N404 := Fr.app N401 Nq404
        have k405 : Rch p e below S0 T404 (mkF m 64 #[.val (.int p1), .val (.int p2), .val (.int p3), .val (.int p2), .val (.ref b387), .val (.ref b391), .unset] [(.int (1 : Int32))]) := fun t h => k403 t (st404.trans h)
        have k406 : Rch p e below S0 T404 (mkF m 72 #[.val (.int p1), .val (.int p2), .val (.int p3), .val (.int p2), .val (.ref b387), .val (.ref b391), .unset] [(.int p2), (.ref b387)]) := fun t h => k405 t (by
            show Steps p.tables e below (T404.setTop (mkF m 64 #[.val (.int p1), .val (.int p2), .val (.int p3), .val (.int p2), .val (.ref b387), .val (.ref b391), .unset] [(.int (1 : Int32))])) _
            refine XS.ifYes X404.here hx rfl (pc0 := 64) (pc' := 69) rfl (hb hby at_64) rfl ((if0 _ _).trans (feq (by decide : ¬ ((1 : Int32) = (0 : Int32)))).2) (by decide) (by decide) ?_
            show Steps p.tables e below (T404.setTop (mkF m 69 #[.val (.int p1), .val (.int p2), .val (.int p3), .val (.int p2), .val (.ref b387), .val (.ref b391), .unset] [])) _
            refine XS.aload X404.here hx rfl (hb hby at_69) rfl rfl ?_
            show Steps p.tables e below (T404.setTop (mkF m 71 #[.val (.int p1), .val (.int p2), .val (.int p3), .val (.int p2), .val (.ref b387), .val (.ref b391), .unset] [(.ref b387)])) _
            refine XS.iloadN X404.here hx rfl (hb hby at_71) rfl ?_
            show Steps p.tables e below (T404.setTop (mkF m 72 #[.val (.int p1), .val (.int p2), .val (.int p3), .val (.int p2), .val (.ref b387), .val (.ref b391), .unset] [(.int p2), (.ref b387)])) _
            exact h)
        obtain ⟨cq407, kq407, q407a, q407b, q407c⟩ := isOf hZ hh404 Eb387
        obtain ⟨_, _, ⟨T407, L407, kk407, n407⟩, -, X407, ⟨Lc407, hQ407, l407, y407, z407⟩, st407⟩ := X404.virtualBack hx (y := (⟨"com/example/lumenplan/lumenplan/network/RankedPath", "passes", "(I)Z"⟩ : MethodName)) (z := (⟨"com/example/lumenplan/lumenplan/network/RankedPath", "passes", "(I)Z"⟩ : MethodName)) hown (mvT hZ (hw _ (List.mem_of_getElem? (i := 34) rfl))) (mvT hZ (hw _ (List.mem_of_getElem? (i := 35) rfl))) (notFace_of_selects (args := #[]) (mvT hZ (hw _ (List.mem_of_getElem? (i := 37) rfl)))) (mvT hZ (hw _ (List.mem_of_getElem? (i := 37) rfl))) (mvT hZ (hw _ (List.mem_of_getElem? (i := 36) rfl))) (by decide) (backOf (W := 0) (rmPa_n l Z a0 hw [] b387 d387 kd387 p1 p2 T391.heap n0 O393 Fn387 Vd387 (fun q => by have h := c2; rw [q] at h; exact own_irr _ h)) hZ (hw _ (List.mem_of_getElem? (i := 38) rfl)) (hw _ (List.mem_of_getElem? (i := 2) rfl)) (by decide) (by decide)) q407a q407c (g := (mkF m 72 #[.val (.int p1), .val (.int p2), .val (.int p3), .val (.int p2), .val (.ref b387), .val (.ref b391), .unset] [(.int p2), (.ref b387)])) rfl (by rw [hml]; rfl) (Steps.refl _) (argsL := [(.int p2)]) (rest := []) (lenOf pd_5 rfl) rfl (by show 2 * 0 + _ ≤ _; exact Nat.le_of_eq rfl) (hb hby at_72) (fun _ _ => ⟨rfl, hh404, (by decide : 4 + 0 ≤ _), (by decide : 6 + 0 ≤ _)⟩)
        dsimp only [Pt.U, Pt.locs, Pt.cells, Pt.slots] at X407 l407 y407 z407 st407 hQ407
        subst l407 y407 z407
        obtain ⟨rfl, Nq407, hh407⟩ := hQ407
        have N407 := Fr.app N404 Nq407
        have k408 : Rch p e below S0 T407 (mkF m 75 #[.val (.int p1), .val (.int p2), .val (.int p3), .val (.int p2), .val (.ref b387), .val (.ref b391), .unset] [(.int (0 : Int32))]) := fun t h => k406 t (st407.trans h)
        have k409 : Rch p e below S0 T407 (mkF m 94 #[.val (.int p1), .val (.int p2), .val (.int p3), .val (.int p2), .val (.ref b387), .val (.ref b391), .unset] [(.ref b391), (.ref b387)]) := fun t h => k408 t (by
            show Steps p.tables e below (T407.setTop (mkF m 75 #[.val (.int p1), .val (.int p2), .val (.int p3), .val (.int p2), .val (.ref b387), .val (.ref b391), .unset] [(.int (0 : Int32))])) _
            refine XS.iloadN X407.here hx rfl (hb hby at_75) rfl ?_
            show Steps p.tables e below (T407.setTop (mkF m 76 #[.val (.int p1), .val (.int p2), .val (.int p3), .val (.int p2), .val (.ref b387), .val (.ref b391), .unset] [(.int p2), (.int (0 : Int32))])) _
            refine XS.iloadN X407.here hx rfl (hb hby at_76) rfl ?_
            show Steps p.tables e below (T407.setTop (mkF m 77 #[.val (.int p1), .val (.int p2), .val (.int p3), .val (.int p2), .val (.ref b387), .val (.ref b391), .unset] [(.int p1), (.int p2), (.int (0 : Int32))])) _
            refine XS.icmpYes X407.here hx rfl (pc0 := 77) (pc' := 84) rfl (hb hby at_77) rfl (feq ((fun q => (fun q => by have h := c2; rw [q] at h; exact own_irr _ h) q.symm) : ¬ (p2 = p1))).2 (by decide) (by decide) ?_
            show Steps p.tables e below (T407.setTop (mkF m 84 #[.val (.int p1), .val (.int p2), .val (.int p3), .val (.int p2), .val (.ref b387), .val (.ref b391), .unset] [(.int (0 : Int32))])) _
            refine XS.iconst X407.here hx rfl (hb hby at_84) ?_
            show Steps p.tables e below (T407.setTop (mkF m 85 #[.val (.int p1), .val (.int p2), .val (.int p3), .val (.int p2), .val (.ref b387), .val (.ref b391), .unset] [(.int (0 : Int32)), (.int (0 : Int32))])) _
            refine XS.icmpYes X407.here hx rfl (pc0 := 85) (pc' := 90) rfl (hb hby at_85) rfl (teq (by decide : (0 : Int32) = (0 : Int32))).1 (by decide) (by decide) ?_
            show Steps p.tables e below (T407.setTop (mkF m 90 #[.val (.int p1), .val (.int p2), .val (.int p3), .val (.int p2), .val (.ref b387), .val (.ref b391), .unset] [])) _
            refine XS.aload X407.here hx rfl (hb hby at_90) rfl rfl ?_
            show Steps p.tables e below (T407.setTop (mkF m 92 #[.val (.int p1), .val (.int p2), .val (.int p3), .val (.int p2), .val (.ref b387), .val (.ref b391), .unset] [(.ref b387)])) _
            refine XS.aload X407.here hx rfl (hb hby at_92) rfl rfl ?_
            show Steps p.tables e below (T407.setTop (mkF m 94 #[.val (.int p1), .val (.int p2), .val (.int p3), .val (.int p2), .val (.ref b387), .val (.ref b391), .unset] [(.ref b391), (.ref b387)])) _
            exact h)
        obtain ⟨cq410, kq410, q410a, q410b, q410c⟩ := isOf hZ hh407 Eb387
        obtain ⟨_, _, ⟨T410, L410, kk410, n410⟩, -, X410, ⟨Lc410, hQ410, l410, y410, z410⟩, st410⟩ := X407.virtualBack hx (y := (⟨"com/example/lumenplan/lumenplan/network/RankedPath", "startsWith", "(Lcom/example/lumenplan/lumenplan/network/RankedPath;)Z"⟩ : MethodName)) (z := (⟨"com/example/lumenplan/lumenplan/network/RankedPath", "startsWith", "(Lcom/example/lumenplan/lumenplan/network/RankedPath;)Z"⟩ : MethodName)) hown (mvT hZ (hw _ (List.mem_of_getElem? (i := 39) rfl))) (mvT hZ (hw _ (List.mem_of_getElem? (i := 40) rfl))) (notFace_of_selects (args := #[]) (mvT hZ (hw _ (List.mem_of_getElem? (i := 42) rfl)))) (mvT hZ (hw _ (List.mem_of_getElem? (i := 42) rfl))) (mvT hZ (hw _ (List.mem_of_getElem? (i := 41) rfl))) (by decide) (backOf (W := 0) (rmSWn l Z a0 hw [] b387 b391 d387 kd387 p1 d391 kd391 p2 T391.heap n0 O393 Fn387 Fn391 Vd387 Vd391 (fun q => by have h := c2; rw [q] at h; exact own_irr _ h)) hZ (hw _ (List.mem_of_getElem? (i := 43) rfl)) (hw _ (List.mem_of_getElem? (i := 2) rfl)) (by decide) (by decide)) q410a q410c (g := (mkF m 94 #[.val (.int p1), .val (.int p2), .val (.int p3), .val (.int p2), .val (.ref b387), .val (.ref b391), .unset] [(.ref b391), (.ref b387)])) rfl (by rw [hml]; rfl) (Steps.refl _) (argsL := [(.ref b391)]) (rest := []) (lenOf pd_6 rfl) rfl (by show 2 * 0 + _ ≤ _; exact Nat.le_of_eq rfl) (hb hby at_94) (fun _ _ => ⟨rfl, hh407, (by decide : 4 + 0 ≤ _), (by decide : 6 + 0 ≤ _)⟩)
        dsimp only [Pt.U, Pt.locs, Pt.cells, Pt.slots] at X410 l410 y410 z410 st410 hQ410
        subst l410 y410 z410
        obtain ⟨rfl, Nq410, hh410⟩ := hQ410
        have N410 := Fr.app N407 Nq410
        have k411 : Rch p e below S0 T410 (mkF m 97 #[.val (.int p1), .val (.int p2), .val (.int p3), .val (.int p2), .val (.ref b387), .val (.ref b391), .unset] [(.int (0 : Int32))]) := fun t h => k409 t (st410.trans h)
        have k412 : Rch p e below S0 T410 (mkF m 137 #[.val (.int p1), .val (.int p2), .val (.int p3), .val (.int p2), .val (.ref b387), .val (.ref b391), .val (.int (1 : Int32))] [(.ref b391), (.ref b387)]) := fun t h => k411 t (by
            show Steps p.tables e below (T410.setTop (mkF m 97 #[.val (.int p1), .val (.int p2), .val (.int p3), .val (.int p2), .val (.ref b387), .val (.ref b391), .unset] [(.int (0 : Int32))])) _
            refine XS.iloadN X410.here hx rfl (hb hby at_97) rfl ?_
            show Steps p.tables e below (T410.setTop (mkF m 98 #[.val (.int p1), .val (.int p2), .val (.int p3), .val (.int p2), .val (.ref b387), .val (.ref b391), .unset] [(.int p2), (.int (0 : Int32))])) _
            refine XS.iloadN X410.here hx rfl (hb hby at_98) rfl ?_
            show Steps p.tables e below (T410.setTop (mkF m 99 #[.val (.int p1), .val (.int p2), .val (.int p3), .val (.int p2), .val (.ref b387), .val (.ref b391), .unset] [(.int p1), (.int p2), (.int (0 : Int32))])) _
            refine XS.icmpYes X410.here hx rfl (pc0 := 99) (pc' := 106) rfl (hb hby at_99) rfl (feq ((fun q => (fun q => by have h := c2; rw [q] at h; exact own_irr _ h) q.symm) : ¬ (p2 = p1))).2 (by decide) (by decide) ?_
            show Steps p.tables e below (T410.setTop (mkF m 106 #[.val (.int p1), .val (.int p2), .val (.int p3), .val (.int p2), .val (.ref b387), .val (.ref b391), .unset] [(.int (0 : Int32))])) _
            refine XS.iconst X410.here hx rfl (hb hby at_106) ?_
            show Steps p.tables e below (T410.setTop (mkF m 107 #[.val (.int p1), .val (.int p2), .val (.int p3), .val (.int p2), .val (.ref b387), .val (.ref b391), .unset] [(.int (0 : Int32)), (.int (0 : Int32))])) _
            refine XS.icmpYes X410.here hx rfl (pc0 := 107) (pc' := 112) rfl (hb hby at_107) rfl (teq (by decide : (0 : Int32) = (0 : Int32))).1 (by decide) (by decide) ?_
            show Steps p.tables e below (T410.setTop (mkF m 112 #[.val (.int p1), .val (.int p2), .val (.int p3), .val (.int p2), .val (.ref b387), .val (.ref b391), .unset] [])) _
            refine XS.iloadN X410.here hx rfl (hb hby at_112) rfl ?_
            show Steps p.tables e below (T410.setTop (mkF m 113 #[.val (.int p1), .val (.int p2), .val (.int p3), .val (.int p2), .val (.ref b387), .val (.ref b391), .unset] [(.int p1)])) _
            refine XS.iloadN X410.here hx rfl (hb hby at_113) rfl ?_
            show Steps p.tables e below (T410.setTop (mkF m 114 #[.val (.int p1), .val (.int p2), .val (.int p3), .val (.int p2), .val (.ref b387), .val (.ref b391), .unset] [(.int p2), (.int p1)])) _
            refine XS.icmpYes X410.here hx rfl (pc0 := 114) (pc' := 121) rfl (hb hby at_114) rfl (flt ((fun q => own_irr _ (Int32.lt_trans q c2)) : ¬ (p1 < p2))).2.1 (by decide) (by decide) ?_
            show Steps p.tables e below (T410.setTop (mkF m 121 #[.val (.int p1), .val (.int p2), .val (.int p3), .val (.int p2), .val (.ref b387), .val (.ref b391), .unset] [])) _
            refine XS.iloadN X410.here hx rfl (hb hby at_121) rfl ?_
            show Steps p.tables e below (T410.setTop (mkF m 122 #[.val (.int p1), .val (.int p2), .val (.int p3), .val (.int p2), .val (.ref b387), .val (.ref b391), .unset] [(.int p1)])) _
            refine XS.iloadN X410.here hx rfl (hb hby at_122) rfl ?_
            show Steps p.tables e below (T410.setTop (mkF m 123 #[.val (.int p1), .val (.int p2), .val (.int p3), .val (.int p2), .val (.ref b387), .val (.ref b391), .unset] [(.int p2), (.int p1)])) _
            refine XS.icmpNo X410.here hx rfl (hb hby at_123) rfl (tlt (c2 : p2 < p1)).2.2.2 ?_
            show Steps p.tables e below (T410.setTop (mkF m 126 #[.val (.int p1), .val (.int p2), .val (.int p3), .val (.int p2), .val (.ref b387), .val (.ref b391), .unset] [])) _
            refine XS.iconst X410.here hx rfl (hb hby at_126) ?_
            show Steps p.tables e below (T410.setTop (mkF m 127 #[.val (.int p1), .val (.int p2), .val (.int p3), .val (.int p2), .val (.ref b387), .val (.ref b391), .unset] [(.int (1 : Int32))])) _
            refine XS.goto X410.here hx rfl (pc0 := 127) (pc' := 131) rfl (hb hby at_127) (by decide) (by decide) ?_
            show Steps p.tables e below (T410.setTop (mkF m 131 #[.val (.int p1), .val (.int p2), .val (.int p3), .val (.int p2), .val (.ref b387), .val (.ref b391), .unset] [(.int (1 : Int32))])) _
            refine XS.istore X410.here hx rfl (hb hby at_131) rfl (l' := #[.val (.int p1), .val (.int p2), .val (.int p3), .val (.int p2), .val (.ref b387), .val (.ref b391), .val (.int (1 : Int32))]) rfl ?_
            show Steps p.tables e below (T410.setTop (mkF m 133 #[.val (.int p1), .val (.int p2), .val (.int p3), .val (.int p2), .val (.ref b387), .val (.ref b391), .val (.int (1 : Int32))] [])) _
            refine XS.aload X410.here hx rfl (hb hby at_133) rfl rfl ?_
            show Steps p.tables e below (T410.setTop (mkF m 135 #[.val (.int p1), .val (.int p2), .val (.int p3), .val (.int p2), .val (.ref b387), .val (.ref b391), .val (.int (1 : Int32))] [(.ref b387)])) _
            refine XS.aload X410.here hx rfl (hb hby at_135) rfl rfl ?_
            show Steps p.tables e below (T410.setTop (mkF m 137 #[.val (.int p1), .val (.int p2), .val (.int p3), .val (.int p2), .val (.ref b387), .val (.ref b391), .val (.int (1 : Int32))] [(.ref b391), (.ref b387)])) _
            exact h)
        obtain ⟨cq413, kq413, q413a, q413b, q413c⟩ := isOf hZ hh410 Eb387
        obtain ⟨_, _, ⟨T413, L413, kk413, n413⟩, -, X413, ⟨Lc413, hQ413, l413, y413, z413⟩, st413⟩ := X410.virtualBack hx (y := (⟨"com/example/lumenplan/lumenplan/network/RankedPath", "compareTo", "(Lcom/example/lumenplan/lumenplan/network/RankedPath;)I"⟩ : MethodName)) (z := (⟨"com/example/lumenplan/lumenplan/network/RankedPath", "compareTo", "(Lcom/example/lumenplan/lumenplan/network/RankedPath;)I"⟩ : MethodName)) hown (mvT hZ (hw _ (List.mem_of_getElem? (i := 55) rfl))) (mvT hZ (hw _ (List.mem_of_getElem? (i := 56) rfl))) (notFace_of_selects (args := #[]) (mvT hZ (hw _ (List.mem_of_getElem? (i := 58) rfl)))) (mvT hZ (hw _ (List.mem_of_getElem? (i := 58) rfl))) (mvT hZ (hw _ (List.mem_of_getElem? (i := 57) rfl))) (by decide) (backOf (W := 0) (rmCTg l Z a0 hw [] b387 b391 d387 kd387 p1 d391 kd391 p2 wZ T391.heap n0 O393 EZ FSc FIc Fk387 Fk391 Fn387 Fn391 Vd387 Vd391 (fun q => ne_d387_d391 q) c2) hZ (hw _ (List.mem_of_getElem? (i := 59) rfl)) (hw _ (List.mem_of_getElem? (i := 2) rfl)) (by decide) (by decide)) q413a q413c (g := (mkF m 137 #[.val (.int p1), .val (.int p2), .val (.int p3), .val (.int p2), .val (.ref b387), .val (.ref b391), .val (.int (1 : Int32))] [(.ref b391), (.ref b387)])) rfl (by rw [hml]; rfl) (Steps.refl _) (argsL := [(.ref b391)]) (rest := []) (lenOf pd_10 rfl) rfl (by show 2 * 0 + _ ≤ _; exact Nat.le_of_eq rfl) (hb hby at_137) (fun _ _ => ⟨rfl, hh410, (by decide : 4 + 0 ≤ _), (by decide : 6 + 0 ≤ _)⟩)
        dsimp only [Pt.U, Pt.locs, Pt.cells, Pt.slots] at X413 l413 y413 z413 st413 hQ413
        subst l413 y413 z413
        obtain ⟨rfl, Nq413, hh413⟩ := hQ413
        have N413 := Fr.app N410 Nq413
        have k414 : Rch p e below S0 T413 (mkF m 140 #[.val (.int p1), .val (.int p2), .val (.int p3), .val (.int p2), .val (.ref b387), .val (.ref b391), .val (.int (1 : Int32))] [(.int (1 : Int32))]) := fun t h => k412 t (st413.trans h)
        obtain ⟨_, _, ⟨T415, L415, kk415, n415⟩, -, X415, ⟨Lc415, hQ415, l415, y415, z415⟩, st415⟩ := Jvm.LawKit.callS X413 hx (y := (⟨"com/example/lumenplan/lumenplan/network/RankedPathAtPinLaw", "sign", "(I)I"⟩ : MethodName)) hown (mvT hZ (hw _ (List.mem_of_getElem? (i := 85) rfl))) (mvT hZ (hw _ (List.mem_of_getElem? (i := 86) rfl))) (mvT hZ (hw _ (List.mem_of_getElem? (i := 87) rfl))) (mvT hZ (hw _ (List.mem_of_getElem? (i := 88) rfl))) (by decide) (backOf (W := 0) (rmGg l Z a0 hw []   T391.heap n0 O393 ) hZ (hw _ (List.mem_of_getElem? (i := 88) rfl)) (hw _ (List.mem_of_getElem? (i := 87) rfl)) (by decide) (by decide)) (g := (mkF m 140 #[.val (.int p1), .val (.int p2), .val (.int p3), .val (.int p2), .val (.ref b387), .val (.ref b391), .val (.int (1 : Int32))] [(.int (1 : Int32))])) rfl (by rw [hml]; rfl) (argsL := [(.int (1 : Int32))]) (rest := []) (lenOf pd_4 rfl) rfl (by show 2 * 0 + _ ≤ _; exact Nat.le_of_eq rfl) (hb hby at_140) (fun _ _ => ⟨rfl, hh413, (by decide : 4 + 0 ≤ _), (by decide : 6 + 0 ≤ _)⟩)
        dsimp only [Pt.U, Pt.locs, Pt.cells, Pt.slots] at X415 l415 y415 z415 st415 hQ415
        subst l415 y415 z415
        obtain ⟨rfl, Nq415, hh415⟩ := hQ415
        have N415 := Fr.app N413 Nq415
        have k416 : Rch p e below S0 T415 (mkF m 143 #[.val (.int p1), .val (.int p2), .val (.int p3), .val (.int p2), .val (.ref b387), .val (.ref b391), .val (.int (1 : Int32))] [(.int (1 : Int32))]) := fun t h => k414 t (st415 t h)
        have k417 : Rch p e below S0 T415 (mkF m 153 #[.val (.int p1), .val (.int p2), .val (.int p3), .val (.int p2), .val (.ref b387), .val (.ref b391), .val (.int (1 : Int32))] [(.int (1 : Int32))]) := fun t h => k416 t (by
            show Steps p.tables e below (T415.setTop (mkF m 143 #[.val (.int p1), .val (.int p2), .val (.int p3), .val (.int p2), .val (.ref b387), .val (.ref b391), .val (.int (1 : Int32))] [(.int (1 : Int32))])) _
            refine XS.iload X415.here hx rfl (hb hby at_143) rfl ?_
            show Steps p.tables e below (T415.setTop (mkF m 145 #[.val (.int p1), .val (.int p2), .val (.int p3), .val (.int p2), .val (.ref b387), .val (.ref b391), .val (.int (1 : Int32))] [(.int (1 : Int32)), (.int (1 : Int32))])) _
            refine XS.icmpNo X415.here hx rfl (hb hby at_145) rfl (teq (by decide : (1 : Int32) = (1 : Int32))).2 ?_
            show Steps p.tables e below (T415.setTop (mkF m 148 #[.val (.int p1), .val (.int p2), .val (.int p3), .val (.int p2), .val (.ref b387), .val (.ref b391), .val (.int (1 : Int32))] [])) _
            refine XS.iconst X415.here hx rfl (hb hby at_148) ?_
            show Steps p.tables e below (T415.setTop (mkF m 149 #[.val (.int p1), .val (.int p2), .val (.int p3), .val (.int p2), .val (.ref b387), .val (.ref b391), .val (.int (1 : Int32))] [(.int (1 : Int32))])) _
            refine XS.goto X415.here hx rfl (pc0 := 149) (pc' := 153) rfl (hb hby at_149) (by decide) (by decide) ?_
            show Steps p.tables e below (T415.setTop (mkF m 153 #[.val (.int p1), .val (.int p2), .val (.int p3), .val (.int p2), .val (.ref b387), .val (.ref b391), .val (.int (1 : Int32))] [(.int (1 : Int32))])) _
            exact h)
        obtain ⟨fs, hr, hrun, hended, hW, hsame⟩ := X415.leave (v := (some (.int (1 : Int32)))) (fun h => by rw [Bd.returns] at h; cases h)
        refine ⟨_, _, ?_, hrun, hended, _, _, rfl, ?_, ⟨_, rfl⟩, hW, hsame.mono (by decide) (by decide)⟩
        · rw [← hS0]
          refine k417 _ ?_
          show Steps p.tables e below (T415.setTop (mkF m 153 #[.val (.int p1), .val (.int p2), .val (.int p3), .val (.int p2), .val (.ref b387), .val (.ref b391), .val (.int (1 : Int32))] [(.int (1 : Int32))])) _
          exact retN X415 hx (t := .boolean) Bd.returns (by simp) (hb hby at_153) hr
        · show Q_rm0 Z  h0 n0 _ T415.heap _
          rw [hh415]
          exact ⟨rfl, N415⟩
      · have c3 : p1 = p2 := by
          rw [Int32.lt_iff_toInt_lt] at c1 c2
          exact Int32.toInt_inj.mp (by omega)
        have k418 : Rch p e below S0 s₁ (mkF m 13 #[.val (.int p1), .val (.int p2), .val (.int p3), .val (.int p2), .unset, .unset, .unset] [(.int p1)]) := fun t h => k320 t (by
            show Steps p.tables e below (s₁.setTop (mkF m 11 #[.val (.int p1), .val (.int p2), .val (.int p3), .unset, .unset, .unset, .unset] [(.int p2)])) _
            refine XS.istoreN X0.here hx rfl (hb hby at_11) rfl (l' := #[.val (.int p1), .val (.int p2), .val (.int p3), .val (.int p2), .unset, .unset, .unset]) rfl ?_
            show Steps p.tables e below (s₁.setTop (mkF m 12 #[.val (.int p1), .val (.int p2), .val (.int p3), .val (.int p2), .unset, .unset, .unset] [])) _
            refine XS.iloadN X0.here hx rfl (hb hby at_12) rfl ?_
            show Steps p.tables e below (s₁.setTop (mkF m 13 #[.val (.int p1), .val (.int p2), .val (.int p3), .val (.int p2), .unset, .unset, .unset] [(.int p1)])) _
            exact h)
        obtain ⟨_, _, ⟨T419, L419, kk419, n419⟩, -, X419, ⟨Lc419, hQ419, l419, y419, z419⟩, st419⟩ := Jvm.LawKit.callS X0 hx (y := (⟨"com/example/lumenplan/lumenplan/network/RankedPath", "at", "(I)Lcom/example/lumenplan/lumenplan/network/RankedPath;"⟩ : MethodName)) hown (mvT hZ (hw _ (List.mem_of_getElem? (i := 0) rfl))) (mvT hZ (hw _ (List.mem_of_getElem? (i := 1) rfl))) (mvT hZ (hw _ (List.mem_of_getElem? (i := 2) rfl))) (mvT hZ (hw _ (List.mem_of_getElem? (i := 3) rfl))) (by decide) (backOf (W := 0) (rmT l Z a0 hw [] p1 wZ h0 n0 O0 SZ) hZ (hw _ (List.mem_of_getElem? (i := 3) rfl)) (hw _ (List.mem_of_getElem? (i := 2) rfl)) (by decide) (by decide)) (g := (mkF m 13 #[.val (.int p1), .val (.int p2), .val (.int p3), .val (.int p2), .unset, .unset, .unset] [(.int p1)])) rfl (by rw [hml]; rfl) (argsL := [(.int p1)]) (rest := []) (lenOf pd_0 rfl) rfl (by show 2 * 0 + _ ≤ _; exact Nat.le_of_eq rfl) (hb hby at_13) (fun _ _ => ⟨rfl, e0, (by decide : 0 + 2 ≤ _), (by decide : 0 + 3 ≤ _)⟩)
        dsimp only [Pt.U, Pt.locs, Pt.cells, Pt.slots] at X419 l419 y419 z419 st419 hQ419
        subst l419 y419 z419
        obtain ⟨b419, d419, kd419, rfl, Nq419, E419, zb419, zd419, Eb419, Fk419, Fn419, Vd419⟩ := hQ419
        have N419 := Fr.app N0 Nq419
        have k420 : Rch p e below S0 T419 (mkF m 16 #[.val (.int p1), .val (.int p2), .val (.int p3), .val (.int p2), .unset, .unset, .unset] [(.ref b419)]) := fun t h => k418 t (st419 t h)
        have ge_b419 : n0 ≤ b419 := own_ge O0 zb419
        have ge_d419 : n0 ≤ d419 := own_ge O0 zd419
        have O421 := O0.ext E419
        have k422 : Rch p e below S0 T419 (mkF m 19 #[.val (.int p1), .val (.int p2), .val (.int p3), .val (.int p2), .val (.ref b419), .unset, .unset] [(.int p2)]) := fun t h => k420 t (by
            show Steps p.tables e below (T419.setTop (mkF m 16 #[.val (.int p1), .val (.int p2), .val (.int p3), .val (.int p2), .unset, .unset, .unset] [(.ref b419)])) _
            refine XS.astore X419.here hx rfl (hb hby at_16) rfl rfl (l' := #[.val (.int p1), .val (.int p2), .val (.int p3), .val (.int p2), .val (.ref b419), .unset, .unset]) rfl ?_
            show Steps p.tables e below (T419.setTop (mkF m 18 #[.val (.int p1), .val (.int p2), .val (.int p3), .val (.int p2), .val (.ref b419), .unset, .unset] [])) _
            refine XS.iloadN X419.here hx rfl (hb hby at_18) rfl ?_
            show Steps p.tables e below (T419.setTop (mkF m 19 #[.val (.int p1), .val (.int p2), .val (.int p3), .val (.int p2), .val (.ref b419), .unset, .unset] [(.int p2)])) _
            exact h)
        obtain ⟨_, _, ⟨T423, L423, kk423, n423⟩, -, X423, ⟨Lc423, hQ423, l423, y423, z423⟩, st423⟩ := Jvm.LawKit.callS X419 hx (y := (⟨"com/example/lumenplan/lumenplan/network/RankedPath", "at", "(I)Lcom/example/lumenplan/lumenplan/network/RankedPath;"⟩ : MethodName)) hown (mvT hZ (hw _ (List.mem_of_getElem? (i := 0) rfl))) (mvT hZ (hw _ (List.mem_of_getElem? (i := 1) rfl))) (mvT hZ (hw _ (List.mem_of_getElem? (i := 2) rfl))) (mvT hZ (hw _ (List.mem_of_getElem? (i := 3) rfl))) (by decide) (backOf (W := 0) (rmT l Z a0 hw [] p2 wZ T419.heap n0 O421 SZ) hZ (hw _ (List.mem_of_getElem? (i := 3) rfl)) (hw _ (List.mem_of_getElem? (i := 2) rfl)) (by decide) (by decide)) (g := (mkF m 19 #[.val (.int p1), .val (.int p2), .val (.int p3), .val (.int p2), .val (.ref b419), .unset, .unset] [(.int p2)])) rfl (by rw [hml]; rfl) (argsL := [(.int p2)]) (rest := []) (lenOf pd_0 rfl) rfl (by show 2 * 0 + _ ≤ _; exact Nat.le_of_eq rfl) (hb hby at_19) (fun _ _ => ⟨rfl, rfl, (by decide : 2 + 2 ≤ _), (by decide : 3 + 3 ≤ _)⟩)
        dsimp only [Pt.U, Pt.locs, Pt.cells, Pt.slots] at X423 l423 y423 z423 st423 hQ423
        subst l423 y423 z423
        obtain ⟨b423, d423, kd423, rfl, Nq423, E423, zb423, zd423, Eb423, Fk423, Fn423, Vd423⟩ := hQ423
        have N423 := Fr.app N419 Nq423
        have k424 : Rch p e below S0 T423 (mkF m 22 #[.val (.int p1), .val (.int p2), .val (.int p3), .val (.int p2), .val (.ref b419), .unset, .unset] [(.ref b423)]) := fun t h => k422 t (st423 t h)
        have ne_b419_b423 : b419 ≠ b423 := own_ne Eb419.lt zb423
        have ne_d419_b423 : d419 ≠ b423 := own_ne Vd419.lt zb423
        have ge_b423 : n0 ≤ b423 := own_ge O421 zb423
        have ne_b419_d423 : b419 ≠ d423 := own_ne Eb419.lt zd423
        have ne_d419_d423 : d419 ≠ d423 := own_ne Vd419.lt zd423
        have ge_d423 : n0 ≤ d423 := own_ge O421 zd423
        have O425 := O421.ext E423
        replace Eb419 := Eb419.ext E423
        replace Fk419 := Fk419.ext E423
        replace Fn419 := Fn419.ext E423
        replace Vd419 := Vd419.ext E423
        have k426 : Rch p e below S0 T423 (mkF m 26 #[.val (.int p1), .val (.int p2), .val (.int p3), .val (.int p2), .val (.ref b419), .val (.ref b423), .unset] [(.ref b419)]) := fun t h => k424 t (by
            show Steps p.tables e below (T423.setTop (mkF m 22 #[.val (.int p1), .val (.int p2), .val (.int p3), .val (.int p2), .val (.ref b419), .unset, .unset] [(.ref b423)])) _
            refine XS.astore X423.here hx rfl (hb hby at_22) rfl rfl (l' := #[.val (.int p1), .val (.int p2), .val (.int p3), .val (.int p2), .val (.ref b419), .val (.ref b423), .unset]) rfl ?_
            show Steps p.tables e below (T423.setTop (mkF m 24 #[.val (.int p1), .val (.int p2), .val (.int p3), .val (.int p2), .val (.ref b419), .val (.ref b423), .unset] [])) _
            refine XS.aload X423.here hx rfl (hb hby at_24) rfl rfl ?_
            show Steps p.tables e below (T423.setTop (mkF m 26 #[.val (.int p1), .val (.int p2), .val (.int p3), .val (.int p2), .val (.ref b419), .val (.ref b423), .unset] [(.ref b419)])) _
            exact h)
        obtain ⟨cq427, kq427, q427a, q427b, q427c⟩ := isOf hZ rfl Eb419
        obtain ⟨_, _, ⟨T427, L427, kk427, n427⟩, -, X427, ⟨Lc427, hQ427, l427, y427, z427⟩, st427⟩ := X423.virtualBack hx (y := (⟨"com/example/lumenplan/lumenplan/network/RankedPath", "size", "()I"⟩ : MethodName)) (z := (⟨"com/example/lumenplan/lumenplan/network/RankedPath", "size", "()I"⟩ : MethodName)) hown (mvT hZ (hw _ (List.mem_of_getElem? (i := 19) rfl))) (mvT hZ (hw _ (List.mem_of_getElem? (i := 20) rfl))) (notFace_of_selects (args := #[]) (mvT hZ (hw _ (List.mem_of_getElem? (i := 22) rfl)))) (mvT hZ (hw _ (List.mem_of_getElem? (i := 22) rfl))) (mvT hZ (hw _ (List.mem_of_getElem? (i := 21) rfl))) (by decide) (backOf (W := 0) (rmSz l Z a0 hw [] b419 d419 kd419 p1 T423.heap n0 O425 Fn419 Vd419) hZ (hw _ (List.mem_of_getElem? (i := 23) rfl)) (hw _ (List.mem_of_getElem? (i := 2) rfl)) (by decide) (by decide)) q427a q427c (g := (mkF m 26 #[.val (.int p1), .val (.int p2), .val (.int p3), .val (.int p2), .val (.ref b419), .val (.ref b423), .unset] [(.ref b419)])) rfl (by rw [hml]; rfl) (Steps.refl _) (argsL := []) (rest := []) (lenOf pd_3 rfl) rfl (by show 2 * 0 + _ ≤ _; exact Nat.le_of_eq rfl) (hb hby at_26) (fun _ _ => ⟨rfl, rfl, (by decide : 4 + 0 ≤ _), (by decide : 6 + 0 ≤ _)⟩)
        dsimp only [Pt.U, Pt.locs, Pt.cells, Pt.slots] at X427 l427 y427 z427 st427 hQ427
        subst l427 y427 z427
        obtain ⟨rfl, Nq427, hh427⟩ := hQ427
        have N427 := Fr.app N423 Nq427
        have k428 : Rch p e below S0 T427 (mkF m 29 #[.val (.int p1), .val (.int p2), .val (.int p3), .val (.int p2), .val (.ref b419), .val (.ref b423), .unset] [(.int (1 : Int32))]) := fun t h => k426 t (st427.trans h)
        have k429 : Rch p e below S0 T427 (mkF m 38 #[.val (.int p1), .val (.int p2), .val (.int p3), .val (.int p2), .val (.ref b419), .val (.ref b423), .unset] [(.int (0 : Int32)), (.ref b419)]) := fun t h => k428 t (by
            show Steps p.tables e below (T427.setTop (mkF m 29 #[.val (.int p1), .val (.int p2), .val (.int p3), .val (.int p2), .val (.ref b419), .val (.ref b423), .unset] [(.int (1 : Int32))])) _
            refine XS.iconst X427.here hx rfl (hb hby at_29) ?_
            show Steps p.tables e below (T427.setTop (mkF m 30 #[.val (.int p1), .val (.int p2), .val (.int p3), .val (.int p2), .val (.ref b419), .val (.ref b423), .unset] [(.int (1 : Int32)), (.int (1 : Int32))])) _
            refine XS.icmpYes X427.here hx rfl (pc0 := 30) (pc' := 35) rfl (hb hby at_30) rfl (teq (by decide : (1 : Int32) = (1 : Int32))).1 (by decide) (by decide) ?_
            show Steps p.tables e below (T427.setTop (mkF m 35 #[.val (.int p1), .val (.int p2), .val (.int p3), .val (.int p2), .val (.ref b419), .val (.ref b423), .unset] [])) _
            refine XS.aload X427.here hx rfl (hb hby at_35) rfl rfl ?_
            show Steps p.tables e below (T427.setTop (mkF m 37 #[.val (.int p1), .val (.int p2), .val (.int p3), .val (.int p2), .val (.ref b419), .val (.ref b423), .unset] [(.ref b419)])) _
            refine XS.iconst X427.here hx rfl (hb hby at_37) ?_
            show Steps p.tables e below (T427.setTop (mkF m 38 #[.val (.int p1), .val (.int p2), .val (.int p3), .val (.int p2), .val (.ref b419), .val (.ref b423), .unset] [(.int (0 : Int32)), (.ref b419)])) _
            exact h)
        obtain ⟨cq430, kq430, q430a, q430b, q430c⟩ := isOf hZ hh427 Eb419
        obtain ⟨_, _, ⟨T430, L430, kk430, n430⟩, -, X430, ⟨Lc430, hQ430, l430, y430, z430⟩, st430⟩ := X427.virtualBack hx (y := (⟨"com/example/lumenplan/lumenplan/network/RankedPath", "node", "(I)I"⟩ : MethodName)) (z := (⟨"com/example/lumenplan/lumenplan/network/RankedPath", "node", "(I)I"⟩ : MethodName)) hown (mvT hZ (hw _ (List.mem_of_getElem? (i := 24) rfl))) (mvT hZ (hw _ (List.mem_of_getElem? (i := 25) rfl))) (notFace_of_selects (args := #[]) (mvT hZ (hw _ (List.mem_of_getElem? (i := 27) rfl)))) (mvT hZ (hw _ (List.mem_of_getElem? (i := 27) rfl))) (mvT hZ (hw _ (List.mem_of_getElem? (i := 26) rfl))) (by decide) (backOf (W := 0) (rmNd l Z a0 hw [] b419 d419 kd419 p1 T423.heap n0 O425 Fn419 Vd419) hZ (hw _ (List.mem_of_getElem? (i := 28) rfl)) (hw _ (List.mem_of_getElem? (i := 2) rfl)) (by decide) (by decide)) q430a q430c (g := (mkF m 38 #[.val (.int p1), .val (.int p2), .val (.int p3), .val (.int p2), .val (.ref b419), .val (.ref b423), .unset] [(.int (0 : Int32)), (.ref b419)])) rfl (by rw [hml]; rfl) (Steps.refl _) (argsL := [(.int (0 : Int32))]) (rest := []) (lenOf pd_4 rfl) rfl (by show 2 * 0 + _ ≤ _; exact Nat.le_of_eq rfl) (hb hby at_38) (fun _ _ => ⟨rfl, hh427, (by decide : 4 + 0 ≤ _), (by decide : 6 + 0 ≤ _)⟩)
        dsimp only [Pt.U, Pt.locs, Pt.cells, Pt.slots] at X430 l430 y430 z430 st430 hQ430
        subst l430 y430 z430
        obtain ⟨rfl, Nq430, hh430⟩ := hQ430
        have N430 := Fr.app N427 Nq430
        have k431 : Rch p e below S0 T430 (mkF m 41 #[.val (.int p1), .val (.int p2), .val (.int p3), .val (.int p2), .val (.ref b419), .val (.ref b423), .unset] [(.int p1)]) := fun t h => k429 t (st430.trans h)
        have k432 : Rch p e below S0 T430 (mkF m 49 #[.val (.int p1), .val (.int p2), .val (.int p3), .val (.int p2), .val (.ref b419), .val (.ref b423), .unset] [(.ref b419)]) := fun t h => k431 t (by
            show Steps p.tables e below (T430.setTop (mkF m 41 #[.val (.int p1), .val (.int p2), .val (.int p3), .val (.int p2), .val (.ref b419), .val (.ref b423), .unset] [(.int p1)])) _
            refine XS.iloadN X430.here hx rfl (hb hby at_41) rfl ?_
            show Steps p.tables e below (T430.setTop (mkF m 42 #[.val (.int p1), .val (.int p2), .val (.int p3), .val (.int p2), .val (.ref b419), .val (.ref b423), .unset] [(.int p1), (.int p1)])) _
            refine XS.icmpYes X430.here hx rfl (pc0 := 42) (pc' := 47) rfl (hb hby at_42) rfl (teq (rfl : p1 = p1)).1 (by decide) (by decide) ?_
            show Steps p.tables e below (T430.setTop (mkF m 47 #[.val (.int p1), .val (.int p2), .val (.int p3), .val (.int p2), .val (.ref b419), .val (.ref b423), .unset] [])) _
            refine XS.aload X430.here hx rfl (hb hby at_47) rfl rfl ?_
            show Steps p.tables e below (T430.setTop (mkF m 49 #[.val (.int p1), .val (.int p2), .val (.int p3), .val (.int p2), .val (.ref b419), .val (.ref b423), .unset] [(.ref b419)])) _
            exact h)
        obtain ⟨cq433, kq433, q433a, q433b, q433c⟩ := isOf hZ hh430 Eb419
        obtain ⟨_, _, ⟨T433, L433, kk433, n433⟩, -, X433, ⟨Lc433, hQ433, l433, y433, z433⟩, st433⟩ := X430.virtualBack hx (y := (⟨"com/example/lumenplan/lumenplan/network/RankedPath", "last", "()I"⟩ : MethodName)) (z := (⟨"com/example/lumenplan/lumenplan/network/RankedPath", "last", "()I"⟩ : MethodName)) hown (mvT hZ (hw _ (List.mem_of_getElem? (i := 29) rfl))) (mvT hZ (hw _ (List.mem_of_getElem? (i := 30) rfl))) (notFace_of_selects (args := #[]) (mvT hZ (hw _ (List.mem_of_getElem? (i := 32) rfl)))) (mvT hZ (hw _ (List.mem_of_getElem? (i := 32) rfl))) (mvT hZ (hw _ (List.mem_of_getElem? (i := 31) rfl))) (by decide) (backOf (W := 0) (rmLa l Z a0 hw [] b419 d419 kd419 p1 T423.heap n0 O425 Fn419 Vd419) hZ (hw _ (List.mem_of_getElem? (i := 33) rfl)) (hw _ (List.mem_of_getElem? (i := 2) rfl)) (by decide) (by decide)) q433a q433c (g := (mkF m 49 #[.val (.int p1), .val (.int p2), .val (.int p3), .val (.int p2), .val (.ref b419), .val (.ref b423), .unset] [(.ref b419)])) rfl (by rw [hml]; rfl) (Steps.refl _) (argsL := []) (rest := []) (lenOf pd_3 rfl) rfl (by show 2 * 0 + _ ≤ _; exact Nat.le_of_eq rfl) (hb hby at_49) (fun _ _ => ⟨rfl, hh430, (by decide : 4 + 0 ≤ _), (by decide : 6 + 0 ≤ _)⟩)
        dsimp only [Pt.U, Pt.locs, Pt.cells, Pt.slots] at X433 l433 y433 z433 st433 hQ433
        subst l433 y433 z433
        obtain ⟨rfl, Nq433, hh433⟩ := hQ433
        have N433 := Fr.app N430 Nq433
        have k434 : Rch p e below S0 T433 (mkF m 52 #[.val (.int p1), .val (.int p2), .val (.int p3), .val (.int p2), .val (.ref b419), .val (.ref b423), .unset] [(.int p1)]) := fun t h => k432 t (st433.trans h)
        have k435 : Rch p e below S0 T433 (mkF m 61 #[.val (.int p1), .val (.int p2), .val (.int p3), .val (.int p2), .val (.ref b419), .val (.ref b423), .unset] [(.int p1), (.ref b419)]) := fun t h => k434 t (by
            show Steps p.tables e below (T433.setTop (mkF m 52 #[.val (.int p1), .val (.int p2), .val (.int p3), .val (.int p2), .val (.ref b419), .val (.ref b423), .unset] [(.int p1)])) _
            refine XS.iloadN X433.here hx rfl (hb hby at_52) rfl ?_
            show Steps p.tables e below (T433.setTop (mkF m 53 #[.val (.int p1), .val (.int p2), .val (.int p3), .val (.int p2), .val (.ref b419), .val (.ref b423), .unset] [(.int p1), (.int p1)])) _
            refine XS.icmpYes X433.here hx rfl (pc0 := 53) (pc' := 58) rfl (hb hby at_53) rfl (teq (rfl : p1 = p1)).1 (by decide) (by decide) ?_
            show Steps p.tables e below (T433.setTop (mkF m 58 #[.val (.int p1), .val (.int p2), .val (.int p3), .val (.int p2), .val (.ref b419), .val (.ref b423), .unset] [])) _
            refine XS.aload X433.here hx rfl (hb hby at_58) rfl rfl ?_
            show Steps p.tables e below (T433.setTop (mkF m 60 #[.val (.int p1), .val (.int p2), .val (.int p3), .val (.int p2), .val (.ref b419), .val (.ref b423), .unset] [(.ref b419)])) _
            refine XS.iloadN X433.here hx rfl (hb hby at_60) rfl ?_
            show Steps p.tables e below (T433.setTop (mkF m 61 #[.val (.int p1), .val (.int p2), .val (.int p3), .val (.int p2), .val (.ref b419), .val (.ref b423), .unset] [(.int p1), (.ref b419)])) _
            exact h)
        obtain ⟨cq436, kq436, q436a, q436b, q436c⟩ := isOf hZ hh433 Eb419
        obtain ⟨_, _, ⟨T436, L436, kk436, n436⟩, -, X436, ⟨Lc436, hQ436, l436, y436, z436⟩, st436⟩ := X433.virtualBack hx (y := (⟨"com/example/lumenplan/lumenplan/network/RankedPath", "passes", "(I)Z"⟩ : MethodName)) (z := (⟨"com/example/lumenplan/lumenplan/network/RankedPath", "passes", "(I)Z"⟩ : MethodName)) hown (mvT hZ (hw _ (List.mem_of_getElem? (i := 34) rfl))) (mvT hZ (hw _ (List.mem_of_getElem? (i := 35) rfl))) (notFace_of_selects (args := #[]) (mvT hZ (hw _ (List.mem_of_getElem? (i := 37) rfl)))) (mvT hZ (hw _ (List.mem_of_getElem? (i := 37) rfl))) (mvT hZ (hw _ (List.mem_of_getElem? (i := 36) rfl))) (by decide) (backOf (W := 0) (rmPa_y l Z a0 hw [] b419 d419 kd419 p1 p1 T423.heap n0 O425 Fn419 Vd419 rfl) hZ (hw _ (List.mem_of_getElem? (i := 38) rfl)) (hw _ (List.mem_of_getElem? (i := 2) rfl)) (by decide) (by decide)) q436a q436c (g := (mkF m 61 #[.val (.int p1), .val (.int p2), .val (.int p3), .val (.int p2), .val (.ref b419), .val (.ref b423), .unset] [(.int p1), (.ref b419)])) rfl (by rw [hml]; rfl) (Steps.refl _) (argsL := [(.int p1)]) (rest := []) (lenOf pd_5 rfl) rfl (by show 2 * 0 + _ ≤ _; exact Nat.le_of_eq rfl) (hb hby at_61) (fun _ _ => ⟨rfl, hh433, (by decide : 4 + 0 ≤ _), (by decide : 6 + 0 ≤ _)⟩)
        dsimp only [Pt.U, Pt.locs, Pt.cells, Pt.slots] at X436 l436 y436 z436 st436 hQ436
        subst l436 y436 z436
        obtain ⟨rfl, Nq436, hh436⟩ := hQ436
        have N436 := Fr.app N433 Nq436
        have k437 : Rch p e below S0 T436 (mkF m 64 #[.val (.int p1), .val (.int p2), .val (.int p3), .val (.int p2), .val (.ref b419), .val (.ref b423), .unset] [(.int (1 : Int32))]) := fun t h => k435 t (st436.trans h)
        have k438 : Rch p e below S0 T436 (mkF m 72 #[.val (.int p1), .val (.int p2), .val (.int p3), .val (.int p2), .val (.ref b419), .val (.ref b423), .unset] [(.int p2), (.ref b419)]) := fun t h => k437 t (by
            show Steps p.tables e below (T436.setTop (mkF m 64 #[.val (.int p1), .val (.int p2), .val (.int p3), .val (.int p2), .val (.ref b419), .val (.ref b423), .unset] [(.int (1 : Int32))])) _
            refine XS.ifYes X436.here hx rfl (pc0 := 64) (pc' := 69) rfl (hb hby at_64) rfl ((if0 _ _).trans (feq (by decide : ¬ ((1 : Int32) = (0 : Int32)))).2) (by decide) (by decide) ?_
            show Steps p.tables e below (T436.setTop (mkF m 69 #[.val (.int p1), .val (.int p2), .val (.int p3), .val (.int p2), .val (.ref b419), .val (.ref b423), .unset] [])) _
            refine XS.aload X436.here hx rfl (hb hby at_69) rfl rfl ?_
            show Steps p.tables e below (T436.setTop (mkF m 71 #[.val (.int p1), .val (.int p2), .val (.int p3), .val (.int p2), .val (.ref b419), .val (.ref b423), .unset] [(.ref b419)])) _
            refine XS.iloadN X436.here hx rfl (hb hby at_71) rfl ?_
            show Steps p.tables e below (T436.setTop (mkF m 72 #[.val (.int p1), .val (.int p2), .val (.int p3), .val (.int p2), .val (.ref b419), .val (.ref b423), .unset] [(.int p2), (.ref b419)])) _
            exact h)
        obtain ⟨cq439, kq439, q439a, q439b, q439c⟩ := isOf hZ hh436 Eb419
        obtain ⟨_, _, ⟨T439, L439, kk439, n439⟩, -, X439, ⟨Lc439, hQ439, l439, y439, z439⟩, st439⟩ := X436.virtualBack hx (y := (⟨"com/example/lumenplan/lumenplan/network/RankedPath", "passes", "(I)Z"⟩ : MethodName)) (z := (⟨"com/example/lumenplan/lumenplan/network/RankedPath", "passes", "(I)Z"⟩ : MethodName)) hown (mvT hZ (hw _ (List.mem_of_getElem? (i := 34) rfl))) (mvT hZ (hw _ (List.mem_of_getElem? (i := 35) rfl))) (notFace_of_selects (args := #[]) (mvT hZ (hw _ (List.mem_of_getElem? (i := 37) rfl)))) (mvT hZ (hw _ (List.mem_of_getElem? (i := 37) rfl))) (mvT hZ (hw _ (List.mem_of_getElem? (i := 36) rfl))) (by decide) (backOf (W := 0) (rmPa_y l Z a0 hw [] b419 d419 kd419 p1 p2 T423.heap n0 O425 Fn419 Vd419 c3) hZ (hw _ (List.mem_of_getElem? (i := 38) rfl)) (hw _ (List.mem_of_getElem? (i := 2) rfl)) (by decide) (by decide)) q439a q439c (g := (mkF m 72 #[.val (.int p1), .val (.int p2), .val (.int p3), .val (.int p2), .val (.ref b419), .val (.ref b423), .unset] [(.int p2), (.ref b419)])) rfl (by rw [hml]; rfl) (Steps.refl _) (argsL := [(.int p2)]) (rest := []) (lenOf pd_5 rfl) rfl (by show 2 * 0 + _ ≤ _; exact Nat.le_of_eq rfl) (hb hby at_72) (fun _ _ => ⟨rfl, hh436, (by decide : 4 + 0 ≤ _), (by decide : 6 + 0 ≤ _)⟩)
        dsimp only [Pt.U, Pt.locs, Pt.cells, Pt.slots] at X439 l439 y439 z439 st439 hQ439
        subst l439 y439 z439
        obtain ⟨rfl, Nq439, hh439⟩ := hQ439
        have N439 := Fr.app N436 Nq439
        have k440 : Rch p e below S0 T439 (mkF m 75 #[.val (.int p1), .val (.int p2), .val (.int p3), .val (.int p2), .val (.ref b419), .val (.ref b423), .unset] [(.int (1 : Int32))]) := fun t h => k438 t (st439.trans h)
        have k441 : Rch p e below S0 T439 (mkF m 94 #[.val (.int p1), .val (.int p2), .val (.int p3), .val (.int p2), .val (.ref b419), .val (.ref b423), .unset] [(.ref b423), (.ref b419)]) := fun t h => k440 t (by
            show Steps p.tables e below (T439.setTop (mkF m 75 #[.val (.int p1), .val (.int p2), .val (.int p3), .val (.int p2), .val (.ref b419), .val (.ref b423), .unset] [(.int (1 : Int32))])) _
            refine XS.iloadN X439.here hx rfl (hb hby at_75) rfl ?_
            show Steps p.tables e below (T439.setTop (mkF m 76 #[.val (.int p1), .val (.int p2), .val (.int p3), .val (.int p2), .val (.ref b419), .val (.ref b423), .unset] [(.int p2), (.int (1 : Int32))])) _
            refine XS.iloadN X439.here hx rfl (hb hby at_76) rfl ?_
            show Steps p.tables e below (T439.setTop (mkF m 77 #[.val (.int p1), .val (.int p2), .val (.int p3), .val (.int p2), .val (.ref b419), .val (.ref b423), .unset] [(.int p1), (.int p2), (.int (1 : Int32))])) _
            refine XS.icmpNo X439.here hx rfl (hb hby at_77) rfl (teq ((c3).symm : p2 = p1)).2 ?_
            show Steps p.tables e below (T439.setTop (mkF m 80 #[.val (.int p1), .val (.int p2), .val (.int p3), .val (.int p2), .val (.ref b419), .val (.ref b423), .unset] [(.int (1 : Int32))])) _
            refine XS.iconst X439.here hx rfl (hb hby at_80) ?_
            show Steps p.tables e below (T439.setTop (mkF m 81 #[.val (.int p1), .val (.int p2), .val (.int p3), .val (.int p2), .val (.ref b419), .val (.ref b423), .unset] [(.int (1 : Int32)), (.int (1 : Int32))])) _
            refine XS.goto X439.here hx rfl (pc0 := 81) (pc' := 85) rfl (hb hby at_81) (by decide) (by decide) ?_
            show Steps p.tables e below (T439.setTop (mkF m 85 #[.val (.int p1), .val (.int p2), .val (.int p3), .val (.int p2), .val (.ref b419), .val (.ref b423), .unset] [(.int (1 : Int32)), (.int (1 : Int32))])) _
            refine XS.icmpYes X439.here hx rfl (pc0 := 85) (pc' := 90) rfl (hb hby at_85) rfl (teq (by decide : (1 : Int32) = (1 : Int32))).1 (by decide) (by decide) ?_
            show Steps p.tables e below (T439.setTop (mkF m 90 #[.val (.int p1), .val (.int p2), .val (.int p3), .val (.int p2), .val (.ref b419), .val (.ref b423), .unset] [])) _
            refine XS.aload X439.here hx rfl (hb hby at_90) rfl rfl ?_
            show Steps p.tables e below (T439.setTop (mkF m 92 #[.val (.int p1), .val (.int p2), .val (.int p3), .val (.int p2), .val (.ref b419), .val (.ref b423), .unset] [(.ref b419)])) _
            refine XS.aload X439.here hx rfl (hb hby at_92) rfl rfl ?_
            show Steps p.tables e below (T439.setTop (mkF m 94 #[.val (.int p1), .val (.int p2), .val (.int p3), .val (.int p2), .val (.ref b419), .val (.ref b423), .unset] [(.ref b423), (.ref b419)])) _
            exact h)
        obtain ⟨cq442, kq442, q442a, q442b, q442c⟩ := isOf hZ hh439 Eb419
        obtain ⟨_, _, ⟨T442, L442, kk442, n442⟩, -, X442, ⟨Lc442, hQ442, l442, y442, z442⟩, st442⟩ := X439.virtualBack hx (y := (⟨"com/example/lumenplan/lumenplan/network/RankedPath", "startsWith", "(Lcom/example/lumenplan/lumenplan/network/RankedPath;)Z"⟩ : MethodName)) (z := (⟨"com/example/lumenplan/lumenplan/network/RankedPath", "startsWith", "(Lcom/example/lumenplan/lumenplan/network/RankedPath;)Z"⟩ : MethodName)) hown (mvT hZ (hw _ (List.mem_of_getElem? (i := 39) rfl))) (mvT hZ (hw _ (List.mem_of_getElem? (i := 40) rfl))) (notFace_of_selects (args := #[]) (mvT hZ (hw _ (List.mem_of_getElem? (i := 42) rfl)))) (mvT hZ (hw _ (List.mem_of_getElem? (i := 42) rfl))) (mvT hZ (hw _ (List.mem_of_getElem? (i := 41) rfl))) (by decide) (backOf (W := 0) (rmSWe l Z a0 hw [] b419 b423 d419 kd419 p1 d423 kd423 p2 T423.heap n0 O425 Fn419 Fn423 Vd419 Vd423 c3) hZ (hw _ (List.mem_of_getElem? (i := 43) rfl)) (hw _ (List.mem_of_getElem? (i := 2) rfl)) (by decide) (by decide)) q442a q442c (g := (mkF m 94 #[.val (.int p1), .val (.int p2), .val (.int p3), .val (.int p2), .val (.ref b419), .val (.ref b423), .unset] [(.ref b423), (.ref b419)])) rfl (by rw [hml]; rfl) (Steps.refl _) (argsL := [(.ref b423)]) (rest := []) (lenOf pd_6 rfl) rfl (by show 2 * 0 + _ ≤ _; exact Nat.le_of_eq rfl) (hb hby at_94) (fun _ _ => ⟨rfl, hh439, (by decide : 4 + 0 ≤ _), (by decide : 6 + 0 ≤ _)⟩)
        dsimp only [Pt.U, Pt.locs, Pt.cells, Pt.slots] at X442 l442 y442 z442 st442 hQ442
        subst l442 y442 z442
        obtain ⟨rfl, Nq442, hh442⟩ := hQ442
        have N442 := Fr.app N439 Nq442
        have k443 : Rch p e below S0 T442 (mkF m 97 #[.val (.int p1), .val (.int p2), .val (.int p3), .val (.int p2), .val (.ref b419), .val (.ref b423), .unset] [(.int (1 : Int32))]) := fun t h => k441 t (st442.trans h)
        have k444 : Rch p e below S0 T442 (mkF m 137 #[.val (.int p1), .val (.int p2), .val (.int p3), .val (.int p2), .val (.ref b419), .val (.ref b423), .val (.int (0 : Int32))] [(.ref b423), (.ref b419)]) := fun t h => k443 t (by
            show Steps p.tables e below (T442.setTop (mkF m 97 #[.val (.int p1), .val (.int p2), .val (.int p3), .val (.int p2), .val (.ref b419), .val (.ref b423), .unset] [(.int (1 : Int32))])) _
            refine XS.iloadN X442.here hx rfl (hb hby at_97) rfl ?_
            show Steps p.tables e below (T442.setTop (mkF m 98 #[.val (.int p1), .val (.int p2), .val (.int p3), .val (.int p2), .val (.ref b419), .val (.ref b423), .unset] [(.int p2), (.int (1 : Int32))])) _
            refine XS.iloadN X442.here hx rfl (hb hby at_98) rfl ?_
            show Steps p.tables e below (T442.setTop (mkF m 99 #[.val (.int p1), .val (.int p2), .val (.int p3), .val (.int p2), .val (.ref b419), .val (.ref b423), .unset] [(.int p1), (.int p2), (.int (1 : Int32))])) _
            refine XS.icmpNo X442.here hx rfl (hb hby at_99) rfl (teq ((c3).symm : p2 = p1)).2 ?_
            show Steps p.tables e below (T442.setTop (mkF m 102 #[.val (.int p1), .val (.int p2), .val (.int p3), .val (.int p2), .val (.ref b419), .val (.ref b423), .unset] [(.int (1 : Int32))])) _
            refine XS.iconst X442.here hx rfl (hb hby at_102) ?_
            show Steps p.tables e below (T442.setTop (mkF m 103 #[.val (.int p1), .val (.int p2), .val (.int p3), .val (.int p2), .val (.ref b419), .val (.ref b423), .unset] [(.int (1 : Int32)), (.int (1 : Int32))])) _
            refine XS.goto X442.here hx rfl (pc0 := 103) (pc' := 107) rfl (hb hby at_103) (by decide) (by decide) ?_
            show Steps p.tables e below (T442.setTop (mkF m 107 #[.val (.int p1), .val (.int p2), .val (.int p3), .val (.int p2), .val (.ref b419), .val (.ref b423), .unset] [(.int (1 : Int32)), (.int (1 : Int32))])) _
            refine XS.icmpYes X442.here hx rfl (pc0 := 107) (pc' := 112) rfl (hb hby at_107) rfl (teq (by decide : (1 : Int32) = (1 : Int32))).1 (by decide) (by decide) ?_
            show Steps p.tables e below (T442.setTop (mkF m 112 #[.val (.int p1), .val (.int p2), .val (.int p3), .val (.int p2), .val (.ref b419), .val (.ref b423), .unset] [])) _
            refine XS.iloadN X442.here hx rfl (hb hby at_112) rfl ?_
            show Steps p.tables e below (T442.setTop (mkF m 113 #[.val (.int p1), .val (.int p2), .val (.int p3), .val (.int p2), .val (.ref b419), .val (.ref b423), .unset] [(.int p1)])) _
            refine XS.iloadN X442.here hx rfl (hb hby at_113) rfl ?_
            show Steps p.tables e below (T442.setTop (mkF m 114 #[.val (.int p1), .val (.int p2), .val (.int p3), .val (.int p2), .val (.ref b419), .val (.ref b423), .unset] [(.int p2), (.int p1)])) _
            refine XS.icmpYes X442.here hx rfl (pc0 := 114) (pc' := 121) rfl (hb hby at_114) rfl (flt ((by rw [c3]; exact own_irr _) : ¬ (p1 < p2))).2.1 (by decide) (by decide) ?_
            show Steps p.tables e below (T442.setTop (mkF m 121 #[.val (.int p1), .val (.int p2), .val (.int p3), .val (.int p2), .val (.ref b419), .val (.ref b423), .unset] [])) _
            refine XS.iloadN X442.here hx rfl (hb hby at_121) rfl ?_
            show Steps p.tables e below (T442.setTop (mkF m 122 #[.val (.int p1), .val (.int p2), .val (.int p3), .val (.int p2), .val (.ref b419), .val (.ref b423), .unset] [(.int p1)])) _
            refine XS.iloadN X442.here hx rfl (hb hby at_122) rfl ?_
            show Steps p.tables e below (T442.setTop (mkF m 123 #[.val (.int p1), .val (.int p2), .val (.int p3), .val (.int p2), .val (.ref b419), .val (.ref b423), .unset] [(.int p2), (.int p1)])) _
            refine XS.icmpYes X442.here hx rfl (pc0 := 123) (pc' := 130) rfl (hb hby at_123) rfl (flt ((by rw [c3]; exact own_irr _) : ¬ (p2 < p1))).2.2.2 (by decide) (by decide) ?_
            show Steps p.tables e below (T442.setTop (mkF m 130 #[.val (.int p1), .val (.int p2), .val (.int p3), .val (.int p2), .val (.ref b419), .val (.ref b423), .unset] [])) _
            refine XS.iconst X442.here hx rfl (hb hby at_130) ?_
            show Steps p.tables e below (T442.setTop (mkF m 131 #[.val (.int p1), .val (.int p2), .val (.int p3), .val (.int p2), .val (.ref b419), .val (.ref b423), .unset] [(.int (0 : Int32))])) _
            refine XS.istore X442.here hx rfl (hb hby at_131) rfl (l' := #[.val (.int p1), .val (.int p2), .val (.int p3), .val (.int p2), .val (.ref b419), .val (.ref b423), .val (.int (0 : Int32))]) rfl ?_
            show Steps p.tables e below (T442.setTop (mkF m 133 #[.val (.int p1), .val (.int p2), .val (.int p3), .val (.int p2), .val (.ref b419), .val (.ref b423), .val (.int (0 : Int32))] [])) _
            refine XS.aload X442.here hx rfl (hb hby at_133) rfl rfl ?_
            show Steps p.tables e below (T442.setTop (mkF m 135 #[.val (.int p1), .val (.int p2), .val (.int p3), .val (.int p2), .val (.ref b419), .val (.ref b423), .val (.int (0 : Int32))] [(.ref b419)])) _
            refine XS.aload X442.here hx rfl (hb hby at_135) rfl rfl ?_
            show Steps p.tables e below (T442.setTop (mkF m 137 #[.val (.int p1), .val (.int p2), .val (.int p3), .val (.int p2), .val (.ref b419), .val (.ref b423), .val (.int (0 : Int32))] [(.ref b423), (.ref b419)])) _
            exact h)
        obtain ⟨cq445, kq445, q445a, q445b, q445c⟩ := isOf hZ hh442 Eb419
        obtain ⟨_, _, ⟨T445, L445, kk445, n445⟩, -, X445, ⟨Lc445, hQ445, l445, y445, z445⟩, st445⟩ := X442.virtualBack hx (y := (⟨"com/example/lumenplan/lumenplan/network/RankedPath", "compareTo", "(Lcom/example/lumenplan/lumenplan/network/RankedPath;)I"⟩ : MethodName)) (z := (⟨"com/example/lumenplan/lumenplan/network/RankedPath", "compareTo", "(Lcom/example/lumenplan/lumenplan/network/RankedPath;)I"⟩ : MethodName)) hown (mvT hZ (hw _ (List.mem_of_getElem? (i := 55) rfl))) (mvT hZ (hw _ (List.mem_of_getElem? (i := 56) rfl))) (notFace_of_selects (args := #[]) (mvT hZ (hw _ (List.mem_of_getElem? (i := 58) rfl)))) (mvT hZ (hw _ (List.mem_of_getElem? (i := 58) rfl))) (mvT hZ (hw _ (List.mem_of_getElem? (i := 57) rfl))) (by decide) (backOf (W := 0) (rmCTe l Z a0 hw [] b419 b423 d419 kd419 p1 d423 kd423 p2 wZ T423.heap n0 O425 EZ FSc FIc Fk419 Fk423 Fn419 Fn423 Vd419 Vd423 (fun q => ne_d419_d423 q) c3) hZ (hw _ (List.mem_of_getElem? (i := 59) rfl)) (hw _ (List.mem_of_getElem? (i := 2) rfl)) (by decide) (by decide)) q445a q445c (g := (mkF m 137 #[.val (.int p1), .val (.int p2), .val (.int p3), .val (.int p2), .val (.ref b419), .val (.ref b423), .val (.int (0 : Int32))] [(.ref b423), (.ref b419)])) rfl (by rw [hml]; rfl) (Steps.refl _) (argsL := [(.ref b423)]) (rest := []) (lenOf pd_10 rfl) rfl (by show 2 * 0 + _ ≤ _; exact Nat.le_of_eq rfl) (hb hby at_137) (fun _ _ => ⟨rfl, hh442, (by decide : 4 + 0 ≤ _), (by decide : 6 + 0 ≤ _)⟩)
        dsimp only [Pt.U, Pt.locs, Pt.cells, Pt.slots] at X445 l445 y445 z445 st445 hQ445
        subst l445 y445 z445
        obtain ⟨rfl, Nq445, hh445⟩ := hQ445
        have N445 := Fr.app N442 Nq445
        have k446 : Rch p e below S0 T445 (mkF m 140 #[.val (.int p1), .val (.int p2), .val (.int p3), .val (.int p2), .val (.ref b419), .val (.ref b423), .val (.int (0 : Int32))] [(.int (0 : Int32))]) := fun t h => k444 t (st445.trans h)
        obtain ⟨_, _, ⟨T447, L447, kk447, n447⟩, -, X447, ⟨Lc447, hQ447, l447, y447, z447⟩, st447⟩ := Jvm.LawKit.callS X445 hx (y := (⟨"com/example/lumenplan/lumenplan/network/RankedPathAtPinLaw", "sign", "(I)I"⟩ : MethodName)) hown (mvT hZ (hw _ (List.mem_of_getElem? (i := 85) rfl))) (mvT hZ (hw _ (List.mem_of_getElem? (i := 86) rfl))) (mvT hZ (hw _ (List.mem_of_getElem? (i := 87) rfl))) (mvT hZ (hw _ (List.mem_of_getElem? (i := 88) rfl))) (by decide) (backOf (W := 0) (rmGe l Z a0 hw []   T423.heap n0 O425 ) hZ (hw _ (List.mem_of_getElem? (i := 88) rfl)) (hw _ (List.mem_of_getElem? (i := 87) rfl)) (by decide) (by decide)) (g := (mkF m 140 #[.val (.int p1), .val (.int p2), .val (.int p3), .val (.int p2), .val (.ref b419), .val (.ref b423), .val (.int (0 : Int32))] [(.int (0 : Int32))])) rfl (by rw [hml]; rfl) (argsL := [(.int (0 : Int32))]) (rest := []) (lenOf pd_4 rfl) rfl (by show 2 * 0 + _ ≤ _; exact Nat.le_of_eq rfl) (hb hby at_140) (fun _ _ => ⟨rfl, hh445, (by decide : 4 + 0 ≤ _), (by decide : 6 + 0 ≤ _)⟩)
        dsimp only [Pt.U, Pt.locs, Pt.cells, Pt.slots] at X447 l447 y447 z447 st447 hQ447
        subst l447 y447 z447
        obtain ⟨rfl, Nq447, hh447⟩ := hQ447
        have N447 := Fr.app N445 Nq447
        have k448 : Rch p e below S0 T447 (mkF m 143 #[.val (.int p1), .val (.int p2), .val (.int p3), .val (.int p2), .val (.ref b419), .val (.ref b423), .val (.int (0 : Int32))] [(.int (0 : Int32))]) := fun t h => k446 t (st447 t h)
        have k449 : Rch p e below S0 T447 (mkF m 153 #[.val (.int p1), .val (.int p2), .val (.int p3), .val (.int p2), .val (.ref b419), .val (.ref b423), .val (.int (0 : Int32))] [(.int (1 : Int32))]) := fun t h => k448 t (by
            show Steps p.tables e below (T447.setTop (mkF m 143 #[.val (.int p1), .val (.int p2), .val (.int p3), .val (.int p2), .val (.ref b419), .val (.ref b423), .val (.int (0 : Int32))] [(.int (0 : Int32))])) _
            refine XS.iload X447.here hx rfl (hb hby at_143) rfl ?_
            show Steps p.tables e below (T447.setTop (mkF m 145 #[.val (.int p1), .val (.int p2), .val (.int p3), .val (.int p2), .val (.ref b419), .val (.ref b423), .val (.int (0 : Int32))] [(.int (0 : Int32)), (.int (0 : Int32))])) _
            refine XS.icmpNo X447.here hx rfl (hb hby at_145) rfl (teq (by decide : (0 : Int32) = (0 : Int32))).2 ?_
            show Steps p.tables e below (T447.setTop (mkF m 148 #[.val (.int p1), .val (.int p2), .val (.int p3), .val (.int p2), .val (.ref b419), .val (.ref b423), .val (.int (0 : Int32))] [])) _
            refine XS.iconst X447.here hx rfl (hb hby at_148) ?_
            show Steps p.tables e below (T447.setTop (mkF m 149 #[.val (.int p1), .val (.int p2), .val (.int p3), .val (.int p2), .val (.ref b419), .val (.ref b423), .val (.int (0 : Int32))] [(.int (1 : Int32))])) _
            refine XS.goto X447.here hx rfl (pc0 := 149) (pc' := 153) rfl (hb hby at_149) (by decide) (by decide) ?_
            show Steps p.tables e below (T447.setTop (mkF m 153 #[.val (.int p1), .val (.int p2), .val (.int p3), .val (.int p2), .val (.ref b419), .val (.ref b423), .val (.int (0 : Int32))] [(.int (1 : Int32))])) _
            exact h)
        obtain ⟨fs, hr, hrun, hended, hW, hsame⟩ := X447.leave (v := (some (.int (1 : Int32)))) (fun h => by rw [Bd.returns] at h; cases h)
        refine ⟨_, _, ?_, hrun, hended, _, _, rfl, ?_, ⟨_, rfl⟩, hW, hsame.mono (by decide) (by decide)⟩
        · rw [← hS0]
          refine k449 _ ?_
          show Steps p.tables e below (T447.setTop (mkF m 153 #[.val (.int p1), .val (.int p2), .val (.int p3), .val (.int p2), .val (.ref b419), .val (.ref b423), .val (.int (0 : Int32))] [(.int (1 : Int32))])) _
          exact retN X447 hx (t := .boolean) Bd.returns (by simp) (hb hby at_153) hr
        · show Q_rm0 Z  h0 n0 _ T447.heap _
          rw [hh447]
          exact ⟨rfl, N447⟩
  · have k321 : Rch p e below S0 s₁ (mkF m 11 #[.val (.int p1), .val (.int p2), .val (.int p3), .unset, .unset, .unset, .unset] [(.int p1)]) := fun t h => k0 t (by
        show Steps p.tables e below (s₁.setTop (mkF m 0 #[.val (.int p1), .val (.int p2), .val (.int p3), .unset, .unset, .unset, .unset] [])) _
        refine XS.iloadN X0.here hx rfl (hb hby at_0) rfl ?_
        show Steps p.tables e below (s₁.setTop (mkF m 1 #[.val (.int p1), .val (.int p2), .val (.int p3), .unset, .unset, .unset, .unset] [(.int p3)])) _
        refine XS.iconst X0.here hx rfl (hb hby at_1) ?_
        show Steps p.tables e below (s₁.setTop (mkF m 2 #[.val (.int p1), .val (.int p2), .val (.int p3), .unset, .unset, .unset, .unset] [(.int (1 : Int32)), (.int p3)])) _
        refine XS.iand X0.here hx rfl (hb hby at_2) rfl ?_
        show Steps p.tables e below (s₁.setTop (mkF m 3 #[.val (.int p1), .val (.int p2), .val (.int p3), .unset, .unset, .unset, .unset] [(.int (p3 &&& (1 : Int32)))])) _
        refine XS.ifNo X0.here hx rfl (hb hby at_3) rfl ((if0 _ _).trans (feq (hf : ¬ ((p3 &&& (1 : Int32)) = (0 : Int32)))).1) ?_
        show Steps p.tables e below (s₁.setTop (mkF m 6 #[.val (.int p1), .val (.int p2), .val (.int p3), .unset, .unset, .unset, .unset] [])) _
        refine XS.iloadN X0.here hx rfl (hb hby at_6) rfl ?_
        show Steps p.tables e below (s₁.setTop (mkF m 7 #[.val (.int p1), .val (.int p2), .val (.int p3), .unset, .unset, .unset, .unset] [(.int p1)])) _
        refine XS.goto X0.here hx rfl (pc0 := 7) (pc' := 11) rfl (hb hby at_7) (by decide) (by decide) ?_
        show Steps p.tables e below (s₁.setTop (mkF m 11 #[.val (.int p1), .val (.int p2), .val (.int p3), .unset, .unset, .unset, .unset] [(.int p1)])) _
        exact h)
    have k322 : Rch p e below S0 s₁ (mkF m 13 #[.val (.int p1), .val (.int p2), .val (.int p3), .val (.int p1), .unset, .unset, .unset] [(.int p1)]) := fun t h => k321 t (by
        show Steps p.tables e below (s₁.setTop (mkF m 11 #[.val (.int p1), .val (.int p2), .val (.int p3), .unset, .unset, .unset, .unset] [(.int p1)])) _
        refine XS.istoreN X0.here hx rfl (hb hby at_11) rfl (l' := #[.val (.int p1), .val (.int p2), .val (.int p3), .val (.int p1), .unset, .unset, .unset]) rfl ?_
        show Steps p.tables e below (s₁.setTop (mkF m 12 #[.val (.int p1), .val (.int p2), .val (.int p3), .val (.int p1), .unset, .unset, .unset] [])) _
        refine XS.iloadN X0.here hx rfl (hb hby at_12) rfl ?_
        show Steps p.tables e below (s₁.setTop (mkF m 13 #[.val (.int p1), .val (.int p2), .val (.int p3), .val (.int p1), .unset, .unset, .unset] [(.int p1)])) _
        exact h)
    obtain ⟨_, _, ⟨T323, L323, kk323, n323⟩, -, X323, ⟨Lc323, hQ323, l323, y323, z323⟩, st323⟩ := Jvm.LawKit.callS X0 hx (y := (⟨"com/example/lumenplan/lumenplan/network/RankedPath", "at", "(I)Lcom/example/lumenplan/lumenplan/network/RankedPath;"⟩ : MethodName)) hown (mvT hZ (hw _ (List.mem_of_getElem? (i := 0) rfl))) (mvT hZ (hw _ (List.mem_of_getElem? (i := 1) rfl))) (mvT hZ (hw _ (List.mem_of_getElem? (i := 2) rfl))) (mvT hZ (hw _ (List.mem_of_getElem? (i := 3) rfl))) (by decide) (backOf (W := 0) (rmT l Z a0 hw [] p1 wZ h0 n0 O0 SZ) hZ (hw _ (List.mem_of_getElem? (i := 3) rfl)) (hw _ (List.mem_of_getElem? (i := 2) rfl)) (by decide) (by decide)) (g := (mkF m 13 #[.val (.int p1), .val (.int p2), .val (.int p3), .val (.int p1), .unset, .unset, .unset] [(.int p1)])) rfl (by rw [hml]; rfl) (argsL := [(.int p1)]) (rest := []) (lenOf pd_0 rfl) rfl (by show 2 * 0 + _ ≤ _; exact Nat.le_of_eq rfl) (hb hby at_13) (fun _ _ => ⟨rfl, e0, (by decide : 0 + 2 ≤ _), (by decide : 0 + 3 ≤ _)⟩)
    dsimp only [Pt.U, Pt.locs, Pt.cells, Pt.slots] at X323 l323 y323 z323 st323 hQ323
    subst l323 y323 z323
    obtain ⟨b323, d323, kd323, rfl, Nq323, E323, zb323, zd323, Eb323, Fk323, Fn323, Vd323⟩ := hQ323
    have N323 := Fr.app N0 Nq323
    have k324 : Rch p e below S0 T323 (mkF m 16 #[.val (.int p1), .val (.int p2), .val (.int p3), .val (.int p1), .unset, .unset, .unset] [(.ref b323)]) := fun t h => k322 t (st323 t h)
    have ge_b323 : n0 ≤ b323 := own_ge O0 zb323
    have ge_d323 : n0 ≤ d323 := own_ge O0 zd323
    have O325 := O0.ext E323
    have k326 : Rch p e below S0 T323 (mkF m 19 #[.val (.int p1), .val (.int p2), .val (.int p3), .val (.int p1), .val (.ref b323), .unset, .unset] [(.int p1)]) := fun t h => k324 t (by
        show Steps p.tables e below (T323.setTop (mkF m 16 #[.val (.int p1), .val (.int p2), .val (.int p3), .val (.int p1), .unset, .unset, .unset] [(.ref b323)])) _
        refine XS.astore X323.here hx rfl (hb hby at_16) rfl rfl (l' := #[.val (.int p1), .val (.int p2), .val (.int p3), .val (.int p1), .val (.ref b323), .unset, .unset]) rfl ?_
        show Steps p.tables e below (T323.setTop (mkF m 18 #[.val (.int p1), .val (.int p2), .val (.int p3), .val (.int p1), .val (.ref b323), .unset, .unset] [])) _
        refine XS.iloadN X323.here hx rfl (hb hby at_18) rfl ?_
        show Steps p.tables e below (T323.setTop (mkF m 19 #[.val (.int p1), .val (.int p2), .val (.int p3), .val (.int p1), .val (.ref b323), .unset, .unset] [(.int p1)])) _
        exact h)
    obtain ⟨_, _, ⟨T327, L327, kk327, n327⟩, -, X327, ⟨Lc327, hQ327, l327, y327, z327⟩, st327⟩ := Jvm.LawKit.callS X323 hx (y := (⟨"com/example/lumenplan/lumenplan/network/RankedPath", "at", "(I)Lcom/example/lumenplan/lumenplan/network/RankedPath;"⟩ : MethodName)) hown (mvT hZ (hw _ (List.mem_of_getElem? (i := 0) rfl))) (mvT hZ (hw _ (List.mem_of_getElem? (i := 1) rfl))) (mvT hZ (hw _ (List.mem_of_getElem? (i := 2) rfl))) (mvT hZ (hw _ (List.mem_of_getElem? (i := 3) rfl))) (by decide) (backOf (W := 0) (rmT l Z a0 hw [] p1 wZ T323.heap n0 O325 SZ) hZ (hw _ (List.mem_of_getElem? (i := 3) rfl)) (hw _ (List.mem_of_getElem? (i := 2) rfl)) (by decide) (by decide)) (g := (mkF m 19 #[.val (.int p1), .val (.int p2), .val (.int p3), .val (.int p1), .val (.ref b323), .unset, .unset] [(.int p1)])) rfl (by rw [hml]; rfl) (argsL := [(.int p1)]) (rest := []) (lenOf pd_0 rfl) rfl (by show 2 * 0 + _ ≤ _; exact Nat.le_of_eq rfl) (hb hby at_19) (fun _ _ => ⟨rfl, rfl, (by decide : 2 + 2 ≤ _), (by decide : 3 + 3 ≤ _)⟩)
    dsimp only [Pt.U, Pt.locs, Pt.cells, Pt.slots] at X327 l327 y327 z327 st327 hQ327
    subst l327 y327 z327
    obtain ⟨b327, d327, kd327, rfl, Nq327, E327, zb327, zd327, Eb327, Fk327, Fn327, Vd327⟩ := hQ327
    have N327 := Fr.app N323 Nq327
    have k328 : Rch p e below S0 T327 (mkF m 22 #[.val (.int p1), .val (.int p2), .val (.int p3), .val (.int p1), .val (.ref b323), .unset, .unset] [(.ref b327)]) := fun t h => k326 t (st327 t h)
    have ne_b323_b327 : b323 ≠ b327 := own_ne Eb323.lt zb327
    have ne_d323_b327 : d323 ≠ b327 := own_ne Vd323.lt zb327
    have ge_b327 : n0 ≤ b327 := own_ge O325 zb327
    have ne_b323_d327 : b323 ≠ d327 := own_ne Eb323.lt zd327
    have ne_d323_d327 : d323 ≠ d327 := own_ne Vd323.lt zd327
    have ge_d327 : n0 ≤ d327 := own_ge O325 zd327
    have O329 := O325.ext E327
    replace Eb323 := Eb323.ext E327
    replace Fk323 := Fk323.ext E327
    replace Fn323 := Fn323.ext E327
    replace Vd323 := Vd323.ext E327
    have k330 : Rch p e below S0 T327 (mkF m 26 #[.val (.int p1), .val (.int p2), .val (.int p3), .val (.int p1), .val (.ref b323), .val (.ref b327), .unset] [(.ref b323)]) := fun t h => k328 t (by
        show Steps p.tables e below (T327.setTop (mkF m 22 #[.val (.int p1), .val (.int p2), .val (.int p3), .val (.int p1), .val (.ref b323), .unset, .unset] [(.ref b327)])) _
        refine XS.astore X327.here hx rfl (hb hby at_22) rfl rfl (l' := #[.val (.int p1), .val (.int p2), .val (.int p3), .val (.int p1), .val (.ref b323), .val (.ref b327), .unset]) rfl ?_
        show Steps p.tables e below (T327.setTop (mkF m 24 #[.val (.int p1), .val (.int p2), .val (.int p3), .val (.int p1), .val (.ref b323), .val (.ref b327), .unset] [])) _
        refine XS.aload X327.here hx rfl (hb hby at_24) rfl rfl ?_
        show Steps p.tables e below (T327.setTop (mkF m 26 #[.val (.int p1), .val (.int p2), .val (.int p3), .val (.int p1), .val (.ref b323), .val (.ref b327), .unset] [(.ref b323)])) _
        exact h)
    obtain ⟨cq331, kq331, q331a, q331b, q331c⟩ := isOf hZ rfl Eb323
    obtain ⟨_, _, ⟨T331, L331, kk331, n331⟩, -, X331, ⟨Lc331, hQ331, l331, y331, z331⟩, st331⟩ := X327.virtualBack hx (y := (⟨"com/example/lumenplan/lumenplan/network/RankedPath", "size", "()I"⟩ : MethodName)) (z := (⟨"com/example/lumenplan/lumenplan/network/RankedPath", "size", "()I"⟩ : MethodName)) hown (mvT hZ (hw _ (List.mem_of_getElem? (i := 19) rfl))) (mvT hZ (hw _ (List.mem_of_getElem? (i := 20) rfl))) (notFace_of_selects (args := #[]) (mvT hZ (hw _ (List.mem_of_getElem? (i := 22) rfl)))) (mvT hZ (hw _ (List.mem_of_getElem? (i := 22) rfl))) (mvT hZ (hw _ (List.mem_of_getElem? (i := 21) rfl))) (by decide) (backOf (W := 0) (rmSz l Z a0 hw [] b323 d323 kd323 p1 T327.heap n0 O329 Fn323 Vd323) hZ (hw _ (List.mem_of_getElem? (i := 23) rfl)) (hw _ (List.mem_of_getElem? (i := 2) rfl)) (by decide) (by decide)) q331a q331c (g := (mkF m 26 #[.val (.int p1), .val (.int p2), .val (.int p3), .val (.int p1), .val (.ref b323), .val (.ref b327), .unset] [(.ref b323)])) rfl (by rw [hml]; rfl) (Steps.refl _) (argsL := []) (rest := []) (lenOf pd_3 rfl) rfl (by show 2 * 0 + _ ≤ _; exact Nat.le_of_eq rfl) (hb hby at_26) (fun _ _ => ⟨rfl, rfl, (by decide : 4 + 0 ≤ _), (by decide : 6 + 0 ≤ _)⟩)
    dsimp only [Pt.U, Pt.locs, Pt.cells, Pt.slots] at X331 l331 y331 z331 st331 hQ331
    subst l331 y331 z331
    obtain ⟨rfl, Nq331, hh331⟩ := hQ331
    have N331 := Fr.app N327 Nq331
    have k332 : Rch p e below S0 T331 (mkF m 29 #[.val (.int p1), .val (.int p2), .val (.int p3), .val (.int p1), .val (.ref b323), .val (.ref b327), .unset] [(.int (1 : Int32))]) := fun t h => k330 t (st331.trans h)
    have k333 : Rch p e below S0 T331 (mkF m 38 #[.val (.int p1), .val (.int p2), .val (.int p3), .val (.int p1), .val (.ref b323), .val (.ref b327), .unset] [(.int (0 : Int32)), (.ref b323)]) := fun t h => k332 t (by
        show Steps p.tables e below (T331.setTop (mkF m 29 #[.val (.int p1), .val (.int p2), .val (.int p3), .val (.int p1), .val (.ref b323), .val (.ref b327), .unset] [(.int (1 : Int32))])) _
        refine XS.iconst X331.here hx rfl (hb hby at_29) ?_
        show Steps p.tables e below (T331.setTop (mkF m 30 #[.val (.int p1), .val (.int p2), .val (.int p3), .val (.int p1), .val (.ref b323), .val (.ref b327), .unset] [(.int (1 : Int32)), (.int (1 : Int32))])) _
        refine XS.icmpYes X331.here hx rfl (pc0 := 30) (pc' := 35) rfl (hb hby at_30) rfl (teq (by decide : (1 : Int32) = (1 : Int32))).1 (by decide) (by decide) ?_
        show Steps p.tables e below (T331.setTop (mkF m 35 #[.val (.int p1), .val (.int p2), .val (.int p3), .val (.int p1), .val (.ref b323), .val (.ref b327), .unset] [])) _
        refine XS.aload X331.here hx rfl (hb hby at_35) rfl rfl ?_
        show Steps p.tables e below (T331.setTop (mkF m 37 #[.val (.int p1), .val (.int p2), .val (.int p3), .val (.int p1), .val (.ref b323), .val (.ref b327), .unset] [(.ref b323)])) _
        refine XS.iconst X331.here hx rfl (hb hby at_37) ?_
        show Steps p.tables e below (T331.setTop (mkF m 38 #[.val (.int p1), .val (.int p2), .val (.int p3), .val (.int p1), .val (.ref b323), .val (.ref b327), .unset] [(.int (0 : Int32)), (.ref b323)])) _
        exact h)
    obtain ⟨cq334, kq334, q334a, q334b, q334c⟩ := isOf hZ hh331 Eb323
    obtain ⟨_, _, ⟨T334, L334, kk334, n334⟩, -, X334, ⟨Lc334, hQ334, l334, y334, z334⟩, st334⟩ := X331.virtualBack hx (y := (⟨"com/example/lumenplan/lumenplan/network/RankedPath", "node", "(I)I"⟩ : MethodName)) (z := (⟨"com/example/lumenplan/lumenplan/network/RankedPath", "node", "(I)I"⟩ : MethodName)) hown (mvT hZ (hw _ (List.mem_of_getElem? (i := 24) rfl))) (mvT hZ (hw _ (List.mem_of_getElem? (i := 25) rfl))) (notFace_of_selects (args := #[]) (mvT hZ (hw _ (List.mem_of_getElem? (i := 27) rfl)))) (mvT hZ (hw _ (List.mem_of_getElem? (i := 27) rfl))) (mvT hZ (hw _ (List.mem_of_getElem? (i := 26) rfl))) (by decide) (backOf (W := 0) (rmNd l Z a0 hw [] b323 d323 kd323 p1 T327.heap n0 O329 Fn323 Vd323) hZ (hw _ (List.mem_of_getElem? (i := 28) rfl)) (hw _ (List.mem_of_getElem? (i := 2) rfl)) (by decide) (by decide)) q334a q334c (g := (mkF m 38 #[.val (.int p1), .val (.int p2), .val (.int p3), .val (.int p1), .val (.ref b323), .val (.ref b327), .unset] [(.int (0 : Int32)), (.ref b323)])) rfl (by rw [hml]; rfl) (Steps.refl _) (argsL := [(.int (0 : Int32))]) (rest := []) (lenOf pd_4 rfl) rfl (by show 2 * 0 + _ ≤ _; exact Nat.le_of_eq rfl) (hb hby at_38) (fun _ _ => ⟨rfl, hh331, (by decide : 4 + 0 ≤ _), (by decide : 6 + 0 ≤ _)⟩)
    dsimp only [Pt.U, Pt.locs, Pt.cells, Pt.slots] at X334 l334 y334 z334 st334 hQ334
    subst l334 y334 z334
    obtain ⟨rfl, Nq334, hh334⟩ := hQ334
    have N334 := Fr.app N331 Nq334
    have k335 : Rch p e below S0 T334 (mkF m 41 #[.val (.int p1), .val (.int p2), .val (.int p3), .val (.int p1), .val (.ref b323), .val (.ref b327), .unset] [(.int p1)]) := fun t h => k333 t (st334.trans h)
    have k336 : Rch p e below S0 T334 (mkF m 49 #[.val (.int p1), .val (.int p2), .val (.int p3), .val (.int p1), .val (.ref b323), .val (.ref b327), .unset] [(.ref b323)]) := fun t h => k335 t (by
        show Steps p.tables e below (T334.setTop (mkF m 41 #[.val (.int p1), .val (.int p2), .val (.int p3), .val (.int p1), .val (.ref b323), .val (.ref b327), .unset] [(.int p1)])) _
        refine XS.iloadN X334.here hx rfl (hb hby at_41) rfl ?_
        show Steps p.tables e below (T334.setTop (mkF m 42 #[.val (.int p1), .val (.int p2), .val (.int p3), .val (.int p1), .val (.ref b323), .val (.ref b327), .unset] [(.int p1), (.int p1)])) _
        refine XS.icmpYes X334.here hx rfl (pc0 := 42) (pc' := 47) rfl (hb hby at_42) rfl (teq (rfl : p1 = p1)).1 (by decide) (by decide) ?_
        show Steps p.tables e below (T334.setTop (mkF m 47 #[.val (.int p1), .val (.int p2), .val (.int p3), .val (.int p1), .val (.ref b323), .val (.ref b327), .unset] [])) _
        refine XS.aload X334.here hx rfl (hb hby at_47) rfl rfl ?_
        show Steps p.tables e below (T334.setTop (mkF m 49 #[.val (.int p1), .val (.int p2), .val (.int p3), .val (.int p1), .val (.ref b323), .val (.ref b327), .unset] [(.ref b323)])) _
        exact h)
    obtain ⟨cq337, kq337, q337a, q337b, q337c⟩ := isOf hZ hh334 Eb323
    obtain ⟨_, _, ⟨T337, L337, kk337, n337⟩, -, X337, ⟨Lc337, hQ337, l337, y337, z337⟩, st337⟩ := X334.virtualBack hx (y := (⟨"com/example/lumenplan/lumenplan/network/RankedPath", "last", "()I"⟩ : MethodName)) (z := (⟨"com/example/lumenplan/lumenplan/network/RankedPath", "last", "()I"⟩ : MethodName)) hown (mvT hZ (hw _ (List.mem_of_getElem? (i := 29) rfl))) (mvT hZ (hw _ (List.mem_of_getElem? (i := 30) rfl))) (notFace_of_selects (args := #[]) (mvT hZ (hw _ (List.mem_of_getElem? (i := 32) rfl)))) (mvT hZ (hw _ (List.mem_of_getElem? (i := 32) rfl))) (mvT hZ (hw _ (List.mem_of_getElem? (i := 31) rfl))) (by decide) (backOf (W := 0) (rmLa l Z a0 hw [] b323 d323 kd323 p1 T327.heap n0 O329 Fn323 Vd323) hZ (hw _ (List.mem_of_getElem? (i := 33) rfl)) (hw _ (List.mem_of_getElem? (i := 2) rfl)) (by decide) (by decide)) q337a q337c (g := (mkF m 49 #[.val (.int p1), .val (.int p2), .val (.int p3), .val (.int p1), .val (.ref b323), .val (.ref b327), .unset] [(.ref b323)])) rfl (by rw [hml]; rfl) (Steps.refl _) (argsL := []) (rest := []) (lenOf pd_3 rfl) rfl (by show 2 * 0 + _ ≤ _; exact Nat.le_of_eq rfl) (hb hby at_49) (fun _ _ => ⟨rfl, hh334, (by decide : 4 + 0 ≤ _), (by decide : 6 + 0 ≤ _)⟩)
    dsimp only [Pt.U, Pt.locs, Pt.cells, Pt.slots] at X337 l337 y337 z337 st337 hQ337
    subst l337 y337 z337
    obtain ⟨rfl, Nq337, hh337⟩ := hQ337
    have N337 := Fr.app N334 Nq337
    have k338 : Rch p e below S0 T337 (mkF m 52 #[.val (.int p1), .val (.int p2), .val (.int p3), .val (.int p1), .val (.ref b323), .val (.ref b327), .unset] [(.int p1)]) := fun t h => k336 t (st337.trans h)
    have k339 : Rch p e below S0 T337 (mkF m 61 #[.val (.int p1), .val (.int p2), .val (.int p3), .val (.int p1), .val (.ref b323), .val (.ref b327), .unset] [(.int p1), (.ref b323)]) := fun t h => k338 t (by
        show Steps p.tables e below (T337.setTop (mkF m 52 #[.val (.int p1), .val (.int p2), .val (.int p3), .val (.int p1), .val (.ref b323), .val (.ref b327), .unset] [(.int p1)])) _
        refine XS.iloadN X337.here hx rfl (hb hby at_52) rfl ?_
        show Steps p.tables e below (T337.setTop (mkF m 53 #[.val (.int p1), .val (.int p2), .val (.int p3), .val (.int p1), .val (.ref b323), .val (.ref b327), .unset] [(.int p1), (.int p1)])) _
        refine XS.icmpYes X337.here hx rfl (pc0 := 53) (pc' := 58) rfl (hb hby at_53) rfl (teq (rfl : p1 = p1)).1 (by decide) (by decide) ?_
        show Steps p.tables e below (T337.setTop (mkF m 58 #[.val (.int p1), .val (.int p2), .val (.int p3), .val (.int p1), .val (.ref b323), .val (.ref b327), .unset] [])) _
        refine XS.aload X337.here hx rfl (hb hby at_58) rfl rfl ?_
        show Steps p.tables e below (T337.setTop (mkF m 60 #[.val (.int p1), .val (.int p2), .val (.int p3), .val (.int p1), .val (.ref b323), .val (.ref b327), .unset] [(.ref b323)])) _
        refine XS.iloadN X337.here hx rfl (hb hby at_60) rfl ?_
        show Steps p.tables e below (T337.setTop (mkF m 61 #[.val (.int p1), .val (.int p2), .val (.int p3), .val (.int p1), .val (.ref b323), .val (.ref b327), .unset] [(.int p1), (.ref b323)])) _
        exact h)
    obtain ⟨cq340, kq340, q340a, q340b, q340c⟩ := isOf hZ hh337 Eb323
    obtain ⟨_, _, ⟨T340, L340, kk340, n340⟩, -, X340, ⟨Lc340, hQ340, l340, y340, z340⟩, st340⟩ := X337.virtualBack hx (y := (⟨"com/example/lumenplan/lumenplan/network/RankedPath", "passes", "(I)Z"⟩ : MethodName)) (z := (⟨"com/example/lumenplan/lumenplan/network/RankedPath", "passes", "(I)Z"⟩ : MethodName)) hown (mvT hZ (hw _ (List.mem_of_getElem? (i := 34) rfl))) (mvT hZ (hw _ (List.mem_of_getElem? (i := 35) rfl))) (notFace_of_selects (args := #[]) (mvT hZ (hw _ (List.mem_of_getElem? (i := 37) rfl)))) (mvT hZ (hw _ (List.mem_of_getElem? (i := 37) rfl))) (mvT hZ (hw _ (List.mem_of_getElem? (i := 36) rfl))) (by decide) (backOf (W := 0) (rmPa_y l Z a0 hw [] b323 d323 kd323 p1 p1 T327.heap n0 O329 Fn323 Vd323 rfl) hZ (hw _ (List.mem_of_getElem? (i := 38) rfl)) (hw _ (List.mem_of_getElem? (i := 2) rfl)) (by decide) (by decide)) q340a q340c (g := (mkF m 61 #[.val (.int p1), .val (.int p2), .val (.int p3), .val (.int p1), .val (.ref b323), .val (.ref b327), .unset] [(.int p1), (.ref b323)])) rfl (by rw [hml]; rfl) (Steps.refl _) (argsL := [(.int p1)]) (rest := []) (lenOf pd_5 rfl) rfl (by show 2 * 0 + _ ≤ _; exact Nat.le_of_eq rfl) (hb hby at_61) (fun _ _ => ⟨rfl, hh337, (by decide : 4 + 0 ≤ _), (by decide : 6 + 0 ≤ _)⟩)
    dsimp only [Pt.U, Pt.locs, Pt.cells, Pt.slots] at X340 l340 y340 z340 st340 hQ340
    subst l340 y340 z340
    obtain ⟨rfl, Nq340, hh340⟩ := hQ340
    have N340 := Fr.app N337 Nq340
    have k341 : Rch p e below S0 T340 (mkF m 64 #[.val (.int p1), .val (.int p2), .val (.int p3), .val (.int p1), .val (.ref b323), .val (.ref b327), .unset] [(.int (1 : Int32))]) := fun t h => k339 t (st340.trans h)
    have k342 : Rch p e below S0 T340 (mkF m 72 #[.val (.int p1), .val (.int p2), .val (.int p3), .val (.int p1), .val (.ref b323), .val (.ref b327), .unset] [(.int p1), (.ref b323)]) := fun t h => k341 t (by
        show Steps p.tables e below (T340.setTop (mkF m 64 #[.val (.int p1), .val (.int p2), .val (.int p3), .val (.int p1), .val (.ref b323), .val (.ref b327), .unset] [(.int (1 : Int32))])) _
        refine XS.ifYes X340.here hx rfl (pc0 := 64) (pc' := 69) rfl (hb hby at_64) rfl ((if0 _ _).trans (feq (by decide : ¬ ((1 : Int32) = (0 : Int32)))).2) (by decide) (by decide) ?_
        show Steps p.tables e below (T340.setTop (mkF m 69 #[.val (.int p1), .val (.int p2), .val (.int p3), .val (.int p1), .val (.ref b323), .val (.ref b327), .unset] [])) _
        refine XS.aload X340.here hx rfl (hb hby at_69) rfl rfl ?_
        show Steps p.tables e below (T340.setTop (mkF m 71 #[.val (.int p1), .val (.int p2), .val (.int p3), .val (.int p1), .val (.ref b323), .val (.ref b327), .unset] [(.ref b323)])) _
        refine XS.iloadN X340.here hx rfl (hb hby at_71) rfl ?_
        show Steps p.tables e below (T340.setTop (mkF m 72 #[.val (.int p1), .val (.int p2), .val (.int p3), .val (.int p1), .val (.ref b323), .val (.ref b327), .unset] [(.int p1), (.ref b323)])) _
        exact h)
    obtain ⟨cq343, kq343, q343a, q343b, q343c⟩ := isOf hZ hh340 Eb323
    obtain ⟨_, _, ⟨T343, L343, kk343, n343⟩, -, X343, ⟨Lc343, hQ343, l343, y343, z343⟩, st343⟩ := X340.virtualBack hx (y := (⟨"com/example/lumenplan/lumenplan/network/RankedPath", "passes", "(I)Z"⟩ : MethodName)) (z := (⟨"com/example/lumenplan/lumenplan/network/RankedPath", "passes", "(I)Z"⟩ : MethodName)) hown (mvT hZ (hw _ (List.mem_of_getElem? (i := 34) rfl))) (mvT hZ (hw _ (List.mem_of_getElem? (i := 35) rfl))) (notFace_of_selects (args := #[]) (mvT hZ (hw _ (List.mem_of_getElem? (i := 37) rfl)))) (mvT hZ (hw _ (List.mem_of_getElem? (i := 37) rfl))) (mvT hZ (hw _ (List.mem_of_getElem? (i := 36) rfl))) (by decide) (backOf (W := 0) (rmPa_y l Z a0 hw [] b323 d323 kd323 p1 p1 T327.heap n0 O329 Fn323 Vd323 rfl) hZ (hw _ (List.mem_of_getElem? (i := 38) rfl)) (hw _ (List.mem_of_getElem? (i := 2) rfl)) (by decide) (by decide)) q343a q343c (g := (mkF m 72 #[.val (.int p1), .val (.int p2), .val (.int p3), .val (.int p1), .val (.ref b323), .val (.ref b327), .unset] [(.int p1), (.ref b323)])) rfl (by rw [hml]; rfl) (Steps.refl _) (argsL := [(.int p1)]) (rest := []) (lenOf pd_5 rfl) rfl (by show 2 * 0 + _ ≤ _; exact Nat.le_of_eq rfl) (hb hby at_72) (fun _ _ => ⟨rfl, hh340, (by decide : 4 + 0 ≤ _), (by decide : 6 + 0 ≤ _)⟩)
    dsimp only [Pt.U, Pt.locs, Pt.cells, Pt.slots] at X343 l343 y343 z343 st343 hQ343
    subst l343 y343 z343
    obtain ⟨rfl, Nq343, hh343⟩ := hQ343
    have N343 := Fr.app N340 Nq343
    have k344 : Rch p e below S0 T343 (mkF m 75 #[.val (.int p1), .val (.int p2), .val (.int p3), .val (.int p1), .val (.ref b323), .val (.ref b327), .unset] [(.int (1 : Int32))]) := fun t h => k342 t (st343.trans h)
    have k345 : Rch p e below S0 T343 (mkF m 94 #[.val (.int p1), .val (.int p2), .val (.int p3), .val (.int p1), .val (.ref b323), .val (.ref b327), .unset] [(.ref b327), (.ref b323)]) := fun t h => k344 t (by
        show Steps p.tables e below (T343.setTop (mkF m 75 #[.val (.int p1), .val (.int p2), .val (.int p3), .val (.int p1), .val (.ref b323), .val (.ref b327), .unset] [(.int (1 : Int32))])) _
        refine XS.iloadN X343.here hx rfl (hb hby at_75) rfl ?_
        show Steps p.tables e below (T343.setTop (mkF m 76 #[.val (.int p1), .val (.int p2), .val (.int p3), .val (.int p1), .val (.ref b323), .val (.ref b327), .unset] [(.int p1), (.int (1 : Int32))])) _
        refine XS.iloadN X343.here hx rfl (hb hby at_76) rfl ?_
        show Steps p.tables e below (T343.setTop (mkF m 77 #[.val (.int p1), .val (.int p2), .val (.int p3), .val (.int p1), .val (.ref b323), .val (.ref b327), .unset] [(.int p1), (.int p1), (.int (1 : Int32))])) _
        refine XS.icmpNo X343.here hx rfl (hb hby at_77) rfl (teq (rfl : p1 = p1)).2 ?_
        show Steps p.tables e below (T343.setTop (mkF m 80 #[.val (.int p1), .val (.int p2), .val (.int p3), .val (.int p1), .val (.ref b323), .val (.ref b327), .unset] [(.int (1 : Int32))])) _
        refine XS.iconst X343.here hx rfl (hb hby at_80) ?_
        show Steps p.tables e below (T343.setTop (mkF m 81 #[.val (.int p1), .val (.int p2), .val (.int p3), .val (.int p1), .val (.ref b323), .val (.ref b327), .unset] [(.int (1 : Int32)), (.int (1 : Int32))])) _
        refine XS.goto X343.here hx rfl (pc0 := 81) (pc' := 85) rfl (hb hby at_81) (by decide) (by decide) ?_
        show Steps p.tables e below (T343.setTop (mkF m 85 #[.val (.int p1), .val (.int p2), .val (.int p3), .val (.int p1), .val (.ref b323), .val (.ref b327), .unset] [(.int (1 : Int32)), (.int (1 : Int32))])) _
        refine XS.icmpYes X343.here hx rfl (pc0 := 85) (pc' := 90) rfl (hb hby at_85) rfl (teq (by decide : (1 : Int32) = (1 : Int32))).1 (by decide) (by decide) ?_
        show Steps p.tables e below (T343.setTop (mkF m 90 #[.val (.int p1), .val (.int p2), .val (.int p3), .val (.int p1), .val (.ref b323), .val (.ref b327), .unset] [])) _
        refine XS.aload X343.here hx rfl (hb hby at_90) rfl rfl ?_
        show Steps p.tables e below (T343.setTop (mkF m 92 #[.val (.int p1), .val (.int p2), .val (.int p3), .val (.int p1), .val (.ref b323), .val (.ref b327), .unset] [(.ref b323)])) _
        refine XS.aload X343.here hx rfl (hb hby at_92) rfl rfl ?_
        show Steps p.tables e below (T343.setTop (mkF m 94 #[.val (.int p1), .val (.int p2), .val (.int p3), .val (.int p1), .val (.ref b323), .val (.ref b327), .unset] [(.ref b327), (.ref b323)])) _
        exact h)
    obtain ⟨cq346, kq346, q346a, q346b, q346c⟩ := isOf hZ hh343 Eb323
    obtain ⟨_, _, ⟨T346, L346, kk346, n346⟩, -, X346, ⟨Lc346, hQ346, l346, y346, z346⟩, st346⟩ := X343.virtualBack hx (y := (⟨"com/example/lumenplan/lumenplan/network/RankedPath", "startsWith", "(Lcom/example/lumenplan/lumenplan/network/RankedPath;)Z"⟩ : MethodName)) (z := (⟨"com/example/lumenplan/lumenplan/network/RankedPath", "startsWith", "(Lcom/example/lumenplan/lumenplan/network/RankedPath;)Z"⟩ : MethodName)) hown (mvT hZ (hw _ (List.mem_of_getElem? (i := 39) rfl))) (mvT hZ (hw _ (List.mem_of_getElem? (i := 40) rfl))) (notFace_of_selects (args := #[]) (mvT hZ (hw _ (List.mem_of_getElem? (i := 42) rfl)))) (mvT hZ (hw _ (List.mem_of_getElem? (i := 42) rfl))) (mvT hZ (hw _ (List.mem_of_getElem? (i := 41) rfl))) (by decide) (backOf (W := 0) (rmSWe l Z a0 hw [] b323 b327 d323 kd323 p1 d327 kd327 p1 T327.heap n0 O329 Fn323 Fn327 Vd323 Vd327 rfl) hZ (hw _ (List.mem_of_getElem? (i := 43) rfl)) (hw _ (List.mem_of_getElem? (i := 2) rfl)) (by decide) (by decide)) q346a q346c (g := (mkF m 94 #[.val (.int p1), .val (.int p2), .val (.int p3), .val (.int p1), .val (.ref b323), .val (.ref b327), .unset] [(.ref b327), (.ref b323)])) rfl (by rw [hml]; rfl) (Steps.refl _) (argsL := [(.ref b327)]) (rest := []) (lenOf pd_6 rfl) rfl (by show 2 * 0 + _ ≤ _; exact Nat.le_of_eq rfl) (hb hby at_94) (fun _ _ => ⟨rfl, hh343, (by decide : 4 + 0 ≤ _), (by decide : 6 + 0 ≤ _)⟩)
    dsimp only [Pt.U, Pt.locs, Pt.cells, Pt.slots] at X346 l346 y346 z346 st346 hQ346
    subst l346 y346 z346
    obtain ⟨rfl, Nq346, hh346⟩ := hQ346
    have N346 := Fr.app N343 Nq346
    have k347 : Rch p e below S0 T346 (mkF m 97 #[.val (.int p1), .val (.int p2), .val (.int p3), .val (.int p1), .val (.ref b323), .val (.ref b327), .unset] [(.int (1 : Int32))]) := fun t h => k345 t (st346.trans h)
    have k348 : Rch p e below S0 T346 (mkF m 137 #[.val (.int p1), .val (.int p2), .val (.int p3), .val (.int p1), .val (.ref b323), .val (.ref b327), .val (.int (0 : Int32))] [(.ref b327), (.ref b323)]) := fun t h => k347 t (by
        show Steps p.tables e below (T346.setTop (mkF m 97 #[.val (.int p1), .val (.int p2), .val (.int p3), .val (.int p1), .val (.ref b323), .val (.ref b327), .unset] [(.int (1 : Int32))])) _
        refine XS.iloadN X346.here hx rfl (hb hby at_97) rfl ?_
        show Steps p.tables e below (T346.setTop (mkF m 98 #[.val (.int p1), .val (.int p2), .val (.int p3), .val (.int p1), .val (.ref b323), .val (.ref b327), .unset] [(.int p1), (.int (1 : Int32))])) _
        refine XS.iloadN X346.here hx rfl (hb hby at_98) rfl ?_
        show Steps p.tables e below (T346.setTop (mkF m 99 #[.val (.int p1), .val (.int p2), .val (.int p3), .val (.int p1), .val (.ref b323), .val (.ref b327), .unset] [(.int p1), (.int p1), (.int (1 : Int32))])) _
        refine XS.icmpNo X346.here hx rfl (hb hby at_99) rfl (teq (rfl : p1 = p1)).2 ?_
        show Steps p.tables e below (T346.setTop (mkF m 102 #[.val (.int p1), .val (.int p2), .val (.int p3), .val (.int p1), .val (.ref b323), .val (.ref b327), .unset] [(.int (1 : Int32))])) _
        refine XS.iconst X346.here hx rfl (hb hby at_102) ?_
        show Steps p.tables e below (T346.setTop (mkF m 103 #[.val (.int p1), .val (.int p2), .val (.int p3), .val (.int p1), .val (.ref b323), .val (.ref b327), .unset] [(.int (1 : Int32)), (.int (1 : Int32))])) _
        refine XS.goto X346.here hx rfl (pc0 := 103) (pc' := 107) rfl (hb hby at_103) (by decide) (by decide) ?_
        show Steps p.tables e below (T346.setTop (mkF m 107 #[.val (.int p1), .val (.int p2), .val (.int p3), .val (.int p1), .val (.ref b323), .val (.ref b327), .unset] [(.int (1 : Int32)), (.int (1 : Int32))])) _
        refine XS.icmpYes X346.here hx rfl (pc0 := 107) (pc' := 112) rfl (hb hby at_107) rfl (teq (by decide : (1 : Int32) = (1 : Int32))).1 (by decide) (by decide) ?_
        show Steps p.tables e below (T346.setTop (mkF m 112 #[.val (.int p1), .val (.int p2), .val (.int p3), .val (.int p1), .val (.ref b323), .val (.ref b327), .unset] [])) _
        refine XS.iloadN X346.here hx rfl (hb hby at_112) rfl ?_
        show Steps p.tables e below (T346.setTop (mkF m 113 #[.val (.int p1), .val (.int p2), .val (.int p3), .val (.int p1), .val (.ref b323), .val (.ref b327), .unset] [(.int p1)])) _
        refine XS.iloadN X346.here hx rfl (hb hby at_113) rfl ?_
        show Steps p.tables e below (T346.setTop (mkF m 114 #[.val (.int p1), .val (.int p2), .val (.int p3), .val (.int p1), .val (.ref b323), .val (.ref b327), .unset] [(.int p1), (.int p1)])) _
        refine XS.icmpYes X346.here hx rfl (pc0 := 114) (pc' := 121) rfl (hb hby at_114) rfl (flt ((own_irr _) : ¬ (p1 < p1))).2.1 (by decide) (by decide) ?_
        show Steps p.tables e below (T346.setTop (mkF m 121 #[.val (.int p1), .val (.int p2), .val (.int p3), .val (.int p1), .val (.ref b323), .val (.ref b327), .unset] [])) _
        refine XS.iloadN X346.here hx rfl (hb hby at_121) rfl ?_
        show Steps p.tables e below (T346.setTop (mkF m 122 #[.val (.int p1), .val (.int p2), .val (.int p3), .val (.int p1), .val (.ref b323), .val (.ref b327), .unset] [(.int p1)])) _
        refine XS.iloadN X346.here hx rfl (hb hby at_122) rfl ?_
        show Steps p.tables e below (T346.setTop (mkF m 123 #[.val (.int p1), .val (.int p2), .val (.int p3), .val (.int p1), .val (.ref b323), .val (.ref b327), .unset] [(.int p1), (.int p1)])) _
        refine XS.icmpYes X346.here hx rfl (pc0 := 123) (pc' := 130) rfl (hb hby at_123) rfl (flt ((own_irr _) : ¬ (p1 < p1))).2.2.2 (by decide) (by decide) ?_
        show Steps p.tables e below (T346.setTop (mkF m 130 #[.val (.int p1), .val (.int p2), .val (.int p3), .val (.int p1), .val (.ref b323), .val (.ref b327), .unset] [])) _
        refine XS.iconst X346.here hx rfl (hb hby at_130) ?_
        show Steps p.tables e below (T346.setTop (mkF m 131 #[.val (.int p1), .val (.int p2), .val (.int p3), .val (.int p1), .val (.ref b323), .val (.ref b327), .unset] [(.int (0 : Int32))])) _
        refine XS.istore X346.here hx rfl (hb hby at_131) rfl (l' := #[.val (.int p1), .val (.int p2), .val (.int p3), .val (.int p1), .val (.ref b323), .val (.ref b327), .val (.int (0 : Int32))]) rfl ?_
        show Steps p.tables e below (T346.setTop (mkF m 133 #[.val (.int p1), .val (.int p2), .val (.int p3), .val (.int p1), .val (.ref b323), .val (.ref b327), .val (.int (0 : Int32))] [])) _
        refine XS.aload X346.here hx rfl (hb hby at_133) rfl rfl ?_
        show Steps p.tables e below (T346.setTop (mkF m 135 #[.val (.int p1), .val (.int p2), .val (.int p3), .val (.int p1), .val (.ref b323), .val (.ref b327), .val (.int (0 : Int32))] [(.ref b323)])) _
        refine XS.aload X346.here hx rfl (hb hby at_135) rfl rfl ?_
        show Steps p.tables e below (T346.setTop (mkF m 137 #[.val (.int p1), .val (.int p2), .val (.int p3), .val (.int p1), .val (.ref b323), .val (.ref b327), .val (.int (0 : Int32))] [(.ref b327), (.ref b323)])) _
        exact h)
    obtain ⟨cq349, kq349, q349a, q349b, q349c⟩ := isOf hZ hh346 Eb323
    obtain ⟨_, _, ⟨T349, L349, kk349, n349⟩, -, X349, ⟨Lc349, hQ349, l349, y349, z349⟩, st349⟩ := X346.virtualBack hx (y := (⟨"com/example/lumenplan/lumenplan/network/RankedPath", "compareTo", "(Lcom/example/lumenplan/lumenplan/network/RankedPath;)I"⟩ : MethodName)) (z := (⟨"com/example/lumenplan/lumenplan/network/RankedPath", "compareTo", "(Lcom/example/lumenplan/lumenplan/network/RankedPath;)I"⟩ : MethodName)) hown (mvT hZ (hw _ (List.mem_of_getElem? (i := 55) rfl))) (mvT hZ (hw _ (List.mem_of_getElem? (i := 56) rfl))) (notFace_of_selects (args := #[]) (mvT hZ (hw _ (List.mem_of_getElem? (i := 58) rfl)))) (mvT hZ (hw _ (List.mem_of_getElem? (i := 58) rfl))) (mvT hZ (hw _ (List.mem_of_getElem? (i := 57) rfl))) (by decide) (backOf (W := 0) (rmCTe l Z a0 hw [] b323 b327 d323 kd323 p1 d327 kd327 p1 wZ T327.heap n0 O329 EZ FSc FIc Fk323 Fk327 Fn323 Fn327 Vd323 Vd327 (fun q => ne_d323_d327 q) rfl) hZ (hw _ (List.mem_of_getElem? (i := 59) rfl)) (hw _ (List.mem_of_getElem? (i := 2) rfl)) (by decide) (by decide)) q349a q349c (g := (mkF m 137 #[.val (.int p1), .val (.int p2), .val (.int p3), .val (.int p1), .val (.ref b323), .val (.ref b327), .val (.int (0 : Int32))] [(.ref b327), (.ref b323)])) rfl (by rw [hml]; rfl) (Steps.refl _) (argsL := [(.ref b327)]) (rest := []) (lenOf pd_10 rfl) rfl (by show 2 * 0 + _ ≤ _; exact Nat.le_of_eq rfl) (hb hby at_137) (fun _ _ => ⟨rfl, hh346, (by decide : 4 + 0 ≤ _), (by decide : 6 + 0 ≤ _)⟩)
    dsimp only [Pt.U, Pt.locs, Pt.cells, Pt.slots] at X349 l349 y349 z349 st349 hQ349
    subst l349 y349 z349
    obtain ⟨rfl, Nq349, hh349⟩ := hQ349
    have N349 := Fr.app N346 Nq349
    have k350 : Rch p e below S0 T349 (mkF m 140 #[.val (.int p1), .val (.int p2), .val (.int p3), .val (.int p1), .val (.ref b323), .val (.ref b327), .val (.int (0 : Int32))] [(.int (0 : Int32))]) := fun t h => k348 t (st349.trans h)
    obtain ⟨_, _, ⟨T351, L351, kk351, n351⟩, -, X351, ⟨Lc351, hQ351, l351, y351, z351⟩, st351⟩ := Jvm.LawKit.callS X349 hx (y := (⟨"com/example/lumenplan/lumenplan/network/RankedPathAtPinLaw", "sign", "(I)I"⟩ : MethodName)) hown (mvT hZ (hw _ (List.mem_of_getElem? (i := 85) rfl))) (mvT hZ (hw _ (List.mem_of_getElem? (i := 86) rfl))) (mvT hZ (hw _ (List.mem_of_getElem? (i := 87) rfl))) (mvT hZ (hw _ (List.mem_of_getElem? (i := 88) rfl))) (by decide) (backOf (W := 0) (rmGe l Z a0 hw []   T327.heap n0 O329 ) hZ (hw _ (List.mem_of_getElem? (i := 88) rfl)) (hw _ (List.mem_of_getElem? (i := 87) rfl)) (by decide) (by decide)) (g := (mkF m 140 #[.val (.int p1), .val (.int p2), .val (.int p3), .val (.int p1), .val (.ref b323), .val (.ref b327), .val (.int (0 : Int32))] [(.int (0 : Int32))])) rfl (by rw [hml]; rfl) (argsL := [(.int (0 : Int32))]) (rest := []) (lenOf pd_4 rfl) rfl (by show 2 * 0 + _ ≤ _; exact Nat.le_of_eq rfl) (hb hby at_140) (fun _ _ => ⟨rfl, hh349, (by decide : 4 + 0 ≤ _), (by decide : 6 + 0 ≤ _)⟩)
    dsimp only [Pt.U, Pt.locs, Pt.cells, Pt.slots] at X351 l351 y351 z351 st351 hQ351
    subst l351 y351 z351
    obtain ⟨rfl, Nq351, hh351⟩ := hQ351
    have N351 := Fr.app N349 Nq351
    have k352 : Rch p e below S0 T351 (mkF m 143 #[.val (.int p1), .val (.int p2), .val (.int p3), .val (.int p1), .val (.ref b323), .val (.ref b327), .val (.int (0 : Int32))] [(.int (0 : Int32))]) := fun t h => k350 t (st351 t h)
    have k353 : Rch p e below S0 T351 (mkF m 153 #[.val (.int p1), .val (.int p2), .val (.int p3), .val (.int p1), .val (.ref b323), .val (.ref b327), .val (.int (0 : Int32))] [(.int (1 : Int32))]) := fun t h => k352 t (by
        show Steps p.tables e below (T351.setTop (mkF m 143 #[.val (.int p1), .val (.int p2), .val (.int p3), .val (.int p1), .val (.ref b323), .val (.ref b327), .val (.int (0 : Int32))] [(.int (0 : Int32))])) _
        refine XS.iload X351.here hx rfl (hb hby at_143) rfl ?_
        show Steps p.tables e below (T351.setTop (mkF m 145 #[.val (.int p1), .val (.int p2), .val (.int p3), .val (.int p1), .val (.ref b323), .val (.ref b327), .val (.int (0 : Int32))] [(.int (0 : Int32)), (.int (0 : Int32))])) _
        refine XS.icmpNo X351.here hx rfl (hb hby at_145) rfl (teq (by decide : (0 : Int32) = (0 : Int32))).2 ?_
        show Steps p.tables e below (T351.setTop (mkF m 148 #[.val (.int p1), .val (.int p2), .val (.int p3), .val (.int p1), .val (.ref b323), .val (.ref b327), .val (.int (0 : Int32))] [])) _
        refine XS.iconst X351.here hx rfl (hb hby at_148) ?_
        show Steps p.tables e below (T351.setTop (mkF m 149 #[.val (.int p1), .val (.int p2), .val (.int p3), .val (.int p1), .val (.ref b323), .val (.ref b327), .val (.int (0 : Int32))] [(.int (1 : Int32))])) _
        refine XS.goto X351.here hx rfl (pc0 := 149) (pc' := 153) rfl (hb hby at_149) (by decide) (by decide) ?_
        show Steps p.tables e below (T351.setTop (mkF m 153 #[.val (.int p1), .val (.int p2), .val (.int p3), .val (.int p1), .val (.ref b323), .val (.ref b327), .val (.int (0 : Int32))] [(.int (1 : Int32))])) _
        exact h)
    obtain ⟨fs, hr, hrun, hended, hW, hsame⟩ := X351.leave (v := (some (.int (1 : Int32)))) (fun h => by rw [Bd.returns] at h; cases h)
    refine ⟨_, _, ?_, hrun, hended, _, _, rfl, ?_, ⟨_, rfl⟩, hW, hsame.mono (by decide) (by decide)⟩
    · rw [← hS0]
      refine k353 _ ?_
      show Steps p.tables e below (T351.setTop (mkF m 153 #[.val (.int p1), .val (.int p2), .val (.int p3), .val (.int p1), .val (.ref b323), .val (.ref b327), .val (.int (0 : Int32))] [(.int (1 : Int32))])) _
      exact retN X351 hx (t := .boolean) Bd.returns (by simp) (hb hby at_153) hr
    · show Q_rm0 Z  h0 n0 _ T351.heap _
      rw [hh351]
      exact ⟨rfl, N351⟩
set_option maxRecDepth 65536 in
set_option maxHeartbeats 40000000 in
theorem comes_1 {Post : Tables → Env → Array Value → State → Outcome → State → Prop} (hpost : ∀ tb e args s v u, (limb_1_1.after args s (.returned v) u = true ∧ limb_1_2.after args s (.returned v) u = true ∧ True) → FrameEnd s (.returned v) u (Jvm.fieldLocs frame_1_writes args s ++ Jvm.arrayLocs frame_1_arrays args s ++ Jvm.staticLocs frame_1_statics s) 16 128 → Post tb e args s (.returned v) u) :
    ArmFor flags0 classFile x code maxLocals ret World_1 tables_1 room_1 Calls_1 rest_1 Pre_1 Post := by
  intro l hfl _ _ p e ha hc hk s m args below hf hA hF happ hP
  obtain ⟨hcalls, hrest, hpre⟩ := hP
  obtain ⟨-, -, -, hnamed, -, -, -, hat⟩ := (Spec.applies_iff hf).mp happ
  obtain ⟨hg, hn⟩ := and_e (Cond.before_iff.mp (show (Jvm.Cond.and given_1 narrow_1).before args s = true from hpre))
  obtain ⟨g_0, g_1⟩ := and_e hg
  obtain ⟨gi_0, gr_0⟩ := and_e g_1
  obtain ⟨gi_1, gr_1⟩ := and_e gr_0
  obtain ⟨w0, w1, w2, rfl⟩ : ∃ w0 w1 w2 : Value, args = #[w0, w1, w2] := by
    have hs : args.size = 3 := by simpa [Cond.value, given_1] using g_0
    obtain ⟨L⟩ := args
    match L, hs with
    | [w0, w1, w2], _ => exact ⟨w0, w1, w2, rfl⟩
  have hw := fun d (hd : d ∈ tables_1) => atoms_spec (ws := Jvm.Cond.code x code maxLocals ret :: tables_1) hat d (List.mem_cons_of_mem _ hd)
  have hfit : Fit s := fun {y c} hc i hi => by
    obtain ⟨ha, rfl⟩ := Array.getElem?_eq_some_iff.mp hc
    have q := List.all_eq_true.mp ((Array.all_eq_true_iff_forall_mem.mp hF) _ (Array.getElem_mem ha)) i (List.mem_range.mpr hi)
    simpa [Array.getElem?_eq_getElem hi] using q
  obtain ⟨i0, ei0⟩ := is_v gi_0
  obtain rfl : w0 = (.int i0) := Option.some.inj ei0
  obtain ⟨i1, ei1⟩ := is_v gi_1
  obtain rfl : w1 = (.int i1) := Option.some.inj ei1
  obtain ⟨i2, ei2⟩ := is_v gr_1
  obtain rfl : w2 = (.int i2) := Option.some.inj ei2
  obtain ⟨hsets, hown0⟩ := atoms_of _ (rest_1_c_eq ▸ (show rest_1_c.before _ s = true from hrest))
  have hr0 := Cond.before_iff.mp hown0
  have q4 := Cond.before_iff.mp (hsets _ (List.mem_of_getElem? (i := 4) rfl))
  obtain ⟨wZ, vZ⟩ := exa_v q4
  have EZ := Exa.start vZ q4
  have SZ := Sta.start vZ (Or.inl (hsets _ (List.mem_of_getElem? (i := 1) rfl)))
  have FSc := Fld.start ((fld_at vZ).symm.trans (own_eqi (Cond.before_iff.mp (hsets _ (List.mem_of_getElem? (i := 5) rfl)))))
  have FIc := Fld.start ((fld_at vZ).symm.trans (own_eql (Cond.before_iff.mp (hsets _ (List.mem_of_getElem? (i := 6) rfl)))))
  obtain ⟨n, o, h1, h2, h3, _, L, rfl, ⟨rfl, N⟩, hq⟩ := rm0 l s _ hw tables_1 i0 i1 i2 wZ s.heap s.heap.size (Old.start s) SZ EZ FSc FIc p e ha hc hk s m _ below hf ((Spec.applies_iff_loose hf).mp happ).1 ⟨rfl, State.Warmed39.refl s, rfl⟩ trivial
  refine ⟨n, _, h1, h2, h3, hpost _ _ _ _ _ _ ⟨Cond.after_iff.mpr rfl, Cond.after_iff.mpr (eq_i res_at (Term.int_eval (1)) rfl), trivial⟩ ⟨hq.1, hq.2.1, (hq.2.2.sift fun y hy => Or.inr (N y hy)).mono (by decide) (by decide)⟩⟩
theorem main_1_1 : Claimed_1_1 := comes_1 fun _ _ _ _ _ _ h hF => ⟨h.1, hF⟩
theorem main_1_2 : Claimed_1_2 := comes_1 fun _ _ _ _ _ _ h hF => ⟨h.2.1, hF⟩
end Jvm.Pilot.@@N@@
namespace Jvm.Pilot.@@N@@
open Jvm Jvm.ClassFile Sem Op Lib Jvm.Free Jvm.Stand Jvm.Pilot.@@N@@.Jvm.D
/-! MADE BY PROGRAM (witnessworld.py) out of the Statement's table words and the real class files: 19 classes; the members and pool entries that the words name. The judged class is class 1, her method 2. -/
namespace start1
open Jvm.ClassFile
def u (s : String) : CpInfo := .utf8 (stringToUtf16 s)
/-- a pool by its gaps: so many unusable entries, then the entry; so many at the end -/
def gap : Nat → List CpInfo → List CpInfo
  | 0, r => r
  | n + 1, r => .unusable :: gap n r
def poolList (es : List (Nat × CpInfo)) (last : Nat) : List CpInfo := es.foldr (fun e r => gap e.1 (e.2 :: r)) (gap last [])
def pool (es : List (Nat × CpInfo)) (last : Nat) : Array CpInfo := ⟨poolList es last⟩
def fileOf (pool : Array CpInfo) (this : Nat) (attrs : Array Attribute := #[]) (ms : Array MethodInfo := #[]) (fl : Nat := 33) (sup : Nat := 0) (ifs : Array Nat := #[]) (fds : Array FieldInfo := #[]) : ClassFile where
  minorVersion := 0
  majorVersion := 65
  constantPool := pool
  accessFlags := fl
  thisClass := this
  superClass := sup
  interfaces := ifs
  fields := fds
  methods := ms
  attributes := attrs
def plain (name : String) (sup : Option ClassId) : Class where
  name := name
  kind := .ordinary
  loader := none
  accessFlags := 33
  super := sup
  interfaces := #[]
  cf := none
  fields := #[]
  methods := #[]
  instanceTypes := #[]
  staticTypes := #[]
  resolved := #[]
  callSites := []
  init := .initialized
  statics := none
  mirror := none

def pool0 : Array CpInfo := pool [(5, u "<init>"), (0, u "()V"), (1, .class_ 10), (1, u "java/lang/Object")] 113

def k0c0 : Code := { maxStack := 0, maxLocals := 1, code := object_method_1_code, exceptionTable := #[], attributes := #[] }
def k0m0 : Method := { name := "<init>", desc := "()V", sig := { parameters := [], returnType := none }, accessFlags := 1, code := some k0c0 }
/-- java/lang/Object -/
def k0 : Class := { plain "java/lang/Object" none with
  accessFlags := 33
  interfaces := #[]
  cf := some (fileOf pool0 8 #[] #[{ accessFlags := 1, nameIndex := 5, descriptorIndex := 6, attributes := #[] }] 33 0 #[] #[])
  fields := #[]
  methods := #[k0m0]
  instanceTypes := #[]
  staticTypes := #[]
  resolved := Array.replicate 124 none
  statics := none }

def pool1 : Array CpInfo := pool [(2, .class_ 4), (1, u "java/lang/Object"), (0, u "<init>"), (0, u "()V"), (0, .methodref 8 9), (0, .class_ 10), (0, .nameAndType 11 12), (0, u "com/example/lumenplan/lumenplan/network/RankedPath"), (0, u "at"), (0, u "(I)Lcom/example/lumenplan/lumenplan/network/RankedPath;"), (0, .methodref 8 14), (0, .nameAndType 15 16), (0, u "size"), (0, u "()I"), (0, .methodref 8 18), (0, .nameAndType 19 20), (0, u "node"), (0, u "(I)I"), (0, .methodref 8 22), (0, .nameAndType 23 16), (0, u "last"), (0, .methodref 8 25), (0, .nameAndType 26 27), (0, u "passes"), (0, u "(I)Z"), (0, .methodref 8 29), (0, .nameAndType 30 31), (0, u "startsWith"), (0, u "(Lcom/example/lumenplan/lumenplan/network/RankedPath;)Z"), (0, .methodref 8 33), (0, .nameAndType 34 35), (0, u "compareTo"), (0, u "(Lcom/example/lumenplan/lumenplan/network/RankedPath;)I"), (0, .methodref 37 38), (0, .class_ 39), (0, .nameAndType 40 20), (0, u "com/example/lumenplan/lumenplan/network/RankedPathAtPinLaw"), (0, u "sign"), (3, u "law"), (0, u "(III)Z")] 2

def k1m0 : Method := { name := "<init>", desc := "()V", sig := { parameters := [], returnType := none }, accessFlags := 1, code := none }
def k1c1 : Code := { maxStack := 1, maxLocals := 1, code := method_2_code, exceptionTable := #[], attributes := #[] }
def k1m1 : Method := { name := "sign", desc := "(I)I", sig := { parameters := [.int], returnType := some .int }, accessFlags := 10, code := some k1c1 }
def k1c2 : Code := { maxStack := 3, maxLocals := 7, code := code, exceptionTable := #[], attributes := #[] }
def k1m2 : Method := { name := "law", desc := "(III)Z", sig := { parameters := [.int, .int, .int], returnType := some .boolean }, accessFlags := 9, code := some k1c2 }
/-- com/example/lumenplan/lumenplan/network/RankedPathAtPinLaw -/
def k1 : Class := { plain "com/example/lumenplan/lumenplan/network/RankedPathAtPinLaw" (some 0) with
  accessFlags := 49
  interfaces := #[]
  cf := some (fileOf pool1 37 #[] #[{ accessFlags := 1, nameIndex := 5, descriptorIndex := 6, attributes := #[] }, { accessFlags := 10, nameIndex := 40, descriptorIndex := 20, attributes := #[] }, { accessFlags := 9, nameIndex := 44, descriptorIndex := 45, attributes := #[] }] 49 2 #[] #[])
  fields := #[]
  methods := #[k1m0, k1m1, k1m2]
  instanceTypes := #[]
  staticTypes := #[]
  resolved := Array.replicate 48 none
  statics := none }

def pool2 : Array CpInfo := pool [(1, .class_ 2), (0, u "java/lang/Comparable"), (0, .class_ 4), (0, u "java/lang/Object")] 7

/-- java/lang/Comparable -/
def k2 : Class := { plain "java/lang/Comparable" (some 0) with
  accessFlags := 1537
  interfaces := #[]
  cf := some (fileOf pool2 1 #[] #[] 1537 3 #[] #[])
  fields := #[]
  methods := #[]
  instanceTypes := #[]
  staticTypes := #[]
  resolved := Array.replicate 12 none
  statics := none }

def pool3 : Array CpInfo := pool [(1, .class_ 2), (0, u "com/example/lumenplan/lumenplan/network/RankedPath"), (0, .fieldref 4 5), (0, .class_ 6), (0, .nameAndType 7 8), (0, u "java/math/BigDecimal"), (0, u "ZERO"), (0, u "Ljava/math/BigDecimal;"), (0, .methodref 1 10), (0, .nameAndType 11 12), (0, u "<init>"), (0, u "(Ljava/math/BigDecimal;[I)V"), (3, .nameAndType 11 17), (0, u "()V"), (4, u "size"), (0, u "()I"), (7, .class_ 33), (1, u "java/lang/Integer"), (23, .methodref 58 16), (0, .class_ 59), (0, u "java/lang/Object"), (0, .fieldref 1 61), (0, .nameAndType 62 8), (0, u "km"), (0, .fieldref 1 64), (0, .nameAndType 65 66), (0, u "nodes"), (0, u "[I"), (0, .methodref 68 69), (0, .class_ 70), (0, .nameAndType 71 72), (0, u "java/util/Arrays"), (0, u "equals"), (0, u "([III[III)Z"), (19, .methodref 4 93), (0, .nameAndType 94 95), (0, u "compareTo"), (0, u "(Ljava/math/BigDecimal;)I"), (0, .methodref 31 97), (0, .nameAndType 98 99), (0, u "compare"), (0, u "(II)I"), (0, .methodref 68 101), (0, .nameAndType 98 102), (0, u "([I[I)I"), (2, u "(Lcom/example/lumenplan/lumenplan/network/RankedPath;)I"), (0, .class_ 107), (0, u "java/lang/Comparable"), (0, u "at"), (0, u "(I)Lcom/example/lumenplan/lumenplan/network/RankedPath;"), (11, u "passes"), (0, u "(I)Z"), (1, u "node"), (0, u "(I)I"), (0, u "startsWith"), (0, u "(Lcom/example/lumenplan/lumenplan/network/RankedPath;)Z"), (0, u "last")] 25

def k3c0 : Code := { maxStack := 7, maxLocals := 1, code := prog_24_method_1_code, exceptionTable := #[], attributes := #[] }
def k3m0 : Method := { name := "at", desc := "(I)Lcom/example/lumenplan/lumenplan/network/RankedPath;", sig := { parameters := [.int], returnType := some (.object "com/example/lumenplan/lumenplan/network/RankedPath") }, accessFlags := 8, code := some k3c0 }
def k3c1 : Code := { maxStack := 2, maxLocals := 3, code := prog_24_method_4_code, exceptionTable := #[], attributes := #[] }
def k3m1 : Method := { name := "<init>", desc := "(Ljava/math/BigDecimal;[I)V", sig := { parameters := [(.object "java/math/BigDecimal"), (.array .int)], returnType := none }, accessFlags := 2, code := some k3c1 }
def k3c2 : Code := { maxStack := 2, maxLocals := 6, code := prog_24_method_6_code, exceptionTable := #[], attributes := #[] }
def k3m2 : Method := { name := "passes", desc := "(I)Z", sig := { parameters := [.int], returnType := some .boolean }, accessFlags := 0, code := some k3c2 }
def k3c3 : Code := { maxStack := 1, maxLocals := 1, code := prog_24_method_7_code, exceptionTable := #[], attributes := #[] }
def k3m3 : Method := { name := "size", desc := "()I", sig := { parameters := [], returnType := some .int }, accessFlags := 0, code := some k3c3 }
def k3c4 : Code := { maxStack := 2, maxLocals := 2, code := prog_24_method_8_code, exceptionTable := #[], attributes := #[] }
def k3m4 : Method := { name := "node", desc := "(I)I", sig := { parameters := [.int], returnType := some .int }, accessFlags := 0, code := some k3c4 }
def k3c5 : Code := { maxStack := 6, maxLocals := 2, code := prog_24_method_9_code, exceptionTable := #[], attributes := #[] }
def k3m5 : Method := { name := "startsWith", desc := "(Lcom/example/lumenplan/lumenplan/network/RankedPath;)Z", sig := { parameters := [(.object "com/example/lumenplan/lumenplan/network/RankedPath")], returnType := some .boolean }, accessFlags := 0, code := some k3c5 }
def k3c6 : Code := { maxStack := 3, maxLocals := 1, code := prog_24_method_10_code, exceptionTable := #[], attributes := #[] }
def k3m6 : Method := { name := "last", desc := "()I", sig := { parameters := [], returnType := some .int }, accessFlags := 0, code := some k3c6 }
def k3c7 : Code := { maxStack := 2, maxLocals := 4, code := prog_24_method_13_code, exceptionTable := #[], attributes := #[] }
def k3m7 : Method := { name := "compareTo", desc := "(Lcom/example/lumenplan/lumenplan/network/RankedPath;)I", sig := { parameters := [(.object "com/example/lumenplan/lumenplan/network/RankedPath")], returnType := some .int }, accessFlags := 1, code := some k3c7 }
/-- com/example/lumenplan/lumenplan/network/RankedPath -/
def k3 : Class := { plain "com/example/lumenplan/lumenplan/network/RankedPath" (some 0) with
  accessFlags := 48
  interfaces := #[2]
  cf := some (fileOf pool3 1 #[] #[{ accessFlags := 8, nameIndex := 108, descriptorIndex := 109, attributes := #[] }, { accessFlags := 2, nameIndex := 11, descriptorIndex := 12, attributes := #[] }, { accessFlags := 0, nameIndex := 121, descriptorIndex := 122, attributes := #[] }, { accessFlags := 0, nameIndex := 22, descriptorIndex := 23, attributes := #[] }, { accessFlags := 0, nameIndex := 124, descriptorIndex := 125, attributes := #[] }, { accessFlags := 0, nameIndex := 126, descriptorIndex := 127, attributes := #[] }, { accessFlags := 0, nameIndex := 128, descriptorIndex := 23, attributes := #[] }, { accessFlags := 1, nameIndex := 94, descriptorIndex := 105, attributes := #[] }] 48 58 #[106] #[{ accessFlags := 18, nameIndex := 62, descriptorIndex := 8, attributes := #[] }, { accessFlags := 18, nameIndex := 65, descriptorIndex := 66, attributes := #[] }])
  fields := #[{ name := "km", type := (.object "java/math/BigDecimal"), accessFlags := 18, slot := 0, constantValue := 0 }, { name := "nodes", type := (.array .int), accessFlags := 18, slot := 1, constantValue := 0 }]
  methods := #[k3m0, k3m1, k3m2, k3m3, k3m4, k3m5, k3m6, k3m7]
  instanceTypes := #[(.object "java/math/BigDecimal"), (.array .int)]
  staticTypes := #[]
  resolved := Array.replicate 154 none
  statics := none }

def pool4 : Array CpInfo := pool [(1, .class_ 2), (0, u "java/io/Serializable"), (0, .class_ 4), (0, u "java/lang/Object")] 2

/-- java/io/Serializable -/
def k4 : Class := { plain "java/io/Serializable" (some 0) with
  accessFlags := 1537
  interfaces := #[]
  cf := some (fileOf pool4 1 #[] #[] 1537 3 #[] #[])
  fields := #[]
  methods := #[]
  instanceTypes := #[]
  staticTypes := #[]
  resolved := Array.replicate 7 none
  statics := none }

def pool5 : Array CpInfo := pool [(2, .class_ 4), (1, u "java/lang/Object"), (0, u "<init>"), (0, u "()V"), (1, .class_ 10), (1, u "java/lang/Number"), (2, .class_ 14), (0, u "java/io/Serializable"), (0, u "serialVersionUID"), (0, u "J")] 20

def k5m0 : Method := { name := "<init>", desc := "()V", sig := { parameters := [], returnType := none }, accessFlags := 1, code := none }
/-- java/lang/Number -/
def k5 : Class := { plain "java/lang/Number" (some 0) with
  accessFlags := 1057
  interfaces := #[4]
  cf := some (fileOf pool5 8 #[] #[{ accessFlags := 1, nameIndex := 5, descriptorIndex := 6, attributes := #[] }] 1057 2 #[13] #[{ accessFlags := 26, nameIndex := 15, descriptorIndex := 16, attributes := #[] }])
  fields := #[{ name := "serialVersionUID", type := .long, accessFlags := 26, slot := 0, constantValue := 0 }]
  methods := #[k5m0]
  instanceTypes := #[]
  staticTypes := #[.long]
  resolved := Array.replicate 37 none
  statics := none }

def pool6 : Array CpInfo := pool [(3, .class_ 4), (0, u "java/math/BigDecimal"), (7, .class_ 14), (1, u "java/lang/Number"), (2, .fieldref 3 18), (0, .nameAndType 19 20), (0, u "scale"), (0, u "I"), (2, u "precision"), (0, .fieldref 3 25), (0, .nameAndType 26 27), (0, u "intCompact"), (0, u "J"), (2, u "intVal"), (0, u "Ljava/math/BigInteger;"), (65, u "LONG_TEN_POWERS_TABLE"), (0, u "[J"), (26, .long 9223372036854775808), (61, u "ZERO"), (2, u "INFLATED_BIGINT"), (15, u "TWO"), (41, u "ZERO_THROUGH_TEN"), (0, u "[Ljava/math/BigDecimal;"), (2, u "ZERO_SCALED_BY"), (60, u "$assertionsDisabled"), (0, u "Z"), (124, u "(Ljava/math/BigDecimal;)I"), (38, u "ONE_TENTH"), (0, u "Ljava/math/BigDecimal;"), (2, u "compareTo"), (2, u "TEN"), (14, .class_ 502), (1, u "java/math/BigDecimal$1"), (15, u "ONE_HALF"), (16, u "ONE"), (107, u "stringCache"), (0, u "Ljava/lang/String;"), (52, .class_ 699), (1, u "java/math/BigDecimal$LongOverflow"), (8, u "FLOAT_10_POW"), (0, u "[F"), (39, u "DOUBLE_10_POW"), (0, u "[D"), (19, .class_ 772), (1, u "java/math/BigDecimal$StringBuilderHelper"), (35, u "BIG_TEN_POWERS_TABLE_MAX"), (2, u "BIG_TEN_POWERS_TABLE"), (0, u "[Ljava/math/BigInteger;"), (14, u "THRESHOLDS_TABLE"), (23, .class_ 853), (1, u "java/math/BigDecimal$UnsafeHolder"), (214, u "LONGLONG_TEN_POWERS_TABLE"), (0, u "[[J"), (112, u "BIG_TEN_POWERS_TABLE_INITLEN"), (113, .class_ 1297), (0, u "java/lang/Comparable"), (0, u "L"), (0, u "D"), (1, u "P_F"), (1, u "Q_MIN_F"), (1, u "Q_MAX_F"), (1, u "P_D"), (1, u "Q_MIN_D"), (1, u "Q_MAX_D"), (1, u "INFLATED"), (0, u "MAX_COMPACT_DIGITS"), (1, u "serialVersionUID"), (2, u "HALF_LONG_MAX_VALUE"), (0, u "HALF_LONG_MIN_VALUE"), (0, u "ROUND_UP"), (6, u "ROUND_DOWN"), (1, u "ROUND_CEILING"), (1, u "ROUND_FLOOR"), (1, u "ROUND_HALF_UP"), (1, u "ROUND_HALF_DOWN"), (1, u "ROUND_HALF_EVEN"), (1, u "ROUND_UNNECESSARY"), (1, u "DIV_NUM_BASE")] 294

def k6c0 : Code := { maxStack := 4, maxLocals := 6, code := jdk_17_method_70_code, exceptionTable := #[], attributes := #[] }
def k6m0 : Method := { name := "compareTo", desc := "(Ljava/math/BigDecimal;)I", sig := { parameters := [(.object "java/math/BigDecimal")], returnType := some .int }, accessFlags := 1, code := some k6c0 }
/-- java/math/BigDecimal -/
def k6 : Class := { plain "java/math/BigDecimal" (some 5) with
  accessFlags := 33
  interfaces := #[2]
  cf := some (fileOf pool6 3 #[.nestMembers #[500, 851, 770, 697]] #[{ accessFlags := 1, nameIndex := 482, descriptorIndex := 439, attributes := #[] }] 33 12 #[1296] #[{ accessFlags := 26, nameIndex := 1298, descriptorIndex := 1299, attributes := #[] }, { accessFlags := 26, nameIndex := 1301, descriptorIndex := 20, attributes := #[] }, { accessFlags := 26, nameIndex := 1303, descriptorIndex := 20, attributes := #[] }, { accessFlags := 26, nameIndex := 1305, descriptorIndex := 20, attributes := #[] }, { accessFlags := 26, nameIndex := 1307, descriptorIndex := 20, attributes := #[] }, { accessFlags := 26, nameIndex := 1309, descriptorIndex := 20, attributes := #[] }, { accessFlags := 26, nameIndex := 1311, descriptorIndex := 20, attributes := #[] }, { accessFlags := 18, nameIndex := 30, descriptorIndex := 31, attributes := #[] }, { accessFlags := 18, nameIndex := 19, descriptorIndex := 20, attributes := #[] }, { accessFlags := 130, nameIndex := 23, descriptorIndex := 20, attributes := #[] }, { accessFlags := 130, nameIndex := 643, descriptorIndex := 644, attributes := #[] }, { accessFlags := 24, nameIndex := 1313, descriptorIndex := 27, attributes := #[] }, { accessFlags := 26, nameIndex := 190, descriptorIndex := 31, attributes := #[] }, { accessFlags := 146, nameIndex := 26, descriptorIndex := 27, attributes := #[] }, { accessFlags := 26, nameIndex := 1314, descriptorIndex := 20, attributes := #[] }, { accessFlags := 26, nameIndex := 1316, descriptorIndex := 27, attributes := #[] }, { accessFlags := 26, nameIndex := 248, descriptorIndex := 249, attributes := #[] }, { accessFlags := 26, nameIndex := 252, descriptorIndex := 249, attributes := #[] }, { accessFlags := 26, nameIndex := 1319, descriptorIndex := 27, attributes := #[] }, { accessFlags := 26, nameIndex := 1320, descriptorIndex := 27, attributes := #[] }, { accessFlags := 25, nameIndex := 187, descriptorIndex := 479, attributes := #[] }, { accessFlags := 25, nameIndex := 535, descriptorIndex := 479, attributes := #[] }, { accessFlags := 25, nameIndex := 206, descriptorIndex := 479, attributes := #[] }, { accessFlags := 25, nameIndex := 485, descriptorIndex := 479, attributes := #[] }, { accessFlags := 26, nameIndex := 478, descriptorIndex := 479, attributes := #[] }, { accessFlags := 26, nameIndex := 518, descriptorIndex := 479, attributes := #[] }, { accessFlags := 25, nameIndex := 1321, descriptorIndex := 20, attributes := #[] }, { accessFlags := 25, nameIndex := 1328, descriptorIndex := 20, attributes := #[] }, { accessFlags := 25, nameIndex := 1330, descriptorIndex := 20, attributes := #[] }, { accessFlags := 25, nameIndex := 1332, descriptorIndex := 20, attributes := #[] }, { accessFlags := 25, nameIndex := 1334, descriptorIndex := 20, attributes := #[] }, { accessFlags := 25, nameIndex := 1336, descriptorIndex := 20, attributes := #[] }, { accessFlags := 25, nameIndex := 1338, descriptorIndex := 20, attributes := #[] }, { accessFlags := 25, nameIndex := 1340, descriptorIndex := 20, attributes := #[] }, { accessFlags := 26, nameIndex := 749, descriptorIndex := 750, attributes := #[] }, { accessFlags := 26, nameIndex := 708, descriptorIndex := 709, attributes := #[] }, { accessFlags := 26, nameIndex := 97, descriptorIndex := 98, attributes := #[] }, { accessFlags := 74, nameIndex := 811, descriptorIndex := 812, attributes := #[] }, { accessFlags := 26, nameIndex := 1182, descriptorIndex := 20, attributes := #[] }, { accessFlags := 26, nameIndex := 808, descriptorIndex := 20, attributes := #[] }, { accessFlags := 26, nameIndex := 827, descriptorIndex := 98, attributes := #[] }, { accessFlags := 26, nameIndex := 1342, descriptorIndex := 27, attributes := #[] }, { accessFlags := 26, nameIndex := 1068, descriptorIndex := 1069, attributes := #[] }, { accessFlags := 4120, nameIndex := 313, descriptorIndex := 314, attributes := #[] }])
  fields := #[{ name := "L", type := .double, accessFlags := 26, slot := 0, constantValue := 0 }, { name := "P_F", type := .int, accessFlags := 26, slot := 1, constantValue := 0 }, { name := "Q_MIN_F", type := .int, accessFlags := 26, slot := 2, constantValue := 0 }, { name := "Q_MAX_F", type := .int, accessFlags := 26, slot := 3, constantValue := 0 }, { name := "P_D", type := .int, accessFlags := 26, slot := 4, constantValue := 0 }, { name := "Q_MIN_D", type := .int, accessFlags := 26, slot := 5, constantValue := 0 }, { name := "Q_MAX_D", type := .int, accessFlags := 26, slot := 6, constantValue := 0 }, { name := "intVal", type := (.object "java/math/BigInteger"), accessFlags := 18, slot := 0, constantValue := 0 }, { name := "scale", type := .int, accessFlags := 18, slot := 1, constantValue := 0 }, { name := "precision", type := .int, accessFlags := 130, slot := 2, constantValue := 0 }, { name := "stringCache", type := (.object "java/lang/String"), accessFlags := 130, slot := 3, constantValue := 0 }, { name := "INFLATED", type := .long, accessFlags := 24, slot := 7, constantValue := 0 }, { name := "INFLATED_BIGINT", type := (.object "java/math/BigInteger"), accessFlags := 26, slot := 8, constantValue := 0 }, { name := "intCompact", type := .long, accessFlags := 146, slot := 4, constantValue := 0 }, { name := "MAX_COMPACT_DIGITS", type := .int, accessFlags := 26, slot := 9, constantValue := 0 }, { name := "serialVersionUID", type := .long, accessFlags := 26, slot := 10, constantValue := 0 }, { name := "ZERO_THROUGH_TEN", type := (.array (.object "java/math/BigDecimal")), accessFlags := 26, slot := 11, constantValue := 0 }, { name := "ZERO_SCALED_BY", type := (.array (.object "java/math/BigDecimal")), accessFlags := 26, slot := 12, constantValue := 0 }, { name := "HALF_LONG_MAX_VALUE", type := .long, accessFlags := 26, slot := 13, constantValue := 0 }, { name := "HALF_LONG_MIN_VALUE", type := .long, accessFlags := 26, slot := 14, constantValue := 0 }, { name := "ZERO", type := (.object "java/math/BigDecimal"), accessFlags := 25, slot := 15, constantValue := 0 }, { name := "ONE", type := (.object "java/math/BigDecimal"), accessFlags := 25, slot := 16, constantValue := 0 }, { name := "TWO", type := (.object "java/math/BigDecimal"), accessFlags := 25, slot := 17, constantValue := 0 }, { name := "TEN", type := (.object "java/math/BigDecimal"), accessFlags := 25, slot := 18, constantValue := 0 }, { name := "ONE_TENTH", type := (.object "java/math/BigDecimal"), accessFlags := 26, slot := 19, constantValue := 0 }, { name := "ONE_HALF", type := (.object "java/math/BigDecimal"), accessFlags := 26, slot := 20, constantValue := 0 }, { name := "ROUND_UP", type := .int, accessFlags := 25, slot := 21, constantValue := 0 }, { name := "ROUND_DOWN", type := .int, accessFlags := 25, slot := 22, constantValue := 0 }, { name := "ROUND_CEILING", type := .int, accessFlags := 25, slot := 23, constantValue := 0 }, { name := "ROUND_FLOOR", type := .int, accessFlags := 25, slot := 24, constantValue := 0 }, { name := "ROUND_HALF_UP", type := .int, accessFlags := 25, slot := 25, constantValue := 0 }, { name := "ROUND_HALF_DOWN", type := .int, accessFlags := 25, slot := 26, constantValue := 0 }, { name := "ROUND_HALF_EVEN", type := .int, accessFlags := 25, slot := 27, constantValue := 0 }, { name := "ROUND_UNNECESSARY", type := .int, accessFlags := 25, slot := 28, constantValue := 0 }, { name := "DOUBLE_10_POW", type := (.array .double), accessFlags := 26, slot := 29, constantValue := 0 }, { name := "FLOAT_10_POW", type := (.array .float), accessFlags := 26, slot := 30, constantValue := 0 }, { name := "LONG_TEN_POWERS_TABLE", type := (.array .long), accessFlags := 26, slot := 31, constantValue := 0 }, { name := "BIG_TEN_POWERS_TABLE", type := (.array (.object "java/math/BigInteger")), accessFlags := 74, slot := 32, constantValue := 0 }, { name := "BIG_TEN_POWERS_TABLE_INITLEN", type := .int, accessFlags := 26, slot := 33, constantValue := 0 }, { name := "BIG_TEN_POWERS_TABLE_MAX", type := .int, accessFlags := 26, slot := 34, constantValue := 0 }, { name := "THRESHOLDS_TABLE", type := (.array .long), accessFlags := 26, slot := 35, constantValue := 0 }, { name := "DIV_NUM_BASE", type := .long, accessFlags := 26, slot := 36, constantValue := 0 }, { name := "LONGLONG_TEN_POWERS_TABLE", type := (.array (.array .long)), accessFlags := 26, slot := 37, constantValue := 0 }, { name := "$assertionsDisabled", type := .boolean, accessFlags := 4120, slot := 38, constantValue := 0 }]
  methods := #[k6m0]
  instanceTypes := #[(.object "java/math/BigInteger"), .int, .int, (.object "java/lang/String"), .long]
  staticTypes := #[.double, .int, .int, .int, .int, .int, .int, .long, (.object "java/math/BigInteger"), .int, .long, (.array (.object "java/math/BigDecimal")), (.array (.object "java/math/BigDecimal")), .long, .long, (.object "java/math/BigDecimal"), (.object "java/math/BigDecimal"), (.object "java/math/BigDecimal"), (.object "java/math/BigDecimal"), (.object "java/math/BigDecimal"), (.object "java/math/BigDecimal"), .int, .int, .int, .int, .int, .int, .int, .int, (.array .double), (.array .float), (.array .long), (.array (.object "java/math/BigInteger")), .int, .int, (.array .long), .long, (.array (.array .long)), .boolean]
  resolved := Array.replicate 1637 none
  statics := some 0 }

def pool7 : Array CpInfo := pool [(2, .class_ 4), (1, u "java/lang/Object"), (0, u "<init>"), (0, u "()V"), (6, .methodref 14 15), (0, .class_ 16), (0, .nameAndType 17 18), (0, u "java/util/Arrays"), (0, u "rangeCheck"), (0, u "(III)V"), (55, .class_ 76), (1, u "java/util/Arrays$NaturalOrder"), (36, .class_ 115), (1, u "java/util/Arrays$LegacyMergeSort"), (1, u "Z"), (55, u "compare"), (72, .class_ 248), (1, u "jdk/internal/util/ArraysSupport"), (0, u "mismatch"), (4, .methodref 246 255), (0, .nameAndType 249 256), (0, u "([I[II)I"), (0, .methodref 246 258), (0, .nameAndType 249 259), (0, u "([II[III)I"), (38, u "equals"), (5, .methodref 305 306), (0, .class_ 307), (0, .nameAndType 308 309), (0, u "java/lang/Math"), (0, u "min"), (0, u "(II)I"), (65, .class_ 376), (0, u "java/util/Arrays$ArrayList"), (27, .class_ 405), (0, u "java/lang/Integer"), (39, u "$assertionsDisabled"), (251, .methodref 404 698), (0, .nameAndType 173 309), (16, u "MIN_ARRAY_SORT_GRAN"), (0, u "I"), (2, u "INSERTIONSORT_THRESHOLD"), (106, u "([III[III)Z"), (115, u "([I[I)I"), (32, .class_ 976), (0, u "java/util/Arrays$ArrayItr")] 52

def k7m0 : Method := { name := "<init>", desc := "()V", sig := { parameters := [], returnType := none }, accessFlags := 2, code := none }
def k7c1 : Code := { maxStack := 4, maxLocals := 3, code := jdk_65_method_30_code, exceptionTable := #[], attributes := #[] }
def k7m1 : Method := { name := "rangeCheck", desc := "(III)V", sig := { parameters := [.int, .int, .int], returnType := none }, accessFlags := 8, code := some k7c1 }
def k7c2 : Code := { maxStack := 5, maxLocals := 8, code := jdk_65_method_84_code, exceptionTable := #[], attributes := #[] }
def k7m2 : Method := { name := "equals", desc := "([III[III)Z", sig := { parameters := [(.array .int), .int, .int, (.array .int), .int, .int], returnType := some .boolean }, accessFlags := 9, code := some k7c2 }
def k7c3 : Code := { maxStack := 4, maxLocals := 3, code := jdk_65_method_209_code, exceptionTable := #[], attributes := #[] }
def k7m3 : Method := { name := "compare", desc := "([I[I)I", sig := { parameters := [(.array .int), (.array .int)], returnType := some .int }, accessFlags := 9, code := some k7c3 }
/-- java/util/Arrays -/
def k7 : Class := { plain "java/util/Arrays" (some 0) with
  accessFlags := 49
  interfaces := #[]
  cf := some (fileOf pool7 14 #[.nestMembers #[975, 375, 113, 74]] #[{ accessFlags := 2, nameIndex := 5, descriptorIndex := 6, attributes := #[] }, { accessFlags := 8, nameIndex := 17, descriptorIndex := 18, attributes := #[] }, { accessFlags := 9, nameIndex := 298, descriptorIndex := 826, attributes := #[] }, { accessFlags := 9, nameIndex := 173, descriptorIndex := 942, attributes := #[] }] 49 2 #[] #[{ accessFlags := 26, nameIndex := 715, descriptorIndex := 716, attributes := #[] }, { accessFlags := 26, nameIndex := 719, descriptorIndex := 716, attributes := #[] }, { accessFlags := 4120, nameIndex := 445, descriptorIndex := 117, attributes := #[] }])
  fields := #[{ name := "MIN_ARRAY_SORT_GRAN", type := .int, accessFlags := 26, slot := 0, constantValue := 0 }, { name := "INSERTIONSORT_THRESHOLD", type := .int, accessFlags := 26, slot := 1, constantValue := 0 }, { name := "$assertionsDisabled", type := .boolean, accessFlags := 4120, slot := 2, constantValue := 0 }]
  methods := #[k7m0, k7m1, k7m2, k7m3]
  instanceTypes := #[]
  staticTypes := #[.int, .int, .boolean]
  resolved := Array.replicate 1029 none
  statics := none }

def pool8 : Array CpInfo := pool [(9, u "<init>"), (6, .class_ 18), (1, u "java/lang/Object"), (0, u "()V"), (1, .class_ 23), (1, u "jdk/internal/util/ArraysSupport"), (0, u "LOG2_ARRAY_LONG_INDEX_SCALE"), (0, u "I"), (2, u "U"), (0, u "Ljdk/internal/misc/Unsafe;"), (8, u "BIG_ENDIAN"), (0, u "Z"), (8, u "LOG2_BYTE_BIT_SIZE"), (4, u "LOG2_ARRAY_INT_INDEX_SCALE"), (54, u "JLA"), (0, u "Ljdk/internal/access/JavaLangAccess;"), (11, u "LOG2_ARRAY_BOOLEAN_INDEX_SCALE"), (9, u "LOG2_ARRAY_BYTE_INDEX_SCALE"), (5, u "LOG2_ARRAY_CHAR_INDEX_SCALE"), (5, u "LOG2_ARRAY_SHORT_INDEX_SCALE"), (5, u "mismatch"), (12, u "LOG2_ARRAY_FLOAT_INDEX_SCALE"), (24, u "LOG2_ARRAY_DOUBLE_INDEX_SCALE"), (89, u "T_BOOLEAN"), (2, u "T_CHAR"), (1, u "T_FLOAT"), (1, u "T_DOUBLE"), (1, u "T_BYTE"), (1, u "T_SHORT"), (1, u "T_INT"), (1, u "T_LONG"), (1, u "SOFT_MAX_ARRAY_LENGTH"), (47, u "([I[II)I"), (0, u "([II[III)I")] 34

def k8m0 : Method := { name := "<init>", desc := "()V", sig := { parameters := [], returnType := none }, accessFlags := 2, code := none }
def k8c1 : Code := { maxStack := 8, maxLocals := 4, code := jdk_48_method_19_code, exceptionTable := #[], attributes := #[] }
def k8m1 : Method := { name := "mismatch", desc := "([I[II)I", sig := { parameters := [(.array .int), (.array .int), .int], returnType := some .int }, accessFlags := 9, code := some k8c1 }
def k8c2 : Code := { maxStack := 8, maxLocals := 8, code := jdk_48_method_20_code, exceptionTable := #[], attributes := #[] }
def k8m2 : Method := { name := "mismatch", desc := "([II[III)I", sig := { parameters := [(.array .int), .int, (.array .int), .int, .int], returnType := some .int }, accessFlags := 9, code := some k8c2 }
/-- jdk/internal/util/ArraysSupport -/
def k8 : Class := { plain "jdk/internal/util/ArraysSupport" (some 0) with
  accessFlags := 33
  interfaces := #[]
  cf := some (fileOf pool8 21 #[] #[{ accessFlags := 2, nameIndex := 9, descriptorIndex := 19, attributes := #[] }, { accessFlags := 9, nameIndex := 149, descriptorIndex := 342, attributes := #[] }, { accessFlags := 9, nameIndex := 149, descriptorIndex := 343, attributes := #[] }] 33 16 #[] #[{ accessFlags := 24, nameIndex := 28, descriptorIndex := 29, attributes := #[] }, { accessFlags := 26, nameIndex := 38, descriptorIndex := 39, attributes := #[] }, { accessFlags := 25, nameIndex := 121, descriptorIndex := 25, attributes := #[] }, { accessFlags := 25, nameIndex := 131, descriptorIndex := 25, attributes := #[] }, { accessFlags := 25, nameIndex := 137, descriptorIndex := 25, attributes := #[] }, { accessFlags := 25, nameIndex := 143, descriptorIndex := 25, attributes := #[] }, { accessFlags := 25, nameIndex := 53, descriptorIndex := 25, attributes := #[] }, { accessFlags := 25, nameIndex := 24, descriptorIndex := 25, attributes := #[] }, { accessFlags := 25, nameIndex := 162, descriptorIndex := 25, attributes := #[] }, { accessFlags := 25, nameIndex := 187, descriptorIndex := 25, attributes := #[] }, { accessFlags := 26, nameIndex := 48, descriptorIndex := 25, attributes := #[] }, { accessFlags := 25, nameIndex := 277, descriptorIndex := 25, attributes := #[] }, { accessFlags := 25, nameIndex := 280, descriptorIndex := 25, attributes := #[] }, { accessFlags := 25, nameIndex := 282, descriptorIndex := 25, attributes := #[] }, { accessFlags := 25, nameIndex := 284, descriptorIndex := 25, attributes := #[] }, { accessFlags := 25, nameIndex := 286, descriptorIndex := 25, attributes := #[] }, { accessFlags := 25, nameIndex := 288, descriptorIndex := 25, attributes := #[] }, { accessFlags := 25, nameIndex := 290, descriptorIndex := 25, attributes := #[] }, { accessFlags := 25, nameIndex := 292, descriptorIndex := 25, attributes := #[] }, { accessFlags := 26, nameIndex := 108, descriptorIndex := 109, attributes := #[] }, { accessFlags := 25, nameIndex := 294, descriptorIndex := 25, attributes := #[] }])
  fields := #[{ name := "U", type := (.object "jdk/internal/misc/Unsafe"), accessFlags := 24, slot := 0, constantValue := 0 }, { name := "BIG_ENDIAN", type := .boolean, accessFlags := 26, slot := 1, constantValue := 0 }, { name := "LOG2_ARRAY_BOOLEAN_INDEX_SCALE", type := .int, accessFlags := 25, slot := 2, constantValue := 0 }, { name := "LOG2_ARRAY_BYTE_INDEX_SCALE", type := .int, accessFlags := 25, slot := 3, constantValue := 0 }, { name := "LOG2_ARRAY_CHAR_INDEX_SCALE", type := .int, accessFlags := 25, slot := 4, constantValue := 0 }, { name := "LOG2_ARRAY_SHORT_INDEX_SCALE", type := .int, accessFlags := 25, slot := 5, constantValue := 0 }, { name := "LOG2_ARRAY_INT_INDEX_SCALE", type := .int, accessFlags := 25, slot := 6, constantValue := 0 }, { name := "LOG2_ARRAY_LONG_INDEX_SCALE", type := .int, accessFlags := 25, slot := 7, constantValue := 0 }, { name := "LOG2_ARRAY_FLOAT_INDEX_SCALE", type := .int, accessFlags := 25, slot := 8, constantValue := 0 }, { name := "LOG2_ARRAY_DOUBLE_INDEX_SCALE", type := .int, accessFlags := 25, slot := 9, constantValue := 0 }, { name := "LOG2_BYTE_BIT_SIZE", type := .int, accessFlags := 26, slot := 10, constantValue := 0 }, { name := "T_BOOLEAN", type := .int, accessFlags := 25, slot := 11, constantValue := 0 }, { name := "T_CHAR", type := .int, accessFlags := 25, slot := 12, constantValue := 0 }, { name := "T_FLOAT", type := .int, accessFlags := 25, slot := 13, constantValue := 0 }, { name := "T_DOUBLE", type := .int, accessFlags := 25, slot := 14, constantValue := 0 }, { name := "T_BYTE", type := .int, accessFlags := 25, slot := 15, constantValue := 0 }, { name := "T_SHORT", type := .int, accessFlags := 25, slot := 16, constantValue := 0 }, { name := "T_INT", type := .int, accessFlags := 25, slot := 17, constantValue := 0 }, { name := "T_LONG", type := .int, accessFlags := 25, slot := 18, constantValue := 0 }, { name := "JLA", type := (.object "jdk/internal/access/JavaLangAccess"), accessFlags := 26, slot := 19, constantValue := 0 }, { name := "SOFT_MAX_ARRAY_LENGTH", type := .int, accessFlags := 25, slot := 20, constantValue := 0 }]
  methods := #[k8m0, k8m1, k8m2]
  instanceTypes := #[]
  staticTypes := #[(.object "jdk/internal/misc/Unsafe"), .boolean, .int, .int, .int, .int, .int, .int, .int, .int, .int, .int, .int, .int, .int, .int, .int, .int, .int, (.object "jdk/internal/access/JavaLangAccess"), .int]
  resolved := Array.replicate 378 none
  statics := none }

def pool9 : Array CpInfo := pool [(1, .class_ 2), (0, u "java/lang/constant/Constable"), (0, .class_ 4), (0, u "java/lang/Object")] 6

/-- java/lang/constant/Constable -/
def k9 : Class := { plain "java/lang/constant/Constable" (some 0) with
  accessFlags := 1537
  interfaces := #[]
  cf := some (fileOf pool9 1 #[] #[] 1537 3 #[] #[])
  fields := #[]
  methods := #[]
  instanceTypes := #[]
  staticTypes := #[]
  resolved := Array.replicate 11 none
  statics := none }

def pool10 : Array CpInfo := pool [(1, .class_ 2), (0, u "java/lang/constant/ConstantDesc"), (0, .class_ 4), (0, u "java/lang/Object")] 32

/-- java/lang/constant/ConstantDesc -/
def k10 : Class := { plain "java/lang/constant/ConstantDesc" (some 0) with
  accessFlags := 1537
  interfaces := #[]
  cf := some (fileOf pool10 1 #[] #[] 1537 3 #[] #[])
  fields := #[]
  methods := #[]
  instanceTypes := #[]
  staticTypes := #[]
  resolved := Array.replicate 37 none
  statics := none }

def pool11 : Array CpInfo := pool [(1, .class_ 2), (0, u "java/lang/Integer"), (16, u "digits"), (0, u "[C"), (39, u "(II)I"), (24, u "DigitOnes"), (0, u "[B"), (2, u "DigitTens"), (99, .class_ 190), (0, u "java/lang/Integer$IntegerCache"), (3, u "I"), (8, .class_ 204), (0, u "java/lang/Number"), (2, u "value"), (53, u "compare"), (40, u "TYPE"), (0, u "Ljava/lang/Class;"), (0, .class_ 305), (0, u "java/lang/Comparable"), (0, .class_ 307), (0, u "java/lang/constant/Constable"), (0, .class_ 309), (0, u "java/lang/constant/ConstantDesc"), (0, u "MIN_VALUE"), (1, u "MAX_VALUE"), (3, u "SIZE"), (1, u "BYTES"), (1, u "serialVersionUID"), (0, u "J")] 131

def k11c0 : Code := { maxStack := 2, maxLocals := 2, code := jdk_33_method_40_code, exceptionTable := #[], attributes := #[] }
def k11m0 : Method := { name := "compare", desc := "(II)I", sig := { parameters := [.int, .int], returnType := some .int }, accessFlags := 9, code := some k11c0 }
/-- java/lang/Integer -/
def k11 : Class := { plain "java/lang/Integer" (some 5) with
  accessFlags := 49
  interfaces := #[2, 9, 10]
  cf := some (fileOf pool11 1 #[.nestMembers #[189]] #[{ accessFlags := 9, nameIndex := 261, descriptorIndex := 60, attributes := #[] }] 49 203 #[304, 306, 308] #[{ accessFlags := 25, nameIndex := 310, descriptorIndex := 194, attributes := #[] }, { accessFlags := 25, nameIndex := 312, descriptorIndex := 194, attributes := #[] }, { accessFlags := 25, nameIndex := 302, descriptorIndex := 303, attributes := #[] }, { accessFlags := 24, nameIndex := 19, descriptorIndex := 20, attributes := #[] }, { accessFlags := 24, nameIndex := 89, descriptorIndex := 86, attributes := #[] }, { accessFlags := 24, nameIndex := 85, descriptorIndex := 86, attributes := #[] }, { accessFlags := 18, nameIndex := 207, descriptorIndex := 194, attributes := #[] }, { accessFlags := 25, nameIndex := 316, descriptorIndex := 194, attributes := #[] }, { accessFlags := 25, nameIndex := 318, descriptorIndex := 194, attributes := #[] }, { accessFlags := 26, nameIndex := 320, descriptorIndex := 321, attributes := #[] }])
  fields := #[{ name := "MIN_VALUE", type := .int, accessFlags := 25, slot := 0, constantValue := 0 }, { name := "MAX_VALUE", type := .int, accessFlags := 25, slot := 1, constantValue := 0 }, { name := "TYPE", type := (.object "java/lang/Class"), accessFlags := 25, slot := 2, constantValue := 0 }, { name := "digits", type := (.array .char), accessFlags := 24, slot := 3, constantValue := 0 }, { name := "DigitTens", type := (.array .byte), accessFlags := 24, slot := 4, constantValue := 0 }, { name := "DigitOnes", type := (.array .byte), accessFlags := 24, slot := 5, constantValue := 0 }, { name := "value", type := .int, accessFlags := 18, slot := 0, constantValue := 0 }, { name := "SIZE", type := .int, accessFlags := 25, slot := 6, constantValue := 0 }, { name := "BYTES", type := .int, accessFlags := 25, slot := 7, constantValue := 0 }, { name := "serialVersionUID", type := .long, accessFlags := 26, slot := 8, constantValue := 0 }]
  methods := #[k11m0]
  instanceTypes := #[.int]
  staticTypes := #[.int, .int, (.object "java/lang/Class"), (.array .char), (.array .byte), (.array .byte), .int, .int, .long]
  resolved := Array.replicate 453 none
  statics := none }

def pool12 : Array CpInfo := pool [(1, .class_ 2), (0, u "java/lang/Math"), (1, .class_ 6), (1, u "java/lang/Object"), (0, u "<init>"), (0, u "()V"), (89, .class_ 100), (1, u "java/lang/Math$RandomNumberGeneratorHolder"), (71, u "negativeZeroFloatBits"), (0, u "J"), (2, u "negativeZeroDoubleBits"), (24, u "min"), (43, u "$assertionsDisabled"), (0, u "Z"), (88, u "(II)I"), (2, u "twoToTheDoubleScaleDown"), (0, u "D"), (4, u "twoToTheDoubleScaleUp"), (9, u "E"), (3, u "PI"), (2, u "TAU"), (2, u "DEGREES_TO_RADIANS"), (0, u "RADIANS_TO_DEGREES")] 94

def k12m0 : Method := { name := "<init>", desc := "()V", sig := { parameters := [], returnType := none }, accessFlags := 2, code := none }
def k12c1 : Code := { maxStack := 2, maxLocals := 2, code := jdk_29_method_69_code, exceptionTable := #[], attributes := #[] }
def k12m1 : Method := { name := "min", desc := "(II)I", sig := { parameters := [.int, .int], returnType := some .int }, accessFlags := 9, code := some k12c1 }
/-- java/lang/Math -/
def k12 : Class := { plain "java/lang/Math" (some 0) with
  accessFlags := 49
  interfaces := #[]
  cf := some (fileOf pool12 1 #[.nestMembers #[98]] #[{ accessFlags := 2, nameIndex := 7, descriptorIndex := 8, attributes := #[] }, { accessFlags := 9, nameIndex := 201, descriptorIndex := 335, attributes := #[] }] 49 4 #[] #[{ accessFlags := 25, nameIndex := 354, descriptorIndex := 339, attributes := #[] }, { accessFlags := 25, nameIndex := 358, descriptorIndex := 339, attributes := #[] }, { accessFlags := 25, nameIndex := 361, descriptorIndex := 339, attributes := #[] }, { accessFlags := 26, nameIndex := 364, descriptorIndex := 339, attributes := #[] }, { accessFlags := 26, nameIndex := 365, descriptorIndex := 339, attributes := #[] }, { accessFlags := 26, nameIndex := 172, descriptorIndex := 173, attributes := #[] }, { accessFlags := 26, nameIndex := 176, descriptorIndex := 173, attributes := #[] }, { accessFlags := 8, nameIndex := 344, descriptorIndex := 339, attributes := #[] }, { accessFlags := 8, nameIndex := 338, descriptorIndex := 339, attributes := #[] }, { accessFlags := 4120, nameIndex := 245, descriptorIndex := 246, attributes := #[] }])
  fields := #[{ name := "E", type := .double, accessFlags := 25, slot := 0, constantValue := 0 }, { name := "PI", type := .double, accessFlags := 25, slot := 1, constantValue := 0 }, { name := "TAU", type := .double, accessFlags := 25, slot := 2, constantValue := 0 }, { name := "DEGREES_TO_RADIANS", type := .double, accessFlags := 26, slot := 3, constantValue := 0 }, { name := "RADIANS_TO_DEGREES", type := .double, accessFlags := 26, slot := 4, constantValue := 0 }, { name := "negativeZeroFloatBits", type := .long, accessFlags := 26, slot := 5, constantValue := 0 }, { name := "negativeZeroDoubleBits", type := .long, accessFlags := 26, slot := 6, constantValue := 0 }, { name := "twoToTheDoubleScaleUp", type := .double, accessFlags := 8, slot := 7, constantValue := 0 }, { name := "twoToTheDoubleScaleDown", type := .double, accessFlags := 8, slot := 8, constantValue := 0 }, { name := "$assertionsDisabled", type := .boolean, accessFlags := 4120, slot := 9, constantValue := 0 }]
  methods := #[k12m0, k12m1]
  instanceTypes := #[]
  staticTypes := #[.double, .double, .double, .double, .double, .long, .long, .double, .double, .boolean]
  resolved := Array.replicate 460 none
  statics := none }

def pool13 : Array CpInfo := pool [(4, .class_ 6), (1, u "java/lang/Number"), (16, .class_ 25), (1, u "java/math/BigInteger"), (0, u "ZERO"), (0, u "Ljava/math/BigInteger;"), (2, u "mag"), (0, u "[I"), (2, u "signum"), (0, u "I"), (59, u "bitsPerDigit"), (0, u "[J"), (9, u "digitsPerInt"), (12, u "intRadix"), (60, u "SMALL_PRIME_PRODUCT"), (79, u "ONE"), (6, u "TWO"), (43, u "$assertionsDisabled"), (0, u "Z"), (36, u "posConst"), (0, u "[Ljava/math/BigInteger;"), (4, u "negConst"), (116, .class_ 474), (1, u "java/math/BigInteger$RecursiveOp"), (106, u "NEGATIVE_ONE"), (91, u "bnExpModThreshTable"), (72, u "lowestSetBitPlusTwo"), (2, u "bitLengthPlusOne"), (2, u "bitCountPlusOne"), (6, u "LOG_TWO"), (0, u "D"), (2, u "logCache"), (0, u "[D"), (13, u "NUM_ZEROS"), (2, u "ZEROS"), (0, u "Ljava/lang/String;"), (9, u "longRadix"), (5, u "digitsPerLong"), (22, u "powerCache"), (0, u "[[Ljava/math/BigInteger;"), (45, u "firstNonzeroIntNumPlusTwo"), (38, .class_ 909), (1, u "java/math/BigInteger$UnsafeHolder"), (141, u "TEN"), (106, u "serialPersistentFields"), (0, u "[Ljava/io/ObjectStreamField;"), (0, .class_ 1161), (0, u "java/lang/Comparable"), (0, u "LONG_MASK"), (0, u "J"), (1, u "MAX_MAG_LENGTH"), (0, u "PRIME_SEARCH_BIT_LENGTH_LIMIT"), (1, u "KARATSUBA_THRESHOLD"), (1, u "TOOM_COOK_THRESHOLD"), (1, u "KARATSUBA_SQUARE_THRESHOLD"), (1, u "TOOM_COOK_SQUARE_THRESHOLD"), (1, u "BURNIKEL_ZIEGLER_THRESHOLD"), (0, u "BURNIKEL_ZIEGLER_OFFSET"), (1, u "SCHOENHAGE_BASE_CONVERSION_THRESHOLD"), (1, u "MULTIPLY_SQUARE_THRESHOLD"), (0, u "MONTGOMERY_INTRINSIC_THRESHOLD"), (1, u "SMALL_PRIME_THRESHOLD"), (1, u "DEFAULT_PRIME_CERTAINTY"), (1, u "MAX_CONSTANT"), (3, u "serialVersionUID"), (338, .class_ 1532), (0, u "java/math/BigInteger$RecursiveOp$RecursiveSquare"), (0, .class_ 1534), (0, u "java/math/BigInteger$RecursiveOp$RecursiveMultiply")] 7

/-- java/math/BigInteger -/
def k13 : Class := { plain "java/math/BigInteger" (some 5) with
  accessFlags := 33
  interfaces := #[2]
  cf := some (fileOf pool13 23 #[.nestMembers #[907, 472, 1531, 1533]] #[] 33 4 #[1160] #[{ accessFlags := 16, nameIndex := 34, descriptorIndex := 35, attributes := #[] }, { accessFlags := 16, nameIndex := 30, descriptorIndex := 31, attributes := #[] }, { accessFlags := 2, nameIndex := 752, descriptorIndex := 35, attributes := #[] }, { accessFlags := 2, nameIndex := 749, descriptorIndex := 35, attributes := #[] }, { accessFlags := 2, nameIndex := 746, descriptorIndex := 35, attributes := #[] }, { accessFlags := 2, nameIndex := 868, descriptorIndex := 35, attributes := #[] }, { accessFlags := 24, nameIndex := 1162, descriptorIndex := 1163, attributes := #[] }, { accessFlags := 26, nameIndex := 1165, descriptorIndex := 35, attributes := #[] }, { accessFlags := 26, nameIndex := 1166, descriptorIndex := 35, attributes := #[] }, { accessFlags := 26, nameIndex := 1168, descriptorIndex := 35, attributes := #[] }, { accessFlags := 26, nameIndex := 1170, descriptorIndex := 35, attributes := #[] }, { accessFlags := 26, nameIndex := 1172, descriptorIndex := 35, attributes := #[] }, { accessFlags := 26, nameIndex := 1174, descriptorIndex := 35, attributes := #[] }, { accessFlags := 24, nameIndex := 1176, descriptorIndex := 35, attributes := #[] }, { accessFlags := 24, nameIndex := 1177, descriptorIndex := 35, attributes := #[] }, { accessFlags := 26, nameIndex := 1179, descriptorIndex := 35, attributes := #[] }, { accessFlags := 26, nameIndex := 1181, descriptorIndex := 35, attributes := #[] }, { accessFlags := 26, nameIndex := 1182, descriptorIndex := 35, attributes := #[] }, { accessFlags := 10, nameIndex := 95, descriptorIndex := 96, attributes := #[] }, { accessFlags := 26, nameIndex := 1184, descriptorIndex := 35, attributes := #[] }, { accessFlags := 26, nameIndex := 1186, descriptorIndex := 35, attributes := #[] }, { accessFlags := 26, nameIndex := 180, descriptorIndex := 27, attributes := #[] }, { accessFlags := 26, nameIndex := 1188, descriptorIndex := 35, attributes := #[] }, { accessFlags := 26, nameIndex := 349, descriptorIndex := 350, attributes := #[] }, { accessFlags := 26, nameIndex := 355, descriptorIndex := 350, attributes := #[] }, { accessFlags := 74, nameIndex := 821, descriptorIndex := 822, attributes := #[] }, { accessFlags := 26, nameIndex := 763, descriptorIndex := 764, attributes := #[] }, { accessFlags := 26, nameIndex := 759, descriptorIndex := 760, attributes := #[] }, { accessFlags := 25, nameIndex := 26, descriptorIndex := 27, attributes := #[] }, { accessFlags := 25, nameIndex := 260, descriptorIndex := 27, attributes := #[] }, { accessFlags := 25, nameIndex := 267, descriptorIndex := 27, attributes := #[] }, { accessFlags := 26, nameIndex := 581, descriptorIndex := 27, attributes := #[] }, { accessFlags := 25, nameIndex := 1051, descriptorIndex := 27, attributes := #[] }, { accessFlags := 8, nameIndex := 673, descriptorIndex := 31, attributes := #[] }, { accessFlags := 10, nameIndex := 778, descriptorIndex := 35, attributes := #[] }, { accessFlags := 26, nameIndex := 781, descriptorIndex := 782, attributes := #[] }, { accessFlags := 10, nameIndex := 798, descriptorIndex := 31, attributes := #[] }, { accessFlags := 10, nameIndex := 792, descriptorIndex := 350, attributes := #[] }, { accessFlags := 10, nameIndex := 106, descriptorIndex := 31, attributes := #[] }, { accessFlags := 10, nameIndex := 119, descriptorIndex := 31, attributes := #[] }, { accessFlags := 26, nameIndex := 1192, descriptorIndex := 1163, attributes := #[] }, { accessFlags := 26, nameIndex := 1158, descriptorIndex := 1159, attributes := #[] }, { accessFlags := 4120, nameIndex := 311, descriptorIndex := 312, attributes := #[] }])
  fields := #[{ name := "signum", type := .int, accessFlags := 16, slot := 0, constantValue := 0 }, { name := "mag", type := (.array .int), accessFlags := 16, slot := 1, constantValue := 0 }, { name := "bitCountPlusOne", type := .int, accessFlags := 2, slot := 2, constantValue := 0 }, { name := "bitLengthPlusOne", type := .int, accessFlags := 2, slot := 3, constantValue := 0 }, { name := "lowestSetBitPlusTwo", type := .int, accessFlags := 2, slot := 4, constantValue := 0 }, { name := "firstNonzeroIntNumPlusTwo", type := .int, accessFlags := 2, slot := 5, constantValue := 0 }, { name := "LONG_MASK", type := .long, accessFlags := 24, slot := 0, constantValue := 0 }, { name := "MAX_MAG_LENGTH", type := .int, accessFlags := 26, slot := 1, constantValue := 0 }, { name := "PRIME_SEARCH_BIT_LENGTH_LIMIT", type := .int, accessFlags := 26, slot := 2, constantValue := 0 }, { name := "KARATSUBA_THRESHOLD", type := .int, accessFlags := 26, slot := 3, constantValue := 0 }, { name := "TOOM_COOK_THRESHOLD", type := .int, accessFlags := 26, slot := 4, constantValue := 0 }, { name := "KARATSUBA_SQUARE_THRESHOLD", type := .int, accessFlags := 26, slot := 5, constantValue := 0 }, { name := "TOOM_COOK_SQUARE_THRESHOLD", type := .int, accessFlags := 26, slot := 6, constantValue := 0 }, { name := "BURNIKEL_ZIEGLER_THRESHOLD", type := .int, accessFlags := 24, slot := 7, constantValue := 0 }, { name := "BURNIKEL_ZIEGLER_OFFSET", type := .int, accessFlags := 24, slot := 8, constantValue := 0 }, { name := "SCHOENHAGE_BASE_CONVERSION_THRESHOLD", type := .int, accessFlags := 26, slot := 9, constantValue := 0 }, { name := "MULTIPLY_SQUARE_THRESHOLD", type := .int, accessFlags := 26, slot := 10, constantValue := 0 }, { name := "MONTGOMERY_INTRINSIC_THRESHOLD", type := .int, accessFlags := 26, slot := 11, constantValue := 0 }, { name := "bitsPerDigit", type := (.array .long), accessFlags := 10, slot := 12, constantValue := 0 }, { name := "SMALL_PRIME_THRESHOLD", type := .int, accessFlags := 26, slot := 13, constantValue := 0 }, { name := "DEFAULT_PRIME_CERTAINTY", type := .int, accessFlags := 26, slot := 14, constantValue := 0 }, { name := "SMALL_PRIME_PRODUCT", type := (.object "java/math/BigInteger"), accessFlags := 26, slot := 15, constantValue := 0 }, { name := "MAX_CONSTANT", type := .int, accessFlags := 26, slot := 16, constantValue := 0 }, { name := "posConst", type := (.array (.object "java/math/BigInteger")), accessFlags := 26, slot := 17, constantValue := 0 }, { name := "negConst", type := (.array (.object "java/math/BigInteger")), accessFlags := 26, slot := 18, constantValue := 0 }, { name := "powerCache", type := (.array (.array (.object "java/math/BigInteger"))), accessFlags := 74, slot := 19, constantValue := 0 }, { name := "logCache", type := (.array .double), accessFlags := 26, slot := 20, constantValue := 0 }, { name := "LOG_TWO", type := .double, accessFlags := 26, slot := 21, constantValue := 0 }, { name := "ZERO", type := (.object "java/math/BigInteger"), accessFlags := 25, slot := 22, constantValue := 0 }, { name := "ONE", type := (.object "java/math/BigInteger"), accessFlags := 25, slot := 23, constantValue := 0 }, { name := "TWO", type := (.object "java/math/BigInteger"), accessFlags := 25, slot := 24, constantValue := 0 }, { name := "NEGATIVE_ONE", type := (.object "java/math/BigInteger"), accessFlags := 26, slot := 25, constantValue := 0 }, { name := "TEN", type := (.object "java/math/BigInteger"), accessFlags := 25, slot := 26, constantValue := 0 }, { name := "bnExpModThreshTable", type := (.array .int), accessFlags := 8, slot := 27, constantValue := 0 }, { name := "NUM_ZEROS", type := .int, accessFlags := 10, slot := 28, constantValue := 0 }, { name := "ZEROS", type := (.object "java/lang/String"), accessFlags := 26, slot := 29, constantValue := 0 }, { name := "digitsPerLong", type := (.array .int), accessFlags := 10, slot := 30, constantValue := 0 }, { name := "longRadix", type := (.array (.object "java/math/BigInteger")), accessFlags := 10, slot := 31, constantValue := 0 }, { name := "digitsPerInt", type := (.array .int), accessFlags := 10, slot := 32, constantValue := 0 }, { name := "intRadix", type := (.array .int), accessFlags := 10, slot := 33, constantValue := 0 }, { name := "serialVersionUID", type := .long, accessFlags := 26, slot := 34, constantValue := 0 }, { name := "serialPersistentFields", type := (.array (.object "java/io/ObjectStreamField")), accessFlags := 26, slot := 35, constantValue := 0 }, { name := "$assertionsDisabled", type := .boolean, accessFlags := 4120, slot := 36, constantValue := 0 }]
  methods := #[]
  instanceTypes := #[.int, (.array .int), .int, .int, .int, .int]
  staticTypes := #[.long, .int, .int, .int, .int, .int, .int, .int, .int, .int, .int, .int, (.array .long), .int, .int, (.object "java/math/BigInteger"), .int, (.array (.object "java/math/BigInteger")), (.array (.object "java/math/BigInteger")), (.array (.array (.object "java/math/BigInteger"))), (.array .double), .double, (.object "java/math/BigInteger"), (.object "java/math/BigInteger"), (.object "java/math/BigInteger"), (.object "java/math/BigInteger"), (.object "java/math/BigInteger"), (.array .int), .int, (.object "java/lang/String"), (.array .int), (.array (.object "java/math/BigInteger")), (.array .int), (.array .int), .long, (.array (.object "java/io/ObjectStreamField")), .boolean]
  resolved := Array.replicate 1542 none
  statics := some 1 }

def pool14 : Array CpInfo := pool [(1, u "java/lang/Cloneable"), (0, .class_ 1), (0, u "java/lang/Object"), (0, .class_ 3)] 3

/-- java/lang/Cloneable -/
def k14 : Class := { plain "java/lang/Cloneable" (some 0) with
  accessFlags := 1537
  interfaces := #[]
  cf := some (fileOf pool14 2 #[] #[] 1537 4 #[] #[])
  fields := #[]
  methods := #[]
  instanceTypes := #[]
  staticTypes := #[]
  resolved := Array.replicate 8 none
  statics := none }

/-- the primitive byte -/
def k15 : Class := { plain "byte" none with kind := .primitive 'B', accessFlags := 0x411 }
/-- [B -/
def k16 : Class := { plain "[B" (some 0) with kind := .array 15 .byte, interfaces := #[14, 4], accessFlags := 1041 }

/-- the primitive int -/
def k17 : Class := { plain "int" none with kind := .primitive 'I', accessFlags := 0x411 }
/-- [I -/
def k18 : Class := { plain "[I" (some 0) with kind := .array 17 .int, interfaces := #[14, 4], accessFlags := 1041 }

def heap : Heap := #[{ cls := 6, slots := #[.double 0, .int 0, .int 0, .int 0, .int 0, .int 0, .int 0, .long 0, .null, .int 0, .long 0, .null, .null, .long 0, .long 0, .ref 4, .null, .null, .null, .null, .null, .int 0, .int 0, .int 0, .int 0, .int 0, .int 0, .int 0, .int 0, .null, .null, .null, .null, .int 0, .int 0, .null, .long 0, .null, .int 0], vm := .statics 6 },
  { cls := 13, slots := #[.long 0, .int 0, .int 0, .int 0, .int 0, .int 0, .int 0, .int 0, .int 0, .int 0, .int 0, .int 0, .null, .int 0, .int 0, .null, .int 0, .null, .null, .null, .null, .double 0, .ref 3, .null, .null, .null, .null, .null, .int 0, .null, .null, .null, .null, .null, .long 0, .null, .int 0], vm := .statics 13 },
  { cls := 18, slots := #[], vm := .none },
  { cls := 13, slots := #[.int 0, .ref 2, .int 0, .int 0, .int 0, .int 0], vm := .none },
  { cls := 6, slots := #[.ref 3, .int 0, .int 0, .null, .long 0], vm := .none }]
def classes : Array Class := #[k0, k1, k2, k3, k4, k5, k6, k7, k8, k9, k10, k11, k12, k13, k14, k15, k16, k17, k18]
def interned : List (Array UInt16 × Addr) := []
def slotsUsed : Nat := 87
def theMethod : MethodId := ⟨1, 2⟩
def args0 : Array Value := #[.int 5, .int 3, .int 1]
def aboutOver (below : List Frame) : State where
  vm := { classes := classes, interned := interned.toArray }
  heap := heap
  slotsUsed := slotsUsed
  threads := #[{ frames := .invoking theMethod args0 :: below }]
def below0 : List Frame := [.native { method := ⟨0, 0⟩, args := #[] }]
def about1 : State := aboutOver below0
def p0 : Program := .bare "" "" ""
def e0 : Env := launch0.env 0 0 0
theorem w_frames : about1.frames = Frame.invoking theMethod args0 :: below0 := rfl
set_option maxRecDepth 65536 in
theorem w_args : argsFit about1.vm theMethod args0 = true := by decide +kernel
set_option maxRecDepth 65536 in
theorem w_heap : heapFits about1 = true := by decide +kernel
set_option maxRecDepth 65536 in
theorem w_runnable : about1.curStatus? = some .runnable := by decide +kernel
set_option maxRecDepth 65536 in
theorem w_alone : about1.alone = true := by decide +kernel
set_option maxRecDepth 65536 in
theorem w_named : about1.methodNamed? x = some theMethod := by decide +kernel
set_option maxRecDepth 65536 in
theorem w_hears : about1.hears theMethod below0 = true := by decide +kernel
set_option maxRecDepth 65536 in
theorem w_ripe : about1.ripe theMethod args0 below0 = true := by decide +kernel
theorem w_running : about1.status = .running := rfl
set_option maxRecDepth 65536 in
theorem w_room : about1.hasRoom e0.platform room_1 = true :=
  launch0.hasRoom_least _ room_1 (by decide +kernel) (by decide +kernel) (by decide +kernel) (by decide +kernel) (by decide +kernel) (by decide +kernel)
theorem allAtoms_all (ts : List Jvm.Cond) (a : Array Jvm.Value) (st : Jvm.State) : (allAtoms ts).before a st = ts.all (fun c => c.before a st) := by
  induction ts with
  | nil => rfl
  | cons c t ih =>
    show (Jvm.Cond.and c (allAtoms t)).before a st = _
    rw [Jvm.Cond.before_and, ih, List.all_cons]
def words1 : List Jvm.Cond := Jvm.Cond.code x code maxLocals ret :: tables_1
/-- a 'code' word, met by the world's own term for the bytes: nothing is compared byte by byte -/
theorem code_word {y : MethodName} {bytes : ByteArray} {mx : Nat} {rt : Option FieldType} {a : Array Value} {s : State} {m : MethodId} {meth : Method} {c : Code} (h1 : s.methodNamed? y = some m) (h2 : s.vm.method? m = some meth) (h3 : meth.code = some c) (h4 : c.code = bytes)
    (h5 : (c.maxLocals == mx && c.exceptionTable.isEmpty && decide (c.maxStack ≤ mostOperands) && decide (meth.sig.returnType = rt) && !meth.locks && decide (parseMethodDescriptor y.desc = some meth.sig)) = true) : (Jvm.Cond.code y bytes mx rt).before a s = true := by
  simp only [Bool.and_eq_true, beq_iff_eq, Bool.not_eq_true', decide_eq_true_eq] at h5
  obtain ⟨⟨⟨⟨⟨g1, g2⟩, g3⟩, g4⟩, g5⟩, g6⟩ := h5
  simp [Cond.before, Cond.holds, Cond.value, h1, h2, h3, h4, g1, g2, g3, g4, g5, g6]
def isCode : Jvm.Cond → Bool
  | .code _ _ _ _ => true
  | _ => false
theorem all_split {L : List Jvm.Cond} {P : Jvm.Cond → Bool} (h1 : L.all (fun c => isCode c || P c) = true) (h2 : ∀ c ∈ L.filter isCode, P c = true) : L.all P = true := by
  refine List.all_eq_true.mpr fun c hc => ?_
  have h := List.all_eq_true.mp h1 c hc
  rcases Bool.eq_false_or_eq_true (isCode c) with hi | hi
  · exact h2 c (List.mem_filter.mpr ⟨hc, hi⟩)
  · simpa [hi] using h
set_option maxRecDepth 65536 in
theorem w_c0 : (Jvm.Cond.code x code maxLocals ret).before args0 about1 = true := code_word (m := ⟨1, 2⟩) (meth := k1m2) (c := k1c2) (by decide +kernel) rfl rfl rfl (by decide +kernel)
set_option maxRecDepth 65536 in
theorem w_c1 : (Jvm.Cond.code ({ cls := "com/example/lumenplan/lumenplan/network/RankedPath", name := "at", desc := "(I)Lcom/example/lumenplan/lumenplan/network/RankedPath;" } : Jvm.MethodName) prog_24_method_1_code (1 : Nat) (Option.some (Jvm.ClassFile.FieldType.object "com/example/lumenplan/lumenplan/network/RankedPath"))).before args0 about1 = true := code_word (m := ⟨3, 0⟩) (meth := k3m0) (c := k3c0) (by decide +kernel) rfl rfl rfl (by decide +kernel)
set_option maxRecDepth 65536 in
theorem w_c2 : (Jvm.Cond.code ({ cls := "com/example/lumenplan/lumenplan/network/RankedPath", name := "<init>", desc := "(Ljava/math/BigDecimal;[I)V" } : Jvm.MethodName) prog_24_method_4_code (3 : Nat) (Option.none : Option Jvm.ClassFile.FieldType)).before args0 about1 = true := code_word (m := ⟨3, 1⟩) (meth := k3m1) (c := k3c1) (by decide +kernel) rfl rfl rfl (by decide +kernel)
set_option maxRecDepth 65536 in
theorem w_c3 : (Jvm.Cond.code ({ cls := "java/lang/Object", name := "<init>", desc := "()V" } : Jvm.MethodName) object_method_1_code (1 : Nat) (Option.none : Option Jvm.ClassFile.FieldType)).before args0 about1 = true := code_word (m := ⟨0, 0⟩) (meth := k0m0) (c := k0c0) (by decide +kernel) rfl rfl rfl (by decide +kernel)
set_option maxRecDepth 65536 in
theorem w_c4 : (Jvm.Cond.code ({ cls := "com/example/lumenplan/lumenplan/network/RankedPath", name := "size", desc := "()I" } : Jvm.MethodName) prog_24_method_7_code (1 : Nat) (Option.some Jvm.ClassFile.FieldType.int)).before args0 about1 = true := code_word (m := ⟨3, 3⟩) (meth := k3m3) (c := k3c3) (by decide +kernel) rfl rfl rfl (by decide +kernel)
set_option maxRecDepth 65536 in
theorem w_c5 : (Jvm.Cond.code ({ cls := "com/example/lumenplan/lumenplan/network/RankedPath", name := "node", desc := "(I)I" } : Jvm.MethodName) prog_24_method_8_code (2 : Nat) (Option.some Jvm.ClassFile.FieldType.int)).before args0 about1 = true := code_word (m := ⟨3, 4⟩) (meth := k3m4) (c := k3c4) (by decide +kernel) rfl rfl rfl (by decide +kernel)
set_option maxRecDepth 65536 in
theorem w_c6 : (Jvm.Cond.code ({ cls := "com/example/lumenplan/lumenplan/network/RankedPath", name := "last", desc := "()I" } : Jvm.MethodName) prog_24_method_10_code (1 : Nat) (Option.some Jvm.ClassFile.FieldType.int)).before args0 about1 = true := code_word (m := ⟨3, 6⟩) (meth := k3m6) (c := k3c6) (by decide +kernel) rfl rfl rfl (by decide +kernel)
set_option maxRecDepth 65536 in
theorem w_c7 : (Jvm.Cond.code ({ cls := "com/example/lumenplan/lumenplan/network/RankedPath", name := "passes", desc := "(I)Z" } : Jvm.MethodName) prog_24_method_6_code (6 : Nat) (Option.some Jvm.ClassFile.FieldType.boolean)).before args0 about1 = true := code_word (m := ⟨3, 2⟩) (meth := k3m2) (c := k3c2) (by decide +kernel) rfl rfl rfl (by decide +kernel)
set_option maxRecDepth 65536 in
theorem w_c8 : (Jvm.Cond.code ({ cls := "com/example/lumenplan/lumenplan/network/RankedPath", name := "startsWith", desc := "(Lcom/example/lumenplan/lumenplan/network/RankedPath;)Z" } : Jvm.MethodName) prog_24_method_9_code (2 : Nat) (Option.some Jvm.ClassFile.FieldType.boolean)).before args0 about1 = true := code_word (m := ⟨3, 5⟩) (meth := k3m5) (c := k3c5) (by decide +kernel) rfl rfl rfl (by decide +kernel)
set_option maxRecDepth 65536 in
theorem w_c9 : (Jvm.Cond.code ({ cls := "java/util/Arrays", name := "equals", desc := "([III[III)Z" } : Jvm.MethodName) jdk_65_method_84_code (8 : Nat) (Option.some Jvm.ClassFile.FieldType.boolean)).before args0 about1 = true := code_word (m := ⟨7, 2⟩) (meth := k7m2) (c := k7c2) (by decide +kernel) rfl rfl rfl (by decide +kernel)
set_option maxRecDepth 65536 in
theorem w_c10 : (Jvm.Cond.code ({ cls := "java/util/Arrays", name := "rangeCheck", desc := "(III)V" } : Jvm.MethodName) jdk_65_method_30_code (3 : Nat) (Option.none : Option Jvm.ClassFile.FieldType)).before args0 about1 = true := code_word (m := ⟨7, 1⟩) (meth := k7m1) (c := k7c1) (by decide +kernel) rfl rfl rfl (by decide +kernel)
set_option maxRecDepth 65536 in
theorem w_c11 : (Jvm.Cond.code ({ cls := "jdk/internal/util/ArraysSupport", name := "mismatch", desc := "([II[III)I" } : Jvm.MethodName) jdk_48_method_20_code (8 : Nat) (Option.some Jvm.ClassFile.FieldType.int)).before args0 about1 = true := code_word (m := ⟨8, 2⟩) (meth := k8m2) (c := k8c2) (by decide +kernel) rfl rfl rfl (by decide +kernel)
set_option maxRecDepth 65536 in
theorem w_c12 : (Jvm.Cond.code ({ cls := "com/example/lumenplan/lumenplan/network/RankedPath", name := "compareTo", desc := "(Lcom/example/lumenplan/lumenplan/network/RankedPath;)I" } : Jvm.MethodName) prog_24_method_13_code (4 : Nat) (Option.some Jvm.ClassFile.FieldType.int)).before args0 about1 = true := code_word (m := ⟨3, 7⟩) (meth := k3m7) (c := k3c7) (by decide +kernel) rfl rfl rfl (by decide +kernel)
set_option maxRecDepth 65536 in
theorem w_c13 : (Jvm.Cond.code ({ cls := "java/math/BigDecimal", name := "compareTo", desc := "(Ljava/math/BigDecimal;)I" } : Jvm.MethodName) jdk_17_method_70_code (6 : Nat) (Option.some Jvm.ClassFile.FieldType.int)).before args0 about1 = true := code_word (m := ⟨6, 0⟩) (meth := k6m0) (c := k6c0) (by decide +kernel) rfl rfl rfl (by decide +kernel)
set_option maxRecDepth 65536 in
theorem w_c14 : (Jvm.Cond.code ({ cls := "java/lang/Integer", name := "compare", desc := "(II)I" } : Jvm.MethodName) jdk_33_method_40_code (2 : Nat) (Option.some Jvm.ClassFile.FieldType.int)).before args0 about1 = true := code_word (m := ⟨11, 0⟩) (meth := k11m0) (c := k11c0) (by decide +kernel) rfl rfl rfl (by decide +kernel)
set_option maxRecDepth 65536 in
theorem w_c15 : (Jvm.Cond.code ({ cls := "java/util/Arrays", name := "compare", desc := "([I[I)I" } : Jvm.MethodName) jdk_65_method_209_code (3 : Nat) (Option.some Jvm.ClassFile.FieldType.int)).before args0 about1 = true := code_word (m := ⟨7, 3⟩) (meth := k7m3) (c := k7c3) (by decide +kernel) rfl rfl rfl (by decide +kernel)
set_option maxRecDepth 65536 in
theorem w_c16 : (Jvm.Cond.code ({ cls := "java/lang/Math", name := "min", desc := "(II)I" } : Jvm.MethodName) jdk_29_method_69_code (2 : Nat) (Option.some Jvm.ClassFile.FieldType.int)).before args0 about1 = true := code_word (m := ⟨12, 1⟩) (meth := k12m1) (c := k12c1) (by decide +kernel) rfl rfl rfl (by decide +kernel)
set_option maxRecDepth 65536 in
theorem w_c17 : (Jvm.Cond.code ({ cls := "jdk/internal/util/ArraysSupport", name := "mismatch", desc := "([I[II)I" } : Jvm.MethodName) jdk_48_method_19_code (4 : Nat) (Option.some Jvm.ClassFile.FieldType.int)).before args0 about1 = true := code_word (m := ⟨8, 1⟩) (meth := k8m1) (c := k8c1) (by decide +kernel) rfl rfl rfl (by decide +kernel)
set_option maxRecDepth 65536 in
theorem w_c18 : (Jvm.Cond.code ({ cls := "com/example/lumenplan/lumenplan/network/RankedPathAtPinLaw", name := "sign", desc := "(I)I" } : Jvm.MethodName) method_2_code (1 : Nat) (Option.some Jvm.ClassFile.FieldType.int)).before args0 about1 = true := code_word (m := ⟨1, 1⟩) (meth := k1m1) (c := k1c1) (by decide +kernel) rfl rfl rfl (by decide +kernel)
def codes1 : List Jvm.Cond := [Jvm.Cond.code x code maxLocals ret, Jvm.Cond.code ({ cls := "com/example/lumenplan/lumenplan/network/RankedPath", name := "at", desc := "(I)Lcom/example/lumenplan/lumenplan/network/RankedPath;" } : Jvm.MethodName) prog_24_method_1_code (1 : Nat) (Option.some (Jvm.ClassFile.FieldType.object "com/example/lumenplan/lumenplan/network/RankedPath")), Jvm.Cond.code ({ cls := "com/example/lumenplan/lumenplan/network/RankedPath", name := "<init>", desc := "(Ljava/math/BigDecimal;[I)V" } : Jvm.MethodName) prog_24_method_4_code (3 : Nat) (Option.none : Option Jvm.ClassFile.FieldType), Jvm.Cond.code ({ cls := "java/lang/Object", name := "<init>", desc := "()V" } : Jvm.MethodName) object_method_1_code (1 : Nat) (Option.none : Option Jvm.ClassFile.FieldType), Jvm.Cond.code ({ cls := "com/example/lumenplan/lumenplan/network/RankedPath", name := "size", desc := "()I" } : Jvm.MethodName) prog_24_method_7_code (1 : Nat) (Option.some Jvm.ClassFile.FieldType.int), Jvm.Cond.code ({ cls := "com/example/lumenplan/lumenplan/network/RankedPath", name := "node", desc := "(I)I" } : Jvm.MethodName) prog_24_method_8_code (2 : Nat) (Option.some Jvm.ClassFile.FieldType.int), Jvm.Cond.code ({ cls := "com/example/lumenplan/lumenplan/network/RankedPath", name := "last", desc := "()I" } : Jvm.MethodName) prog_24_method_10_code (1 : Nat) (Option.some Jvm.ClassFile.FieldType.int), Jvm.Cond.code ({ cls := "com/example/lumenplan/lumenplan/network/RankedPath", name := "passes", desc := "(I)Z" } : Jvm.MethodName) prog_24_method_6_code (6 : Nat) (Option.some Jvm.ClassFile.FieldType.boolean), Jvm.Cond.code ({ cls := "com/example/lumenplan/lumenplan/network/RankedPath", name := "startsWith", desc := "(Lcom/example/lumenplan/lumenplan/network/RankedPath;)Z" } : Jvm.MethodName) prog_24_method_9_code (2 : Nat) (Option.some Jvm.ClassFile.FieldType.boolean), Jvm.Cond.code ({ cls := "java/util/Arrays", name := "equals", desc := "([III[III)Z" } : Jvm.MethodName) jdk_65_method_84_code (8 : Nat) (Option.some Jvm.ClassFile.FieldType.boolean), Jvm.Cond.code ({ cls := "java/util/Arrays", name := "rangeCheck", desc := "(III)V" } : Jvm.MethodName) jdk_65_method_30_code (3 : Nat) (Option.none : Option Jvm.ClassFile.FieldType), Jvm.Cond.code ({ cls := "jdk/internal/util/ArraysSupport", name := "mismatch", desc := "([II[III)I" } : Jvm.MethodName) jdk_48_method_20_code (8 : Nat) (Option.some Jvm.ClassFile.FieldType.int), Jvm.Cond.code ({ cls := "com/example/lumenplan/lumenplan/network/RankedPath", name := "compareTo", desc := "(Lcom/example/lumenplan/lumenplan/network/RankedPath;)I" } : Jvm.MethodName) prog_24_method_13_code (4 : Nat) (Option.some Jvm.ClassFile.FieldType.int), Jvm.Cond.code ({ cls := "java/math/BigDecimal", name := "compareTo", desc := "(Ljava/math/BigDecimal;)I" } : Jvm.MethodName) jdk_17_method_70_code (6 : Nat) (Option.some Jvm.ClassFile.FieldType.int), Jvm.Cond.code ({ cls := "java/lang/Integer", name := "compare", desc := "(II)I" } : Jvm.MethodName) jdk_33_method_40_code (2 : Nat) (Option.some Jvm.ClassFile.FieldType.int), Jvm.Cond.code ({ cls := "java/util/Arrays", name := "compare", desc := "([I[I)I" } : Jvm.MethodName) jdk_65_method_209_code (3 : Nat) (Option.some Jvm.ClassFile.FieldType.int), Jvm.Cond.code ({ cls := "java/lang/Math", name := "min", desc := "(II)I" } : Jvm.MethodName) jdk_29_method_69_code (2 : Nat) (Option.some Jvm.ClassFile.FieldType.int), Jvm.Cond.code ({ cls := "jdk/internal/util/ArraysSupport", name := "mismatch", desc := "([I[II)I" } : Jvm.MethodName) jdk_48_method_19_code (4 : Nat) (Option.some Jvm.ClassFile.FieldType.int), Jvm.Cond.code ({ cls := "com/example/lumenplan/lumenplan/network/RankedPathAtPinLaw", name := "sign", desc := "(I)I" } : Jvm.MethodName) method_2_code (1 : Nat) (Option.some Jvm.ClassFile.FieldType.int)]
set_option maxRecDepth 65536 in
theorem codes_eq : words1.filter isCode = codes1 := rfl
theorem w_codes : ∀ c ∈ words1.filter isCode, c.before args0 about1 = true := by
  rw [codes_eq]
  intro c hc
  simp only [codes1, List.mem_cons, List.not_mem_nil, or_false] at hc
  rcases hc with rfl | rfl | rfl | rfl | rfl | rfl | rfl | rfl | rfl | rfl | rfl | rfl | rfl | rfl | rfl | rfl | rfl | rfl | rfl
  · exact w_c0
  · exact w_c1
  · exact w_c2
  · exact w_c3
  · exact w_c4
  · exact w_c5
  · exact w_c6
  · exact w_c7
  · exact w_c8
  · exact w_c9
  · exact w_c10
  · exact w_c11
  · exact w_c12
  · exact w_c13
  · exact w_c14
  · exact w_c15
  · exact w_c16
  · exact w_c17
  · exact w_c18
set_option maxRecDepth 65536 in
theorem w_t1 : (words1.take 24).all (fun c => isCode c || c.before args0 about1) = true := by decide +kernel
set_option maxRecDepth 65536 in
theorem w_t2 : ((words1.drop 24).take 24).all (fun c => isCode c || c.before args0 about1) = true := by decide +kernel
set_option maxRecDepth 65536 in
theorem w_t3 : (((words1.drop 24).drop 24).take 24).all (fun c => isCode c || c.before args0 about1) = true := by decide +kernel
set_option maxRecDepth 65536 in
theorem w_t4 : (((words1.drop 24).drop 24).drop 24).all (fun c => isCode c || c.before args0 about1) = true := by decide +kernel
theorem w_tables : (allAtoms (Jvm.Cond.code x code maxLocals ret :: tables_1)).before args0 about1 = true := by
  rw [allAtoms_all]
  show words1.all (fun c => c.before args0 about1) = true
  refine all_split ?_ w_codes
  rw [← List.take_append_drop 24 words1, List.all_append, w_t1, ← List.take_append_drop 24 (words1.drop 24), List.all_append, w_t2, ← List.take_append_drop 24 ((words1.drop 24).drop 24), List.all_append, w_t3, w_t4]
  rfl
set_option maxRecDepth 65536 in
theorem w_rest : rest_1_c.before args0 about1 = true := by decide +kernel
set_option maxRecDepth 65536 in
theorem w_case : (Jvm.Cond.and given_1 narrow_1).before args0 about1 = true := by decide +kernel
theorem w_applies : (headSpec (Jvm.Cond.code x code maxLocals ret :: tables_1) room_1).applies x e0.platform about1 = true :=
  (Spec.applies_iff w_frames).mpr ⟨w_running, w_runnable, w_alone, w_named, w_hears, w_ripe, w_room, w_tables⟩
theorem atStart : AtStart classFile x code maxLocals ret World_1 tables_1 room_1 Calls_1 rest_1 Pre_1 launch0 p0 e0 about1 theMethod args0 below0 :=
  ⟨lists_1, trivial, launch0.admits_env _ _ _, launch0.least_env, fairChoices_fair.cas, fairChoices_fair.clock, w_frames, w_args, w_heap, w_applies, trivial, w_rest, w_case⟩
end start1
theorem witness_1 : WitnessClaimed_1 := ⟨start1.p0, start1.e0, start1.about1, start1.theMethod, start1.args0, start1.below0, start1.atStart⟩
end Jvm.Pilot.@@N@@
