import JvmDerived
import JvmDerived.Pilot.@@N@@Statement
import JvmDerived.Pilot.@@N@@Code
set_option linter.unusedVariables false
set_option linter.unusedSimpArgs false
namespace Jvm.RoadKit
open Sem ClassFile Op Lib Jvm.Stand Jvm.Free Jvm.LawKit
section New
variable {p : Program} {l : Launch} {e : Env} {R : Room} {s : State} {m : MethodId} {args : Array Value} {below : List Frame} {meth : Method} {c : Code} {T : State} {locs : List Loc} {cells slots : Nat}
theorem retI (X : Stand p l e R s m args below meth c T locs cells slots) (hx : p.tables.exec = Jvm.exec) {pc : Nat} {Ls : Array Slot} {z : Int32} {rest : List Value} (hret : meth.sig.returnType = some .int) (hd : decode c.code pc = .ok (.ireturn, 1)) {fs : List Frame}
    (hl : ∀ (f : JFrame) (acts : List Action), f.method = m → f.locked = none → f.entered = [] → (doReturn e (T.setTop f) acts (some (.int z))).1 = T.setFrames fs) : Steps p.tables e below (T.setTop (mkF m pc Ls (.int z :: rest))) (T.setFrames fs) := by
  have hm' : T.vm.method? m = some meth := X.method'
  have hn : narrow .int (.int z) = .int z := rfl
  show Steps p.tables e below (T.setTop { method := m, pc := pc, locals := Ls, stack := _ :: rest, locked := none }) _
  jvm_step X.here [X.here.top, hx, hd, hm', hret, hn]
  first | (intro acts; rw [hl _ acts rfl rfl rfl]) | rw [hl _ _ rfl rfl rfl]
  exact Steps.refl _
end New
end Jvm.RoadKit
namespace Jvm.Pilot.@@N@@
open Jvm Jvm.ClassFile Sem Op Lib Jvm.Free Jvm.Stand Jvm.LawKit Jvm.RoadKit Bundle Jvm.Pilot.@@N@@.Jvm.D
def Rch (p : Program) (e : Env) (below : List Frame) (S0 T : State) (g : JFrame) : Prop := ∀ t, Steps p.tables e below (T.setTop g) t → Steps p.tables e below S0 t
theorem own_le {Z : State} {n0 : Nat} {h : Heap} (O : Old Z n0 h) : n0 ≤ h.size := O.1 ▸ O.2.1
theorem own_ge {Z : State} {n0 : Nat} {h : Heap} {x : Nat} (O : Old Z n0 h) (g : h.size ≤ x) : n0 ≤ x := Nat.le_trans (own_le O) g
theorem own_ne {y x k : Nat} (h : y < k) (g : k ≤ x) : y ≠ x := Nat.ne_of_lt (Nat.lt_of_lt_of_le h g)
section Own
variable {p : Program} {l : Launch} {e : Env} {R : Room} {s : State} {m : MethodId} {args : Array Value} {below : List Frame} {meth : Method} {c : Code} {T : State} {locs : List Loc} {cells slots : Nat}
def Like (X : Stand p l e R s m args below meth c T locs cells slots) (T' : State) : Prop := Stand p l e R s m args below meth c T' locs cells slots
theorem Like.out {X : Stand p l e R s m args below meth c T locs cells slots} {T' : State} (h : Like X T') : Stand p l e R s m args below meth c T' locs cells slots := h
end Own
theorem own_eqi {args : Array Value} {first s : State} {o : Option Outcome} {idx : List Nat} {a : Term} {n : Int32} (h : (Jvm.Cond.eq a (Jvm.Term.int n)).value args first o s idx = some true) : a.eval args first o idx s = some (.int n) := by
  simp only [Cond.value, Term.int_eval] at h
  cases ha : a.eval args first o idx s with
  | none => simp [ha] at h
  | some x => cases x <;> simp [ha] at h ⊢; exact h
theorem own_eqr {args : Array Value} {first s : State} {o : Option Outcome} {idx : List Nat} {a b : Term} {w : Addr} (eb : b.eval args first o idx s = some (.ref w)) (h : (Jvm.Cond.eq a b).value args first o s idx = some true) : a.eval args first o idx s = some (.ref w) := by
  simp only [Cond.value, eb] at h
  cases ha : a.eval args first o idx s with
  | none => simp [ha] at h
  | some x => cases x <;> simp [ha] at h ⊢; exact h
theorem own_len {args : Array Value} {s : State} {t : Term} {a : Addr} {cl : Cell} {ty : FieldType} {z : Int32} (ht : t.eval args s none [] s = some (.ref a)) (A : Arr s s.heap a cl ty) (h : (Jvm.Cond.eq (Jvm.Term.length t) (Jvm.Term.int z)).value args s none s [] = some true) : cl.slots.size < 2 ^ 31 ∧ cl.slots.size.toInt32 = z := by
  have q := own_eqi h
  have ha := Arr.fin (Vm.Alike.refl _) A
  simp only [Term.eval, ht, ha, Option.bind_eq_bind, Option.bind_some] at q
  by_cases c : cl.slots.size < 2 ^ 31
  · rw [if_pos c] at q
    exact ⟨c, by simpa using q⟩
  · rw [if_neg c] at q; cases q
theorem own_elem {args : Array Value} {s : State} {t b : Term} {a w : Addr} {cl : Cell} {ty : FieldType} {z : Int32} (ht : t.eval args s none [] s = some (.ref a)) (A : Arr s s.heap a cl ty) (eb : b.eval args s none [] s = some (.ref w)) (h : (Jvm.Cond.eq (Jvm.Term.elem t (Jvm.Term.int z)) b).value args s none s [] = some true) : cl.slots[z.toNatClampNeg]? = some (.ref w) :=
  (elem_in (own_eqr eb h) ht (Term.int_eval z) A.1).2
def Q_rm2 (Z : State) (wA : Addr) (kA : ClassId) (wP : Addr) (wR : Addr) (wM : Addr) (h0 : Heap) (n0 : Nat) (v : Option Value) (h : Heap) (L : List Loc) : Prop := ∃ x, v = some (.ref x) ∧ Fr n0 L ∧ h0.size ≤ x ∧ Ext h0 h ∧ Arv Z h x kA (.object "com/example/trothwy/trothwy/core/store/Change$Kind") (3 : Int32) [.ref wP, .ref wR, .ref wM] .null
theorem ef_2 (m : MethodId)  : entryFrame m #[] 0 = mkF m 0 #[] [] := by first | (simp [entryFrame, mkF, argsToLocals, Value.category]; done) | rfl
theorem pn_Change_Kind : plainName "com/example/trothwy/trothwy/core/store/Change$Kind" = true := by first | (simp [plainName, overriddenIn]; done) | decide +kernel
theorem d2_0 : decode prog_42_method_1_code 0 = .ok (.getstatic 13, 3) := by decide +kernel
theorem d2_3 : decode prog_42_method_1_code 3 = .ok (.invokevirtual 17, 3) := by decide +kernel
theorem d2_6 : decode prog_42_method_1_code 6 = .ok (.checkcast 18, 3) := by decide +kernel
theorem d2_9 : decode prog_42_method_1_code 9 = .ok (.areturn, 1) := by decide +kernel
set_option maxRecDepth 65536 in
set_option maxHeartbeats 40000000 in
theorem rm2 (l : Launch) (Z : State) (a0 : Array Value) (hw : ∀ d ∈ tables_1, d.before a0 Z = true) (ws : List Jvm.Cond) (wA : Addr) (kA : ClassId) (wP : Addr) (wR : Addr) (wM : Addr) (h0 : Heap) (n0 : Nat) (O0 : Old Z n0 h0) (SA : Sta Z Z.heap "com/example/trothwy/trothwy/core/store/Change$Kind" "$VALUES" "[Lcom/example/trothwy/trothwy/core/store/Change$Kind;" (.ref wA)) (EA : Exa Z Z.heap wA "[Lcom/example/trothwy/trothwy/core/store/Change$Kind;") (VA : Arv Z Z.heap wA kA (.object "com/example/trothwy/trothwy/core/store/Change$Kind") (3 : Int32) [.ref wP, .ref wR, .ref wM] .null) :
    MetFree l (⟨"com/example/trothwy/trothwy/core/store/Change$Kind", "values", "()[Lcom/example/trothwy/trothwy/core/store/Change$Kind;"⟩ : MethodName) (head1 (Jvm.Cond.code (⟨"com/example/trothwy/trothwy/core/store/Change$Kind", "values", "()[Lcom/example/trothwy/trothwy/core/store/Change$Kind;"⟩ : MethodName) prog_42_method_1_code 0 (some (.array (.object "com/example/trothwy/trothwy/core/store/Change$Kind"))) :: ws) ({ frames := 1, cells := 1, slots := 3, locals := 14 } : Room)) (fun a U => a = #[] ∧ Z.Warmed39 U.vm ∧ U.heap = h0) (fun _ _ _ _ _ => True) (fun _ U o U' => ∃ v L, o = .returned v ∧ Q_rm2 Z wA kA wP wR wM h0 n0 v U'.heap L ∧ FrameEnd U o U' L ({ frames := 1, cells := 1, slots := 3, locals := 14 } : Room).cells ({ frames := 1, cells := 1, slots := 3, locals := 14 } : Room).slots) := by
  refine MetFree.of_bodySF (plainFor_of_name pn_Change_Kind) hisR ?_
  intro p e s m args below meth c s₁ Bd hml0 hP hK
  obtain ⟨rfl, hZ, hh⟩ := hP
  have hx := Bd.exec
  have hby := Bd.bytes
  have hml : c.maxLocals = 0 := hml0
  have hown : s.vm.findClass "com/example/trothwy/trothwy/core/store/Change$Kind" = some m.cls := findClass_of_methodNamed Bd.named
  have hnm := (name_of_methodNamed Bd.named Bd.method).1
  have X0 : Stand p l e ({ frames := 1, cells := 1, slots := 3, locals := 14 } : Room) s m #[] below meth c s₁ [] 0 0 := Stand.of_body Bd
  have e0 : s₁.heap = h0 := by rw [← hh, Bd.state]; rfl
  have N0 := Fr.nil n0
  obtain ⟨S0, hS0⟩ : ∃ z, z = s₁.setTop (entryFrame m #[] 0) := ⟨_, rfl⟩
  have k0 : Rch p e below S0 s₁ (mkF m 0 #[] []) := fun t k => hS0 ▸ castTop (ef_2 m ) k
  obtain ⟨T1, X1, e1, st1⟩ := getS2 X0 hx hZ hown (host := "") (Or.inl (hw _ (List.mem_of_getElem? (i := 8) rfl))) Via.refl e0 (SA.ext O0.2) (g := (mkF m 0 #[] [])) rfl (hb hby d2_0)
  have k2 : Rch p e below S0 T1 (mkF m 3 #[] [(.ref wA)]) := fun t h => k0 t (st1 t h)
  obtain ⟨T3, h3, X3, e3, E3, V3, A3, st3⟩ := cloneH X1 hx hZ hown (hw _ (List.mem_of_getElem? (i := 10) rfl)) (hw _ (List.mem_of_getElem? (i := 11) rfl)) (hw _ (List.mem_of_getElem? (i := 15) rfl)) (hw _ (List.mem_of_getElem? (i := 13) rfl)) (hw _ (List.mem_of_getElem? (i := 14) rfl)) (hw _ (List.mem_of_getElem? (i := 16) rfl)) e1 (VA.ext O0.2).arh (EA.ext O0.2) (g := (mkF m 3 #[] [(.ref wA)])) rfl (by rw [hml]; rfl) rfl (hb hby d2_3) (by decide) (W := 0) (by show 2 * 0 + _ ≤ _; exact Nat.le_of_eq rfl) (by decide) (cap := 3) (by decide) (by decide) (by decide)
  obtain ⟨b3, g3⟩ : ∃ z, z = h0.size := ⟨_, rfl⟩
  rw [← g3] at V3 A3 st3
  have k4 : Rch p e below S0 T3 (mkF m 6 #[] [(.ref b3)]) := fun t h => k2 t (st3 t h)
  have ge_b3 : n0 ≤ b3 := own_ge O0 (Nat.le_of_eq g3.symm)
  have O5 := O0.ext E3
  obtain ⟨T6, X6, e6, st6⟩ := castY X3 hx hZ hown (hw _ (List.mem_of_getElem? (i := 21) rfl)) e3 (Ins.self A3) (g := (mkF m 6 #[] [(.ref b3)])) rfl rfl (hb hby d2_6)
  have k7 : Rch p e below S0 T6 (mkF m 9 #[] [(.ref b3)]) := fun t h => k4 t (st6 t h)
  obtain ⟨fs, hr, hrun, hended, hW, hsame⟩ := X6.leave (v := (some (.ref b3))) (fun h => by rw [Bd.returns] at h; cases h)
  refine ⟨_, _, ?_, hrun, hended, _, _, rfl, ?_, ⟨_, rfl⟩, hW, hsame.mono (by decide) (by decide)⟩
  · rw [← hS0]
    refine k7 _ ?_
    show Steps p.tables e below (T6.setTop (mkF m 9 #[] [(.ref b3)])) _
    jvm_step X6.here [X6.here.top, hx, (hb hby d2_9), X6.method', Bd.returns, Value.isRef, FieldType.isReference]
    first | (intro acts; rw [hr _ acts rfl rfl rfl]) | rw [hr _ _ rfl rfl rfl]
    exact Steps.refl _
  · show Q_rm2 Z wA kA wP wR wM h0 n0 _ T6.heap _
    rw [e6]
    exact ⟨b3, rfl, N0, Nat.le_of_eq g3.symm, E3, V3⟩
def Q_rm1_1 (Z : State) (wA : Addr) (kA : ClassId) (wP : Addr) (wR : Addr) (wM : Addr) (h0 : Heap) (n0 : Nat) (v : Option Value) (h : Heap) (L : List Loc) : Prop := v = some (.ref wP) ∧ Fr n0 L ∧ Ext h0 h
theorem ef_1 (m : MethodId) (x0 : Int32) : entryFrame m #[(.int x0)] 5 = mkF m 0 #[.val (.int x0), .unset, .unset, .unset, .unset] [] := by first | (simp [entryFrame, mkF, argsToLocals, Value.category]; done) | rfl
theorem pd_1 : parseMethodDescriptor "()[Lcom/example/trothwy/trothwy/core/store/Change$Kind;" = some ⟨[], some (.array (.object "com/example/trothwy/trothwy/core/store/Change$Kind"))⟩ := by decide +kernel
theorem d1_0 : decode prog_42_method_4_code 0 = .ok (.invokestatic 36, 3) := by decide +kernel
theorem d1_3 : decode prog_42_method_4_code 3 = .ok (.astore_n 1, 1) := by decide +kernel
theorem d1_4 : decode prog_42_method_4_code 4 = .ok (.aload_n 1, 1) := by decide +kernel
theorem d1_5 : decode prog_42_method_4_code 5 = .ok (.arraylength, 1) := by decide +kernel
theorem d1_6 : decode prog_42_method_4_code 6 = .ok (.istore_n 2, 1) := by decide +kernel
theorem d1_7 : decode prog_42_method_4_code 7 = .ok (.iconst 0, 1) := by decide +kernel
theorem d1_8 : decode prog_42_method_4_code 8 = .ok (.istore_n 3, 1) := by decide +kernel
theorem d1_9 : decode prog_42_method_4_code 9 = .ok (.iload_n 3, 1) := by decide +kernel
theorem d1_10 : decode prog_42_method_4_code 10 = .ok (.iload_n 2, 1) := by decide +kernel
theorem d1_11 : decode prog_42_method_4_code 11 = .ok (.if_icmp .ge 26, 3) := by decide +kernel
theorem d1_14 : decode prog_42_method_4_code 14 = .ok (.aload_n 1, 1) := by decide +kernel
theorem d1_15 : decode prog_42_method_4_code 15 = .ok (.iload_n 3, 1) := by decide +kernel
theorem d1_16 : decode prog_42_method_4_code 16 = .ok (.aaload, 1) := by decide +kernel
theorem d1_17 : decode prog_42_method_4_code 17 = .ok (.astore 4, 2) := by decide +kernel
theorem d1_19 : decode prog_42_method_4_code 19 = .ok (.aload 4, 2) := by decide +kernel
theorem d1_21 : decode prog_42_method_4_code 21 = .ok (.getfield 32, 3) := by decide +kernel
theorem d1_24 : decode prog_42_method_4_code 24 = .ok (.iload_n 0, 1) := by decide +kernel
theorem d1_25 : decode prog_42_method_4_code 25 = .ok (.if_icmp .ne 6, 3) := by decide +kernel
theorem d1_28 : decode prog_42_method_4_code 28 = .ok (.aload 4, 2) := by decide +kernel
theorem d1_30 : decode prog_42_method_4_code 30 = .ok (.areturn, 1) := by decide +kernel
set_option maxRecDepth 65536 in
set_option maxHeartbeats 40000000 in
theorem rm1_1 (l : Launch) (Z : State) (a0 : Array Value) (hw : ∀ d ∈ tables_1, d.before a0 Z = true) (ws : List Jvm.Cond) (wA : Addr) (kA : ClassId) (wP : Addr) (wR : Addr) (wM : Addr) (h0 : Heap) (n0 : Nat) (O0 : Old Z n0 h0) (SA : Sta Z Z.heap "com/example/trothwy/trothwy/core/store/Change$Kind" "$VALUES" "[Lcom/example/trothwy/trothwy/core/store/Change$Kind;" (.ref wA)) (EA : Exa Z Z.heap wA "[Lcom/example/trothwy/trothwy/core/store/Change$Kind;") (VA : Arv Z Z.heap wA kA (.object "com/example/trothwy/trothwy/core/store/Change$Kind") (3 : Int32) [.ref wP, .ref wR, .ref wM] .null) (F1 : Fld Z Z.heap wP "com/example/trothwy/trothwy/core/store/Change$Kind" "code" "I" (.int (1 : Int32))) (F2 : Fld Z Z.heap wR "com/example/trothwy/trothwy/core/store/Change$Kind" "code" "I" (.int (2 : Int32))) (F3 : Fld Z Z.heap wM "com/example/trothwy/trothwy/core/store/Change$Kind" "code" "I" (.int (3 : Int32))) :
    MetFree l (⟨"com/example/trothwy/trothwy/core/store/Change$Kind", "of", "(I)Lcom/example/trothwy/trothwy/core/store/Change$Kind;"⟩ : MethodName) (head1 (Jvm.Cond.code (⟨"com/example/trothwy/trothwy/core/store/Change$Kind", "of", "(I)Lcom/example/trothwy/trothwy/core/store/Change$Kind;"⟩ : MethodName) prog_42_method_4_code 5 (some (.object "com/example/trothwy/trothwy/core/store/Change$Kind")) :: ws) ({ frames := 2, cells := 1, slots := 3, locals := 25 } : Room)) (fun a U => a = #[(.int (1 : Int32))] ∧ Z.Warmed39 U.vm ∧ U.heap = h0) (fun _ _ _ _ _ => True) (fun _ U o U' => ∃ v L, o = .returned v ∧ Q_rm1_1 Z wA kA wP wR wM h0 n0 v U'.heap L ∧ FrameEnd U o U' L ({ frames := 2, cells := 1, slots := 3, locals := 25 } : Room).cells ({ frames := 2, cells := 1, slots := 3, locals := 25 } : Room).slots) := by
  refine MetFree.of_bodySF (plainFor_of_name pn_Change_Kind) hisR ?_
  intro p e s m args below meth c s₁ Bd hml0 hP hK
  obtain ⟨rfl, hZ, hh⟩ := hP
  have hx := Bd.exec
  have hby := Bd.bytes
  have hml : c.maxLocals = 5 := hml0
  have hown : s.vm.findClass "com/example/trothwy/trothwy/core/store/Change$Kind" = some m.cls := findClass_of_methodNamed Bd.named
  have hnm := (name_of_methodNamed Bd.named Bd.method).1
  have X0 : Stand p l e ({ frames := 2, cells := 1, slots := 3, locals := 25 } : Room) s m #[(.int (1 : Int32))] below meth c s₁ [] 0 0 := Stand.of_body Bd
  have e0 : s₁.heap = h0 := by rw [← hh, Bd.state]; rfl
  have N0 := Fr.nil n0
  obtain ⟨S0, hS0⟩ : ∃ z, z = s₁.setTop (entryFrame m #[(.int (1 : Int32))] 5) := ⟨_, rfl⟩
  have k0 : Rch p e below S0 s₁ (mkF m 0 #[.val (.int (1 : Int32)), .unset, .unset, .unset, .unset] []) := fun t k => hS0 ▸ castTop (ef_1 m (1 : Int32)) k
  obtain ⟨_, _, ⟨T8, L8, kk8, n8⟩, -, X8, ⟨Lc8, hQ8, l8, y8, z8⟩, st8⟩ := Jvm.LawKit.callS X0 hx (y := (⟨"com/example/trothwy/trothwy/core/store/Change$Kind", "values", "()[Lcom/example/trothwy/trothwy/core/store/Change$Kind;"⟩ : MethodName)) hown (mvT hZ (hw _ (List.mem_of_getElem? (i := 5) rfl))) (mvT hZ (hw _ (List.mem_of_getElem? (i := 6) rfl))) (mvT hZ (hw _ (List.mem_of_getElem? (i := 3) rfl))) (mvT hZ (hw _ (List.mem_of_getElem? (i := 7) rfl))) (by decide) (backOf (W := 0) (rm2 l Z a0 hw []  wA kA wP wR wM h0 n0 O0 SA EA VA) hZ (hw _ (List.mem_of_getElem? (i := 7) rfl)) (hw _ (List.mem_of_getElem? (i := 3) rfl)) (by decide) (by decide)) (g := (mkF m 0 #[.val (.int (1 : Int32)), .unset, .unset, .unset, .unset] [])) rfl (by rw [hml]; rfl) (argsL := []) (rest := []) (lenOf pd_1 rfl) rfl (by show 2 * 0 + _ ≤ _; exact Nat.le_of_eq rfl) (hb hby d1_0) (fun _ _ => ⟨rfl, e0, (by decide : 0 + 1 ≤ _), (by decide : 0 + 3 ≤ _)⟩)
  dsimp only [Pt.U, Pt.locs, Pt.cells, Pt.slots] at X8 l8 y8 z8 st8 hQ8
  subst l8 y8 z8
  obtain ⟨b8, rfl, Nq8, sz8, E8, V8⟩ := hQ8
  have N8 := Fr.app N0 Nq8
  have k9 : Rch p e below S0 T8 (mkF m 3 #[.val (.int (1 : Int32)), .unset, .unset, .unset, .unset] [(.ref b8)]) := fun t h => k0 t (st8 t h)
  have ge_b8 : n0 ≤ b8 := own_ge O0 sz8
  have O10 := O0.ext E8
  have k12 : Rch p e below S0 T8 (mkF m 5 #[.val (.int (1 : Int32)), .val (.ref b8), .unset, .unset, .unset] [(.ref b8)]) := fun t h => k9 t (by
      show Steps p.tables e below (T8.setTop (mkF m 3 #[.val (.int (1 : Int32)), .unset, .unset, .unset, .unset] [(.ref b8)])) _
      refine XS.astoreN X8.here hx rfl (hb hby d1_3) rfl rfl (l' := #[.val (.int (1 : Int32)), .val (.ref b8), .unset, .unset, .unset]) rfl ?_
      show Steps p.tables e below (T8.setTop (mkF m 4 #[.val (.int (1 : Int32)), .val (.ref b8), .unset, .unset, .unset] [])) _
      refine XS.aloadN X8.here hx rfl (hb hby d1_4) rfl rfl ?_
      show Steps p.tables e below (T8.setTop (mkF m 5 #[.val (.int (1 : Int32)), .val (.ref b8), .unset, .unset, .unset] [(.ref b8)])) _
      exact h)
  obtain ⟨cl11, Ar11, q11, Sz11, Ng11, Hs11, G11⟩ := id V8
  have k14 : Rch p e below S0 T8 (mkF m 16 #[.val (.int (1 : Int32)), .val (.ref b8), .val (.int (3 : Int32)), .val (.int (0 : Int32)), .unset] [(.int (0 : Int32)), (.ref b8)]) := fun t h => k12 t (by
      show Steps p.tables e below (T8.setTop (mkF m 5 #[.val (.int (1 : Int32)), .val (.ref b8), .unset, .unset, .unset] [(.ref b8)])) _
      refine X8.arraylength hx (by exact Ar11.1) (State.isArrayOf_alike hZ.alike Ar11.2.1) (g := (mkF m 5 #[.val (.int (1 : Int32)), .val (.ref b8), .unset, .unset, .unset] [(.ref b8)])) rfl rfl (hb hby d1_5) _ ?_
      rw [len_of Sz11 Ng11]
      show Steps p.tables e below (T8.setTop (mkF m 6 #[.val (.int (1 : Int32)), .val (.ref b8), .unset, .unset, .unset] [(.int (3 : Int32))])) _
      refine XS.istoreN X8.here hx rfl (hb hby d1_6) rfl (l' := #[.val (.int (1 : Int32)), .val (.ref b8), .val (.int (3 : Int32)), .unset, .unset]) rfl ?_
      show Steps p.tables e below (T8.setTop (mkF m 7 #[.val (.int (1 : Int32)), .val (.ref b8), .val (.int (3 : Int32)), .unset, .unset] [])) _
      refine XS.iconst X8.here hx rfl (hb hby d1_7) ?_
      show Steps p.tables e below (T8.setTop (mkF m 8 #[.val (.int (1 : Int32)), .val (.ref b8), .val (.int (3 : Int32)), .unset, .unset] [(.int (0 : Int32))])) _
      refine XS.istoreN X8.here hx rfl (hb hby d1_8) rfl (l' := #[.val (.int (1 : Int32)), .val (.ref b8), .val (.int (3 : Int32)), .val (.int (0 : Int32)), .unset]) rfl ?_
      show Steps p.tables e below (T8.setTop (mkF m 9 #[.val (.int (1 : Int32)), .val (.ref b8), .val (.int (3 : Int32)), .val (.int (0 : Int32)), .unset] [])) _
      refine XS.iloadN X8.here hx rfl (hb hby d1_9) rfl ?_
      show Steps p.tables e below (T8.setTop (mkF m 10 #[.val (.int (1 : Int32)), .val (.ref b8), .val (.int (3 : Int32)), .val (.int (0 : Int32)), .unset] [(.int (0 : Int32))])) _
      refine XS.iloadN X8.here hx rfl (hb hby d1_10) rfl ?_
      show Steps p.tables e below (T8.setTop (mkF m 11 #[.val (.int (1 : Int32)), .val (.ref b8), .val (.int (3 : Int32)), .val (.int (0 : Int32)), .unset] [(.int (3 : Int32)), (.int (0 : Int32))])) _
      refine XS.icmpNo X8.here hx rfl (hb hby d1_11) rfl (tlt (by decide : (0 : Int32) < (3 : Int32))).2.1 ?_
      show Steps p.tables e below (T8.setTop (mkF m 14 #[.val (.int (1 : Int32)), .val (.ref b8), .val (.int (3 : Int32)), .val (.int (0 : Int32)), .unset] [])) _
      refine XS.aloadN X8.here hx rfl (hb hby d1_14) rfl rfl ?_
      show Steps p.tables e below (T8.setTop (mkF m 15 #[.val (.int (1 : Int32)), .val (.ref b8), .val (.int (3 : Int32)), .val (.int (0 : Int32)), .unset] [(.ref b8)])) _
      refine XS.iloadN X8.here hx rfl (hb hby d1_15) rfl ?_
      show Steps p.tables e below (T8.setTop (mkF m 16 #[.val (.int (1 : Int32)), .val (.ref b8), .val (.int (3 : Int32)), .val (.int (0 : Int32)), .unset] [(.int (0 : Int32)), (.ref b8)])) _
      exact h)
  obtain ⟨cl13, Ar13, q13, Sz13, Ng13, Hs13, G13⟩ := id V8
  have hin13 : ¬ ((0 : Int32) < 0 ∨ cl13.slots.size ≤ ((0 : Int32)).toNatClampNeg) := inb_of Sz13 ⟨by decide, by decide⟩
  have hat13 : cl13.slots[((0 : Int32)).toNatClampNeg]? = some (.ref wP) := Hs13.at hin13 (rfl)
  have k16 : Rch p e below S0 T8 (mkF m 21 #[.val (.int (1 : Int32)), .val (.ref b8), .val (.int (3 : Int32)), .val (.int (0 : Int32)), .val (.ref wP)] [(.ref wP)]) := fun t h => k14 t (by
      show Steps p.tables e below (T8.setTop (mkF m 16 #[.val (.int (1 : Int32)), .val (.ref b8), .val (.int (3 : Int32)), .val (.int (0 : Int32)), .unset] [(.int (0 : Int32)), (.ref b8)])) _
      refine X8.aaload hx (j := (0 : Int32)) (v := (.ref wP)) (by exact Ar13.1) (State.isArrayOf_alike hZ.alike Ar13.2.1) rfl Ar13.2.2 hin13 hat13 (g := (mkF m 16 #[.val (.int (1 : Int32)), .val (.ref b8), .val (.int (3 : Int32)), .val (.int (0 : Int32)), .unset] [(.int (0 : Int32)), (.ref b8)])) rfl rfl (hb hby d1_16) _ ?_
      show Steps p.tables e below (T8.setTop (mkF m 17 #[.val (.int (1 : Int32)), .val (.ref b8), .val (.int (3 : Int32)), .val (.int (0 : Int32)), .unset] [(.ref wP)])) _
      refine XS.astore X8.here hx rfl (hb hby d1_17) rfl rfl (l' := #[.val (.int (1 : Int32)), .val (.ref b8), .val (.int (3 : Int32)), .val (.int (0 : Int32)), .val (.ref wP)]) rfl ?_
      show Steps p.tables e below (T8.setTop (mkF m 19 #[.val (.int (1 : Int32)), .val (.ref b8), .val (.int (3 : Int32)), .val (.int (0 : Int32)), .val (.ref wP)] [])) _
      refine XS.aload X8.here hx rfl (hb hby d1_19) rfl rfl ?_
      show Steps p.tables e below (T8.setTop (mkF m 21 #[.val (.int (1 : Int32)), .val (.ref b8), .val (.int (3 : Int32)), .val (.int (0 : Int32)), .val (.ref wP)] [(.ref wP)])) _
      exact h)
  obtain ⟨T15, X15, e15, st15⟩ := getF X8 hx hZ hown (host := "") (Or.inl (hw _ (List.mem_of_getElem? (i := 23) rfl))) Via.refl rfl (F1.ext O10.2) (g := (mkF m 21 #[.val (.int (1 : Int32)), .val (.ref b8), .val (.int (3 : Int32)), .val (.int (0 : Int32)), .val (.ref wP)] [(.ref wP)])) rfl rfl (hb hby d1_21)
  have k17 : Rch p e below S0 T15 (mkF m 24 #[.val (.int (1 : Int32)), .val (.ref b8), .val (.int (3 : Int32)), .val (.int (0 : Int32)), .val (.ref wP)] [(.int (1 : Int32))]) := fun t h => k16 t (st15 t h)
  have k18 : Rch p e below S0 T15 (mkF m 30 #[.val (.int (1 : Int32)), .val (.ref b8), .val (.int (3 : Int32)), .val (.int (0 : Int32)), .val (.ref wP)] [(.ref wP)]) := fun t h => k17 t (by
      show Steps p.tables e below (T15.setTop (mkF m 24 #[.val (.int (1 : Int32)), .val (.ref b8), .val (.int (3 : Int32)), .val (.int (0 : Int32)), .val (.ref wP)] [(.int (1 : Int32))])) _
      refine XS.iloadN X15.here hx rfl (hb hby d1_24) rfl ?_
      show Steps p.tables e below (T15.setTop (mkF m 25 #[.val (.int (1 : Int32)), .val (.ref b8), .val (.int (3 : Int32)), .val (.int (0 : Int32)), .val (.ref wP)] [(.int (1 : Int32)), (.int (1 : Int32))])) _
      refine XS.icmpNo X15.here hx rfl (hb hby d1_25) rfl (teq (by decide : (1 : Int32) = (1 : Int32))).2 ?_
      show Steps p.tables e below (T15.setTop (mkF m 28 #[.val (.int (1 : Int32)), .val (.ref b8), .val (.int (3 : Int32)), .val (.int (0 : Int32)), .val (.ref wP)] [])) _
      refine XS.aload X15.here hx rfl (hb hby d1_28) rfl rfl ?_
      show Steps p.tables e below (T15.setTop (mkF m 30 #[.val (.int (1 : Int32)), .val (.ref b8), .val (.int (3 : Int32)), .val (.int (0 : Int32)), .val (.ref wP)] [(.ref wP)])) _
      exact h)
  obtain ⟨fs, hr, hrun, hended, hW, hsame⟩ := X15.leave (v := (some (.ref wP))) (fun h => by rw [Bd.returns] at h; cases h)
  refine ⟨_, _, ?_, hrun, hended, _, _, rfl, ?_, ⟨_, rfl⟩, hW, hsame.mono (by decide) (by decide)⟩
  · rw [← hS0]
    refine k18 _ ?_
    show Steps p.tables e below (T15.setTop (mkF m 30 #[.val (.int (1 : Int32)), .val (.ref b8), .val (.int (3 : Int32)), .val (.int (0 : Int32)), .val (.ref wP)] [(.ref wP)])) _
    jvm_step X15.here [X15.here.top, hx, (hb hby d1_30), X15.method', Bd.returns, Value.isRef, FieldType.isReference]
    first | (intro acts; rw [hr _ acts rfl rfl rfl]) | rw [hr _ _ rfl rfl rfl]
    exact Steps.refl _
  · show Q_rm1_1 Z wA kA wP wR wM h0 n0 _ T15.heap _
    rw [e15]
    exact ⟨rfl, N8, E8⟩
def Q_rm1_2 (Z : State) (wA : Addr) (kA : ClassId) (wP : Addr) (wR : Addr) (wM : Addr) (h0 : Heap) (n0 : Nat) (v : Option Value) (h : Heap) (L : List Loc) : Prop := v = some (.ref wR) ∧ Fr n0 L ∧ Ext h0 h
theorem d1_31 : decode prog_42_method_4_code 31 = .ok (.iinc 3 1, 3) := by decide +kernel
theorem d1_34 : decode prog_42_method_4_code 34 = .ok (.goto (-25), 3) := by decide +kernel
set_option maxRecDepth 65536 in
set_option maxHeartbeats 40000000 in
theorem rm1_2 (l : Launch) (Z : State) (a0 : Array Value) (hw : ∀ d ∈ tables_1, d.before a0 Z = true) (ws : List Jvm.Cond) (wA : Addr) (kA : ClassId) (wP : Addr) (wR : Addr) (wM : Addr) (h0 : Heap) (n0 : Nat) (O0 : Old Z n0 h0) (SA : Sta Z Z.heap "com/example/trothwy/trothwy/core/store/Change$Kind" "$VALUES" "[Lcom/example/trothwy/trothwy/core/store/Change$Kind;" (.ref wA)) (EA : Exa Z Z.heap wA "[Lcom/example/trothwy/trothwy/core/store/Change$Kind;") (VA : Arv Z Z.heap wA kA (.object "com/example/trothwy/trothwy/core/store/Change$Kind") (3 : Int32) [.ref wP, .ref wR, .ref wM] .null) (F1 : Fld Z Z.heap wP "com/example/trothwy/trothwy/core/store/Change$Kind" "code" "I" (.int (1 : Int32))) (F2 : Fld Z Z.heap wR "com/example/trothwy/trothwy/core/store/Change$Kind" "code" "I" (.int (2 : Int32))) (F3 : Fld Z Z.heap wM "com/example/trothwy/trothwy/core/store/Change$Kind" "code" "I" (.int (3 : Int32))) :
    MetFree l (⟨"com/example/trothwy/trothwy/core/store/Change$Kind", "of", "(I)Lcom/example/trothwy/trothwy/core/store/Change$Kind;"⟩ : MethodName) (head1 (Jvm.Cond.code (⟨"com/example/trothwy/trothwy/core/store/Change$Kind", "of", "(I)Lcom/example/trothwy/trothwy/core/store/Change$Kind;"⟩ : MethodName) prog_42_method_4_code 5 (some (.object "com/example/trothwy/trothwy/core/store/Change$Kind")) :: ws) ({ frames := 2, cells := 1, slots := 3, locals := 25 } : Room)) (fun a U => a = #[(.int (2 : Int32))] ∧ Z.Warmed39 U.vm ∧ U.heap = h0) (fun _ _ _ _ _ => True) (fun _ U o U' => ∃ v L, o = .returned v ∧ Q_rm1_2 Z wA kA wP wR wM h0 n0 v U'.heap L ∧ FrameEnd U o U' L ({ frames := 2, cells := 1, slots := 3, locals := 25 } : Room).cells ({ frames := 2, cells := 1, slots := 3, locals := 25 } : Room).slots) := by
  refine MetFree.of_bodySF (plainFor_of_name pn_Change_Kind) hisR ?_
  intro p e s m args below meth c s₁ Bd hml0 hP hK
  obtain ⟨rfl, hZ, hh⟩ := hP
  have hx := Bd.exec
  have hby := Bd.bytes
  have hml : c.maxLocals = 5 := hml0
  have hown : s.vm.findClass "com/example/trothwy/trothwy/core/store/Change$Kind" = some m.cls := findClass_of_methodNamed Bd.named
  have hnm := (name_of_methodNamed Bd.named Bd.method).1
  have X0 : Stand p l e ({ frames := 2, cells := 1, slots := 3, locals := 25 } : Room) s m #[(.int (2 : Int32))] below meth c s₁ [] 0 0 := Stand.of_body Bd
  have e0 : s₁.heap = h0 := by rw [← hh, Bd.state]; rfl
  have N0 := Fr.nil n0
  obtain ⟨S0, hS0⟩ : ∃ z, z = s₁.setTop (entryFrame m #[(.int (2 : Int32))] 5) := ⟨_, rfl⟩
  have k0 : Rch p e below S0 s₁ (mkF m 0 #[.val (.int (2 : Int32)), .unset, .unset, .unset, .unset] []) := fun t k => hS0 ▸ castTop (ef_1 m (2 : Int32)) k
  obtain ⟨_, _, ⟨T19, L19, kk19, n19⟩, -, X19, ⟨Lc19, hQ19, l19, y19, z19⟩, st19⟩ := Jvm.LawKit.callS X0 hx (y := (⟨"com/example/trothwy/trothwy/core/store/Change$Kind", "values", "()[Lcom/example/trothwy/trothwy/core/store/Change$Kind;"⟩ : MethodName)) hown (mvT hZ (hw _ (List.mem_of_getElem? (i := 5) rfl))) (mvT hZ (hw _ (List.mem_of_getElem? (i := 6) rfl))) (mvT hZ (hw _ (List.mem_of_getElem? (i := 3) rfl))) (mvT hZ (hw _ (List.mem_of_getElem? (i := 7) rfl))) (by decide) (backOf (W := 0) (rm2 l Z a0 hw []  wA kA wP wR wM h0 n0 O0 SA EA VA) hZ (hw _ (List.mem_of_getElem? (i := 7) rfl)) (hw _ (List.mem_of_getElem? (i := 3) rfl)) (by decide) (by decide)) (g := (mkF m 0 #[.val (.int (2 : Int32)), .unset, .unset, .unset, .unset] [])) rfl (by rw [hml]; rfl) (argsL := []) (rest := []) (lenOf pd_1 rfl) rfl (by show 2 * 0 + _ ≤ _; exact Nat.le_of_eq rfl) (hb hby d1_0) (fun _ _ => ⟨rfl, e0, (by decide : 0 + 1 ≤ _), (by decide : 0 + 3 ≤ _)⟩)
  dsimp only [Pt.U, Pt.locs, Pt.cells, Pt.slots] at X19 l19 y19 z19 st19 hQ19
  subst l19 y19 z19
  obtain ⟨b19, rfl, Nq19, sz19, E19, V19⟩ := hQ19
  have N19 := Fr.app N0 Nq19
  have k20 : Rch p e below S0 T19 (mkF m 3 #[.val (.int (2 : Int32)), .unset, .unset, .unset, .unset] [(.ref b19)]) := fun t h => k0 t (st19 t h)
  have ge_b19 : n0 ≤ b19 := own_ge O0 sz19
  have O21 := O0.ext E19
  have k23 : Rch p e below S0 T19 (mkF m 5 #[.val (.int (2 : Int32)), .val (.ref b19), .unset, .unset, .unset] [(.ref b19)]) := fun t h => k20 t (by
      show Steps p.tables e below (T19.setTop (mkF m 3 #[.val (.int (2 : Int32)), .unset, .unset, .unset, .unset] [(.ref b19)])) _
      refine XS.astoreN X19.here hx rfl (hb hby d1_3) rfl rfl (l' := #[.val (.int (2 : Int32)), .val (.ref b19), .unset, .unset, .unset]) rfl ?_
      show Steps p.tables e below (T19.setTop (mkF m 4 #[.val (.int (2 : Int32)), .val (.ref b19), .unset, .unset, .unset] [])) _
      refine XS.aloadN X19.here hx rfl (hb hby d1_4) rfl rfl ?_
      show Steps p.tables e below (T19.setTop (mkF m 5 #[.val (.int (2 : Int32)), .val (.ref b19), .unset, .unset, .unset] [(.ref b19)])) _
      exact h)
  obtain ⟨cl22, Ar22, q22, Sz22, Ng22, Hs22, G22⟩ := id V19
  have k25 : Rch p e below S0 T19 (mkF m 16 #[.val (.int (2 : Int32)), .val (.ref b19), .val (.int (3 : Int32)), .val (.int (0 : Int32)), .unset] [(.int (0 : Int32)), (.ref b19)]) := fun t h => k23 t (by
      show Steps p.tables e below (T19.setTop (mkF m 5 #[.val (.int (2 : Int32)), .val (.ref b19), .unset, .unset, .unset] [(.ref b19)])) _
      refine X19.arraylength hx (by exact Ar22.1) (State.isArrayOf_alike hZ.alike Ar22.2.1) (g := (mkF m 5 #[.val (.int (2 : Int32)), .val (.ref b19), .unset, .unset, .unset] [(.ref b19)])) rfl rfl (hb hby d1_5) _ ?_
      rw [len_of Sz22 Ng22]
      show Steps p.tables e below (T19.setTop (mkF m 6 #[.val (.int (2 : Int32)), .val (.ref b19), .unset, .unset, .unset] [(.int (3 : Int32))])) _
      refine XS.istoreN X19.here hx rfl (hb hby d1_6) rfl (l' := #[.val (.int (2 : Int32)), .val (.ref b19), .val (.int (3 : Int32)), .unset, .unset]) rfl ?_
      show Steps p.tables e below (T19.setTop (mkF m 7 #[.val (.int (2 : Int32)), .val (.ref b19), .val (.int (3 : Int32)), .unset, .unset] [])) _
      refine XS.iconst X19.here hx rfl (hb hby d1_7) ?_
      show Steps p.tables e below (T19.setTop (mkF m 8 #[.val (.int (2 : Int32)), .val (.ref b19), .val (.int (3 : Int32)), .unset, .unset] [(.int (0 : Int32))])) _
      refine XS.istoreN X19.here hx rfl (hb hby d1_8) rfl (l' := #[.val (.int (2 : Int32)), .val (.ref b19), .val (.int (3 : Int32)), .val (.int (0 : Int32)), .unset]) rfl ?_
      show Steps p.tables e below (T19.setTop (mkF m 9 #[.val (.int (2 : Int32)), .val (.ref b19), .val (.int (3 : Int32)), .val (.int (0 : Int32)), .unset] [])) _
      refine XS.iloadN X19.here hx rfl (hb hby d1_9) rfl ?_
      show Steps p.tables e below (T19.setTop (mkF m 10 #[.val (.int (2 : Int32)), .val (.ref b19), .val (.int (3 : Int32)), .val (.int (0 : Int32)), .unset] [(.int (0 : Int32))])) _
      refine XS.iloadN X19.here hx rfl (hb hby d1_10) rfl ?_
      show Steps p.tables e below (T19.setTop (mkF m 11 #[.val (.int (2 : Int32)), .val (.ref b19), .val (.int (3 : Int32)), .val (.int (0 : Int32)), .unset] [(.int (3 : Int32)), (.int (0 : Int32))])) _
      refine XS.icmpNo X19.here hx rfl (hb hby d1_11) rfl (tlt (by decide : (0 : Int32) < (3 : Int32))).2.1 ?_
      show Steps p.tables e below (T19.setTop (mkF m 14 #[.val (.int (2 : Int32)), .val (.ref b19), .val (.int (3 : Int32)), .val (.int (0 : Int32)), .unset] [])) _
      refine XS.aloadN X19.here hx rfl (hb hby d1_14) rfl rfl ?_
      show Steps p.tables e below (T19.setTop (mkF m 15 #[.val (.int (2 : Int32)), .val (.ref b19), .val (.int (3 : Int32)), .val (.int (0 : Int32)), .unset] [(.ref b19)])) _
      refine XS.iloadN X19.here hx rfl (hb hby d1_15) rfl ?_
      show Steps p.tables e below (T19.setTop (mkF m 16 #[.val (.int (2 : Int32)), .val (.ref b19), .val (.int (3 : Int32)), .val (.int (0 : Int32)), .unset] [(.int (0 : Int32)), (.ref b19)])) _
      exact h)
  obtain ⟨cl24, Ar24, q24, Sz24, Ng24, Hs24, G24⟩ := id V19
  have hin24 : ¬ ((0 : Int32) < 0 ∨ cl24.slots.size ≤ ((0 : Int32)).toNatClampNeg) := inb_of Sz24 ⟨by decide, by decide⟩
  have hat24 : cl24.slots[((0 : Int32)).toNatClampNeg]? = some (.ref wP) := Hs24.at hin24 (rfl)
  have k27 : Rch p e below S0 T19 (mkF m 21 #[.val (.int (2 : Int32)), .val (.ref b19), .val (.int (3 : Int32)), .val (.int (0 : Int32)), .val (.ref wP)] [(.ref wP)]) := fun t h => k25 t (by
      show Steps p.tables e below (T19.setTop (mkF m 16 #[.val (.int (2 : Int32)), .val (.ref b19), .val (.int (3 : Int32)), .val (.int (0 : Int32)), .unset] [(.int (0 : Int32)), (.ref b19)])) _
      refine X19.aaload hx (j := (0 : Int32)) (v := (.ref wP)) (by exact Ar24.1) (State.isArrayOf_alike hZ.alike Ar24.2.1) rfl Ar24.2.2 hin24 hat24 (g := (mkF m 16 #[.val (.int (2 : Int32)), .val (.ref b19), .val (.int (3 : Int32)), .val (.int (0 : Int32)), .unset] [(.int (0 : Int32)), (.ref b19)])) rfl rfl (hb hby d1_16) _ ?_
      show Steps p.tables e below (T19.setTop (mkF m 17 #[.val (.int (2 : Int32)), .val (.ref b19), .val (.int (3 : Int32)), .val (.int (0 : Int32)), .unset] [(.ref wP)])) _
      refine XS.astore X19.here hx rfl (hb hby d1_17) rfl rfl (l' := #[.val (.int (2 : Int32)), .val (.ref b19), .val (.int (3 : Int32)), .val (.int (0 : Int32)), .val (.ref wP)]) rfl ?_
      show Steps p.tables e below (T19.setTop (mkF m 19 #[.val (.int (2 : Int32)), .val (.ref b19), .val (.int (3 : Int32)), .val (.int (0 : Int32)), .val (.ref wP)] [])) _
      refine XS.aload X19.here hx rfl (hb hby d1_19) rfl rfl ?_
      show Steps p.tables e below (T19.setTop (mkF m 21 #[.val (.int (2 : Int32)), .val (.ref b19), .val (.int (3 : Int32)), .val (.int (0 : Int32)), .val (.ref wP)] [(.ref wP)])) _
      exact h)
  obtain ⟨T26, X26, e26, st26⟩ := getF X19 hx hZ hown (host := "") (Or.inl (hw _ (List.mem_of_getElem? (i := 23) rfl))) Via.refl rfl (F1.ext O21.2) (g := (mkF m 21 #[.val (.int (2 : Int32)), .val (.ref b19), .val (.int (3 : Int32)), .val (.int (0 : Int32)), .val (.ref wP)] [(.ref wP)])) rfl rfl (hb hby d1_21)
  have k28 : Rch p e below S0 T26 (mkF m 24 #[.val (.int (2 : Int32)), .val (.ref b19), .val (.int (3 : Int32)), .val (.int (0 : Int32)), .val (.ref wP)] [(.int (1 : Int32))]) := fun t h => k27 t (st26 t h)
  have k30 : Rch p e below S0 T26 (mkF m 16 #[.val (.int (2 : Int32)), .val (.ref b19), .val (.int (3 : Int32)), .val (.int (1 : Int32)), .val (.ref wP)] [(.int (1 : Int32)), (.ref b19)]) := fun t h => k28 t (by
      show Steps p.tables e below (T26.setTop (mkF m 24 #[.val (.int (2 : Int32)), .val (.ref b19), .val (.int (3 : Int32)), .val (.int (0 : Int32)), .val (.ref wP)] [(.int (1 : Int32))])) _
      refine XS.iloadN X26.here hx rfl (hb hby d1_24) rfl ?_
      show Steps p.tables e below (T26.setTop (mkF m 25 #[.val (.int (2 : Int32)), .val (.ref b19), .val (.int (3 : Int32)), .val (.int (0 : Int32)), .val (.ref wP)] [(.int (2 : Int32)), (.int (1 : Int32))])) _
      refine XS.icmpYes X26.here hx rfl (pc0 := 25) (pc' := 31) rfl (hb hby d1_25) rfl (feq (by decide : ¬ ((1 : Int32) = (2 : Int32)))).2 (by decide) (by decide) ?_
      show Steps p.tables e below (T26.setTop (mkF m 31 #[.val (.int (2 : Int32)), .val (.ref b19), .val (.int (3 : Int32)), .val (.int (0 : Int32)), .val (.ref wP)] [])) _
      refine XS.iinc X26.here hx rfl (hb hby d1_31) rfl (l' := #[.val (.int (2 : Int32)), .val (.ref b19), .val (.int (3 : Int32)), .val (.int ((0 : Int32) + (1 : Int32))), .val (.ref wP)]) rfl ?_
      rw [(by decide : ((0 : Int32) + (1 : Int32)) = (1 : Int32))]
      show Steps p.tables e below (T26.setTop (mkF m 34 #[.val (.int (2 : Int32)), .val (.ref b19), .val (.int (3 : Int32)), .val (.int (1 : Int32)), .val (.ref wP)] [])) _
      refine XS.goto X26.here hx rfl (pc0 := 34) (pc' := 9) rfl (hb hby d1_34) (by decide) (by decide) ?_
      show Steps p.tables e below (T26.setTop (mkF m 9 #[.val (.int (2 : Int32)), .val (.ref b19), .val (.int (3 : Int32)), .val (.int (1 : Int32)), .val (.ref wP)] [])) _
      refine XS.iloadN X26.here hx rfl (hb hby d1_9) rfl ?_
      show Steps p.tables e below (T26.setTop (mkF m 10 #[.val (.int (2 : Int32)), .val (.ref b19), .val (.int (3 : Int32)), .val (.int (1 : Int32)), .val (.ref wP)] [(.int (1 : Int32))])) _
      refine XS.iloadN X26.here hx rfl (hb hby d1_10) rfl ?_
      show Steps p.tables e below (T26.setTop (mkF m 11 #[.val (.int (2 : Int32)), .val (.ref b19), .val (.int (3 : Int32)), .val (.int (1 : Int32)), .val (.ref wP)] [(.int (3 : Int32)), (.int (1 : Int32))])) _
      refine XS.icmpNo X26.here hx rfl (hb hby d1_11) rfl (tlt (by decide : (1 : Int32) < (3 : Int32))).2.1 ?_
      show Steps p.tables e below (T26.setTop (mkF m 14 #[.val (.int (2 : Int32)), .val (.ref b19), .val (.int (3 : Int32)), .val (.int (1 : Int32)), .val (.ref wP)] [])) _
      refine XS.aloadN X26.here hx rfl (hb hby d1_14) rfl rfl ?_
      show Steps p.tables e below (T26.setTop (mkF m 15 #[.val (.int (2 : Int32)), .val (.ref b19), .val (.int (3 : Int32)), .val (.int (1 : Int32)), .val (.ref wP)] [(.ref b19)])) _
      refine XS.iloadN X26.here hx rfl (hb hby d1_15) rfl ?_
      show Steps p.tables e below (T26.setTop (mkF m 16 #[.val (.int (2 : Int32)), .val (.ref b19), .val (.int (3 : Int32)), .val (.int (1 : Int32)), .val (.ref wP)] [(.int (1 : Int32)), (.ref b19)])) _
      exact h)
  obtain ⟨cl29, Ar29, q29, Sz29, Ng29, Hs29, G29⟩ := id V19
  have hin29 : ¬ ((1 : Int32) < 0 ∨ cl29.slots.size ≤ ((1 : Int32)).toNatClampNeg) := inb_of Sz29 ⟨by decide, by decide⟩
  have hat29 : cl29.slots[((1 : Int32)).toNatClampNeg]? = some (.ref wR) := Hs29.at hin29 (rfl)
  have k32 : Rch p e below S0 T26 (mkF m 21 #[.val (.int (2 : Int32)), .val (.ref b19), .val (.int (3 : Int32)), .val (.int (1 : Int32)), .val (.ref wR)] [(.ref wR)]) := fun t h => k30 t (by
      show Steps p.tables e below (T26.setTop (mkF m 16 #[.val (.int (2 : Int32)), .val (.ref b19), .val (.int (3 : Int32)), .val (.int (1 : Int32)), .val (.ref wP)] [(.int (1 : Int32)), (.ref b19)])) _
      refine X26.aaload hx (j := (1 : Int32)) (v := (.ref wR)) (by rw [e26]; exact Ar29.1) (State.isArrayOf_alike hZ.alike Ar29.2.1) rfl Ar29.2.2 hin29 hat29 (g := (mkF m 16 #[.val (.int (2 : Int32)), .val (.ref b19), .val (.int (3 : Int32)), .val (.int (1 : Int32)), .val (.ref wP)] [(.int (1 : Int32)), (.ref b19)])) rfl rfl (hb hby d1_16) _ ?_
      show Steps p.tables e below (T26.setTop (mkF m 17 #[.val (.int (2 : Int32)), .val (.ref b19), .val (.int (3 : Int32)), .val (.int (1 : Int32)), .val (.ref wP)] [(.ref wR)])) _
      refine XS.astore X26.here hx rfl (hb hby d1_17) rfl rfl (l' := #[.val (.int (2 : Int32)), .val (.ref b19), .val (.int (3 : Int32)), .val (.int (1 : Int32)), .val (.ref wR)]) rfl ?_
      show Steps p.tables e below (T26.setTop (mkF m 19 #[.val (.int (2 : Int32)), .val (.ref b19), .val (.int (3 : Int32)), .val (.int (1 : Int32)), .val (.ref wR)] [])) _
      refine XS.aload X26.here hx rfl (hb hby d1_19) rfl rfl ?_
      show Steps p.tables e below (T26.setTop (mkF m 21 #[.val (.int (2 : Int32)), .val (.ref b19), .val (.int (3 : Int32)), .val (.int (1 : Int32)), .val (.ref wR)] [(.ref wR)])) _
      exact h)
  obtain ⟨T31, X31, e31, st31⟩ := getF X26 hx hZ hown (host := "") (Or.inl (hw _ (List.mem_of_getElem? (i := 23) rfl))) Via.refl e26 (F2.ext O21.2) (g := (mkF m 21 #[.val (.int (2 : Int32)), .val (.ref b19), .val (.int (3 : Int32)), .val (.int (1 : Int32)), .val (.ref wR)] [(.ref wR)])) rfl rfl (hb hby d1_21)
  have k33 : Rch p e below S0 T31 (mkF m 24 #[.val (.int (2 : Int32)), .val (.ref b19), .val (.int (3 : Int32)), .val (.int (1 : Int32)), .val (.ref wR)] [(.int (2 : Int32))]) := fun t h => k32 t (st31 t h)
  have k34 : Rch p e below S0 T31 (mkF m 30 #[.val (.int (2 : Int32)), .val (.ref b19), .val (.int (3 : Int32)), .val (.int (1 : Int32)), .val (.ref wR)] [(.ref wR)]) := fun t h => k33 t (by
      show Steps p.tables e below (T31.setTop (mkF m 24 #[.val (.int (2 : Int32)), .val (.ref b19), .val (.int (3 : Int32)), .val (.int (1 : Int32)), .val (.ref wR)] [(.int (2 : Int32))])) _
      refine XS.iloadN X31.here hx rfl (hb hby d1_24) rfl ?_
      show Steps p.tables e below (T31.setTop (mkF m 25 #[.val (.int (2 : Int32)), .val (.ref b19), .val (.int (3 : Int32)), .val (.int (1 : Int32)), .val (.ref wR)] [(.int (2 : Int32)), (.int (2 : Int32))])) _
      refine XS.icmpNo X31.here hx rfl (hb hby d1_25) rfl (teq (by decide : (2 : Int32) = (2 : Int32))).2 ?_
      show Steps p.tables e below (T31.setTop (mkF m 28 #[.val (.int (2 : Int32)), .val (.ref b19), .val (.int (3 : Int32)), .val (.int (1 : Int32)), .val (.ref wR)] [])) _
      refine XS.aload X31.here hx rfl (hb hby d1_28) rfl rfl ?_
      show Steps p.tables e below (T31.setTop (mkF m 30 #[.val (.int (2 : Int32)), .val (.ref b19), .val (.int (3 : Int32)), .val (.int (1 : Int32)), .val (.ref wR)] [(.ref wR)])) _
      exact h)
  obtain ⟨fs, hr, hrun, hended, hW, hsame⟩ := X31.leave (v := (some (.ref wR))) (fun h => by rw [Bd.returns] at h; cases h)
  refine ⟨_, _, ?_, hrun, hended, _, _, rfl, ?_, ⟨_, rfl⟩, hW, hsame.mono (by decide) (by decide)⟩
  · rw [← hS0]
    refine k34 _ ?_
    show Steps p.tables e below (T31.setTop (mkF m 30 #[.val (.int (2 : Int32)), .val (.ref b19), .val (.int (3 : Int32)), .val (.int (1 : Int32)), .val (.ref wR)] [(.ref wR)])) _
    jvm_step X31.here [X31.here.top, hx, (hb hby d1_30), X31.method', Bd.returns, Value.isRef, FieldType.isReference]
    first | (intro acts; rw [hr _ acts rfl rfl rfl]) | rw [hr _ _ rfl rfl rfl]
    exact Steps.refl _
  · show Q_rm1_2 Z wA kA wP wR wM h0 n0 _ T31.heap _
    rw [e31]
    exact ⟨rfl, N19, E19⟩
def Q_rm1_3 (Z : State) (wA : Addr) (kA : ClassId) (wP : Addr) (wR : Addr) (wM : Addr) (h0 : Heap) (n0 : Nat) (v : Option Value) (h : Heap) (L : List Loc) : Prop := v = some (.ref wM) ∧ Fr n0 L ∧ Ext h0 h
set_option maxRecDepth 65536 in
set_option maxHeartbeats 40000000 in
theorem rm1_3 (l : Launch) (Z : State) (a0 : Array Value) (hw : ∀ d ∈ tables_1, d.before a0 Z = true) (ws : List Jvm.Cond) (wA : Addr) (kA : ClassId) (wP : Addr) (wR : Addr) (wM : Addr) (h0 : Heap) (n0 : Nat) (O0 : Old Z n0 h0) (SA : Sta Z Z.heap "com/example/trothwy/trothwy/core/store/Change$Kind" "$VALUES" "[Lcom/example/trothwy/trothwy/core/store/Change$Kind;" (.ref wA)) (EA : Exa Z Z.heap wA "[Lcom/example/trothwy/trothwy/core/store/Change$Kind;") (VA : Arv Z Z.heap wA kA (.object "com/example/trothwy/trothwy/core/store/Change$Kind") (3 : Int32) [.ref wP, .ref wR, .ref wM] .null) (F1 : Fld Z Z.heap wP "com/example/trothwy/trothwy/core/store/Change$Kind" "code" "I" (.int (1 : Int32))) (F2 : Fld Z Z.heap wR "com/example/trothwy/trothwy/core/store/Change$Kind" "code" "I" (.int (2 : Int32))) (F3 : Fld Z Z.heap wM "com/example/trothwy/trothwy/core/store/Change$Kind" "code" "I" (.int (3 : Int32))) :
    MetFree l (⟨"com/example/trothwy/trothwy/core/store/Change$Kind", "of", "(I)Lcom/example/trothwy/trothwy/core/store/Change$Kind;"⟩ : MethodName) (head1 (Jvm.Cond.code (⟨"com/example/trothwy/trothwy/core/store/Change$Kind", "of", "(I)Lcom/example/trothwy/trothwy/core/store/Change$Kind;"⟩ : MethodName) prog_42_method_4_code 5 (some (.object "com/example/trothwy/trothwy/core/store/Change$Kind")) :: ws) ({ frames := 2, cells := 1, slots := 3, locals := 25 } : Room)) (fun a U => a = #[(.int (3 : Int32))] ∧ Z.Warmed39 U.vm ∧ U.heap = h0) (fun _ _ _ _ _ => True) (fun _ U o U' => ∃ v L, o = .returned v ∧ Q_rm1_3 Z wA kA wP wR wM h0 n0 v U'.heap L ∧ FrameEnd U o U' L ({ frames := 2, cells := 1, slots := 3, locals := 25 } : Room).cells ({ frames := 2, cells := 1, slots := 3, locals := 25 } : Room).slots) := by
  refine MetFree.of_bodySF (plainFor_of_name pn_Change_Kind) hisR ?_
  intro p e s m args below meth c s₁ Bd hml0 hP hK
  obtain ⟨rfl, hZ, hh⟩ := hP
  have hx := Bd.exec
  have hby := Bd.bytes
  have hml : c.maxLocals = 5 := hml0
  have hown : s.vm.findClass "com/example/trothwy/trothwy/core/store/Change$Kind" = some m.cls := findClass_of_methodNamed Bd.named
  have hnm := (name_of_methodNamed Bd.named Bd.method).1
  have X0 : Stand p l e ({ frames := 2, cells := 1, slots := 3, locals := 25 } : Room) s m #[(.int (3 : Int32))] below meth c s₁ [] 0 0 := Stand.of_body Bd
  have e0 : s₁.heap = h0 := by rw [← hh, Bd.state]; rfl
  have N0 := Fr.nil n0
  obtain ⟨S0, hS0⟩ : ∃ z, z = s₁.setTop (entryFrame m #[(.int (3 : Int32))] 5) := ⟨_, rfl⟩
  have k0 : Rch p e below S0 s₁ (mkF m 0 #[.val (.int (3 : Int32)), .unset, .unset, .unset, .unset] []) := fun t k => hS0 ▸ castTop (ef_1 m (3 : Int32)) k
  obtain ⟨_, _, ⟨T35, L35, kk35, n35⟩, -, X35, ⟨Lc35, hQ35, l35, y35, z35⟩, st35⟩ := Jvm.LawKit.callS X0 hx (y := (⟨"com/example/trothwy/trothwy/core/store/Change$Kind", "values", "()[Lcom/example/trothwy/trothwy/core/store/Change$Kind;"⟩ : MethodName)) hown (mvT hZ (hw _ (List.mem_of_getElem? (i := 5) rfl))) (mvT hZ (hw _ (List.mem_of_getElem? (i := 6) rfl))) (mvT hZ (hw _ (List.mem_of_getElem? (i := 3) rfl))) (mvT hZ (hw _ (List.mem_of_getElem? (i := 7) rfl))) (by decide) (backOf (W := 0) (rm2 l Z a0 hw []  wA kA wP wR wM h0 n0 O0 SA EA VA) hZ (hw _ (List.mem_of_getElem? (i := 7) rfl)) (hw _ (List.mem_of_getElem? (i := 3) rfl)) (by decide) (by decide)) (g := (mkF m 0 #[.val (.int (3 : Int32)), .unset, .unset, .unset, .unset] [])) rfl (by rw [hml]; rfl) (argsL := []) (rest := []) (lenOf pd_1 rfl) rfl (by show 2 * 0 + _ ≤ _; exact Nat.le_of_eq rfl) (hb hby d1_0) (fun _ _ => ⟨rfl, e0, (by decide : 0 + 1 ≤ _), (by decide : 0 + 3 ≤ _)⟩)
  dsimp only [Pt.U, Pt.locs, Pt.cells, Pt.slots] at X35 l35 y35 z35 st35 hQ35
  subst l35 y35 z35
  obtain ⟨b35, rfl, Nq35, sz35, E35, V35⟩ := hQ35
  have N35 := Fr.app N0 Nq35
  have k36 : Rch p e below S0 T35 (mkF m 3 #[.val (.int (3 : Int32)), .unset, .unset, .unset, .unset] [(.ref b35)]) := fun t h => k0 t (st35 t h)
  have ge_b35 : n0 ≤ b35 := own_ge O0 sz35
  have O37 := O0.ext E35
  have k39 : Rch p e below S0 T35 (mkF m 5 #[.val (.int (3 : Int32)), .val (.ref b35), .unset, .unset, .unset] [(.ref b35)]) := fun t h => k36 t (by
      show Steps p.tables e below (T35.setTop (mkF m 3 #[.val (.int (3 : Int32)), .unset, .unset, .unset, .unset] [(.ref b35)])) _
      refine XS.astoreN X35.here hx rfl (hb hby d1_3) rfl rfl (l' := #[.val (.int (3 : Int32)), .val (.ref b35), .unset, .unset, .unset]) rfl ?_
      show Steps p.tables e below (T35.setTop (mkF m 4 #[.val (.int (3 : Int32)), .val (.ref b35), .unset, .unset, .unset] [])) _
      refine XS.aloadN X35.here hx rfl (hb hby d1_4) rfl rfl ?_
      show Steps p.tables e below (T35.setTop (mkF m 5 #[.val (.int (3 : Int32)), .val (.ref b35), .unset, .unset, .unset] [(.ref b35)])) _
      exact h)
  obtain ⟨cl38, Ar38, q38, Sz38, Ng38, Hs38, G38⟩ := id V35
  have k41 : Rch p e below S0 T35 (mkF m 16 #[.val (.int (3 : Int32)), .val (.ref b35), .val (.int (3 : Int32)), .val (.int (0 : Int32)), .unset] [(.int (0 : Int32)), (.ref b35)]) := fun t h => k39 t (by
      show Steps p.tables e below (T35.setTop (mkF m 5 #[.val (.int (3 : Int32)), .val (.ref b35), .unset, .unset, .unset] [(.ref b35)])) _
      refine X35.arraylength hx (by exact Ar38.1) (State.isArrayOf_alike hZ.alike Ar38.2.1) (g := (mkF m 5 #[.val (.int (3 : Int32)), .val (.ref b35), .unset, .unset, .unset] [(.ref b35)])) rfl rfl (hb hby d1_5) _ ?_
      rw [len_of Sz38 Ng38]
      show Steps p.tables e below (T35.setTop (mkF m 6 #[.val (.int (3 : Int32)), .val (.ref b35), .unset, .unset, .unset] [(.int (3 : Int32))])) _
      refine XS.istoreN X35.here hx rfl (hb hby d1_6) rfl (l' := #[.val (.int (3 : Int32)), .val (.ref b35), .val (.int (3 : Int32)), .unset, .unset]) rfl ?_
      show Steps p.tables e below (T35.setTop (mkF m 7 #[.val (.int (3 : Int32)), .val (.ref b35), .val (.int (3 : Int32)), .unset, .unset] [])) _
      refine XS.iconst X35.here hx rfl (hb hby d1_7) ?_
      show Steps p.tables e below (T35.setTop (mkF m 8 #[.val (.int (3 : Int32)), .val (.ref b35), .val (.int (3 : Int32)), .unset, .unset] [(.int (0 : Int32))])) _
      refine XS.istoreN X35.here hx rfl (hb hby d1_8) rfl (l' := #[.val (.int (3 : Int32)), .val (.ref b35), .val (.int (3 : Int32)), .val (.int (0 : Int32)), .unset]) rfl ?_
      show Steps p.tables e below (T35.setTop (mkF m 9 #[.val (.int (3 : Int32)), .val (.ref b35), .val (.int (3 : Int32)), .val (.int (0 : Int32)), .unset] [])) _
      refine XS.iloadN X35.here hx rfl (hb hby d1_9) rfl ?_
      show Steps p.tables e below (T35.setTop (mkF m 10 #[.val (.int (3 : Int32)), .val (.ref b35), .val (.int (3 : Int32)), .val (.int (0 : Int32)), .unset] [(.int (0 : Int32))])) _
      refine XS.iloadN X35.here hx rfl (hb hby d1_10) rfl ?_
      show Steps p.tables e below (T35.setTop (mkF m 11 #[.val (.int (3 : Int32)), .val (.ref b35), .val (.int (3 : Int32)), .val (.int (0 : Int32)), .unset] [(.int (3 : Int32)), (.int (0 : Int32))])) _
      refine XS.icmpNo X35.here hx rfl (hb hby d1_11) rfl (tlt (by decide : (0 : Int32) < (3 : Int32))).2.1 ?_
      show Steps p.tables e below (T35.setTop (mkF m 14 #[.val (.int (3 : Int32)), .val (.ref b35), .val (.int (3 : Int32)), .val (.int (0 : Int32)), .unset] [])) _
      refine XS.aloadN X35.here hx rfl (hb hby d1_14) rfl rfl ?_
      show Steps p.tables e below (T35.setTop (mkF m 15 #[.val (.int (3 : Int32)), .val (.ref b35), .val (.int (3 : Int32)), .val (.int (0 : Int32)), .unset] [(.ref b35)])) _
      refine XS.iloadN X35.here hx rfl (hb hby d1_15) rfl ?_
      show Steps p.tables e below (T35.setTop (mkF m 16 #[.val (.int (3 : Int32)), .val (.ref b35), .val (.int (3 : Int32)), .val (.int (0 : Int32)), .unset] [(.int (0 : Int32)), (.ref b35)])) _
      exact h)
  obtain ⟨cl40, Ar40, q40, Sz40, Ng40, Hs40, G40⟩ := id V35
  have hin40 : ¬ ((0 : Int32) < 0 ∨ cl40.slots.size ≤ ((0 : Int32)).toNatClampNeg) := inb_of Sz40 ⟨by decide, by decide⟩
  have hat40 : cl40.slots[((0 : Int32)).toNatClampNeg]? = some (.ref wP) := Hs40.at hin40 (rfl)
  have k43 : Rch p e below S0 T35 (mkF m 21 #[.val (.int (3 : Int32)), .val (.ref b35), .val (.int (3 : Int32)), .val (.int (0 : Int32)), .val (.ref wP)] [(.ref wP)]) := fun t h => k41 t (by
      show Steps p.tables e below (T35.setTop (mkF m 16 #[.val (.int (3 : Int32)), .val (.ref b35), .val (.int (3 : Int32)), .val (.int (0 : Int32)), .unset] [(.int (0 : Int32)), (.ref b35)])) _
      refine X35.aaload hx (j := (0 : Int32)) (v := (.ref wP)) (by exact Ar40.1) (State.isArrayOf_alike hZ.alike Ar40.2.1) rfl Ar40.2.2 hin40 hat40 (g := (mkF m 16 #[.val (.int (3 : Int32)), .val (.ref b35), .val (.int (3 : Int32)), .val (.int (0 : Int32)), .unset] [(.int (0 : Int32)), (.ref b35)])) rfl rfl (hb hby d1_16) _ ?_
      show Steps p.tables e below (T35.setTop (mkF m 17 #[.val (.int (3 : Int32)), .val (.ref b35), .val (.int (3 : Int32)), .val (.int (0 : Int32)), .unset] [(.ref wP)])) _
      refine XS.astore X35.here hx rfl (hb hby d1_17) rfl rfl (l' := #[.val (.int (3 : Int32)), .val (.ref b35), .val (.int (3 : Int32)), .val (.int (0 : Int32)), .val (.ref wP)]) rfl ?_
      show Steps p.tables e below (T35.setTop (mkF m 19 #[.val (.int (3 : Int32)), .val (.ref b35), .val (.int (3 : Int32)), .val (.int (0 : Int32)), .val (.ref wP)] [])) _
      refine XS.aload X35.here hx rfl (hb hby d1_19) rfl rfl ?_
      show Steps p.tables e below (T35.setTop (mkF m 21 #[.val (.int (3 : Int32)), .val (.ref b35), .val (.int (3 : Int32)), .val (.int (0 : Int32)), .val (.ref wP)] [(.ref wP)])) _
      exact h)
  obtain ⟨T42, X42, e42, st42⟩ := getF X35 hx hZ hown (host := "") (Or.inl (hw _ (List.mem_of_getElem? (i := 23) rfl))) Via.refl rfl (F1.ext O37.2) (g := (mkF m 21 #[.val (.int (3 : Int32)), .val (.ref b35), .val (.int (3 : Int32)), .val (.int (0 : Int32)), .val (.ref wP)] [(.ref wP)])) rfl rfl (hb hby d1_21)
  have k44 : Rch p e below S0 T42 (mkF m 24 #[.val (.int (3 : Int32)), .val (.ref b35), .val (.int (3 : Int32)), .val (.int (0 : Int32)), .val (.ref wP)] [(.int (1 : Int32))]) := fun t h => k43 t (st42 t h)
  have k46 : Rch p e below S0 T42 (mkF m 16 #[.val (.int (3 : Int32)), .val (.ref b35), .val (.int (3 : Int32)), .val (.int (1 : Int32)), .val (.ref wP)] [(.int (1 : Int32)), (.ref b35)]) := fun t h => k44 t (by
      show Steps p.tables e below (T42.setTop (mkF m 24 #[.val (.int (3 : Int32)), .val (.ref b35), .val (.int (3 : Int32)), .val (.int (0 : Int32)), .val (.ref wP)] [(.int (1 : Int32))])) _
      refine XS.iloadN X42.here hx rfl (hb hby d1_24) rfl ?_
      show Steps p.tables e below (T42.setTop (mkF m 25 #[.val (.int (3 : Int32)), .val (.ref b35), .val (.int (3 : Int32)), .val (.int (0 : Int32)), .val (.ref wP)] [(.int (3 : Int32)), (.int (1 : Int32))])) _
      refine XS.icmpYes X42.here hx rfl (pc0 := 25) (pc' := 31) rfl (hb hby d1_25) rfl (feq (by decide : ¬ ((1 : Int32) = (3 : Int32)))).2 (by decide) (by decide) ?_
      show Steps p.tables e below (T42.setTop (mkF m 31 #[.val (.int (3 : Int32)), .val (.ref b35), .val (.int (3 : Int32)), .val (.int (0 : Int32)), .val (.ref wP)] [])) _
      refine XS.iinc X42.here hx rfl (hb hby d1_31) rfl (l' := #[.val (.int (3 : Int32)), .val (.ref b35), .val (.int (3 : Int32)), .val (.int ((0 : Int32) + (1 : Int32))), .val (.ref wP)]) rfl ?_
      rw [(by decide : ((0 : Int32) + (1 : Int32)) = (1 : Int32))]
      show Steps p.tables e below (T42.setTop (mkF m 34 #[.val (.int (3 : Int32)), .val (.ref b35), .val (.int (3 : Int32)), .val (.int (1 : Int32)), .val (.ref wP)] [])) _
      refine XS.goto X42.here hx rfl (pc0 := 34) (pc' := 9) rfl (hb hby d1_34) (by decide) (by decide) ?_
      show Steps p.tables e below (T42.setTop (mkF m 9 #[.val (.int (3 : Int32)), .val (.ref b35), .val (.int (3 : Int32)), .val (.int (1 : Int32)), .val (.ref wP)] [])) _
      refine XS.iloadN X42.here hx rfl (hb hby d1_9) rfl ?_
      show Steps p.tables e below (T42.setTop (mkF m 10 #[.val (.int (3 : Int32)), .val (.ref b35), .val (.int (3 : Int32)), .val (.int (1 : Int32)), .val (.ref wP)] [(.int (1 : Int32))])) _
      refine XS.iloadN X42.here hx rfl (hb hby d1_10) rfl ?_
      show Steps p.tables e below (T42.setTop (mkF m 11 #[.val (.int (3 : Int32)), .val (.ref b35), .val (.int (3 : Int32)), .val (.int (1 : Int32)), .val (.ref wP)] [(.int (3 : Int32)), (.int (1 : Int32))])) _
      refine XS.icmpNo X42.here hx rfl (hb hby d1_11) rfl (tlt (by decide : (1 : Int32) < (3 : Int32))).2.1 ?_
      show Steps p.tables e below (T42.setTop (mkF m 14 #[.val (.int (3 : Int32)), .val (.ref b35), .val (.int (3 : Int32)), .val (.int (1 : Int32)), .val (.ref wP)] [])) _
      refine XS.aloadN X42.here hx rfl (hb hby d1_14) rfl rfl ?_
      show Steps p.tables e below (T42.setTop (mkF m 15 #[.val (.int (3 : Int32)), .val (.ref b35), .val (.int (3 : Int32)), .val (.int (1 : Int32)), .val (.ref wP)] [(.ref b35)])) _
      refine XS.iloadN X42.here hx rfl (hb hby d1_15) rfl ?_
      show Steps p.tables e below (T42.setTop (mkF m 16 #[.val (.int (3 : Int32)), .val (.ref b35), .val (.int (3 : Int32)), .val (.int (1 : Int32)), .val (.ref wP)] [(.int (1 : Int32)), (.ref b35)])) _
      exact h)
  obtain ⟨cl45, Ar45, q45, Sz45, Ng45, Hs45, G45⟩ := id V35
  have hin45 : ¬ ((1 : Int32) < 0 ∨ cl45.slots.size ≤ ((1 : Int32)).toNatClampNeg) := inb_of Sz45 ⟨by decide, by decide⟩
  have hat45 : cl45.slots[((1 : Int32)).toNatClampNeg]? = some (.ref wR) := Hs45.at hin45 (rfl)
  have k48 : Rch p e below S0 T42 (mkF m 21 #[.val (.int (3 : Int32)), .val (.ref b35), .val (.int (3 : Int32)), .val (.int (1 : Int32)), .val (.ref wR)] [(.ref wR)]) := fun t h => k46 t (by
      show Steps p.tables e below (T42.setTop (mkF m 16 #[.val (.int (3 : Int32)), .val (.ref b35), .val (.int (3 : Int32)), .val (.int (1 : Int32)), .val (.ref wP)] [(.int (1 : Int32)), (.ref b35)])) _
      refine X42.aaload hx (j := (1 : Int32)) (v := (.ref wR)) (by rw [e42]; exact Ar45.1) (State.isArrayOf_alike hZ.alike Ar45.2.1) rfl Ar45.2.2 hin45 hat45 (g := (mkF m 16 #[.val (.int (3 : Int32)), .val (.ref b35), .val (.int (3 : Int32)), .val (.int (1 : Int32)), .val (.ref wP)] [(.int (1 : Int32)), (.ref b35)])) rfl rfl (hb hby d1_16) _ ?_
      show Steps p.tables e below (T42.setTop (mkF m 17 #[.val (.int (3 : Int32)), .val (.ref b35), .val (.int (3 : Int32)), .val (.int (1 : Int32)), .val (.ref wP)] [(.ref wR)])) _
      refine XS.astore X42.here hx rfl (hb hby d1_17) rfl rfl (l' := #[.val (.int (3 : Int32)), .val (.ref b35), .val (.int (3 : Int32)), .val (.int (1 : Int32)), .val (.ref wR)]) rfl ?_
      show Steps p.tables e below (T42.setTop (mkF m 19 #[.val (.int (3 : Int32)), .val (.ref b35), .val (.int (3 : Int32)), .val (.int (1 : Int32)), .val (.ref wR)] [])) _
      refine XS.aload X42.here hx rfl (hb hby d1_19) rfl rfl ?_
      show Steps p.tables e below (T42.setTop (mkF m 21 #[.val (.int (3 : Int32)), .val (.ref b35), .val (.int (3 : Int32)), .val (.int (1 : Int32)), .val (.ref wR)] [(.ref wR)])) _
      exact h)
  obtain ⟨T47, X47, e47, st47⟩ := getF X42 hx hZ hown (host := "") (Or.inl (hw _ (List.mem_of_getElem? (i := 23) rfl))) Via.refl e42 (F2.ext O37.2) (g := (mkF m 21 #[.val (.int (3 : Int32)), .val (.ref b35), .val (.int (3 : Int32)), .val (.int (1 : Int32)), .val (.ref wR)] [(.ref wR)])) rfl rfl (hb hby d1_21)
  have k49 : Rch p e below S0 T47 (mkF m 24 #[.val (.int (3 : Int32)), .val (.ref b35), .val (.int (3 : Int32)), .val (.int (1 : Int32)), .val (.ref wR)] [(.int (2 : Int32))]) := fun t h => k48 t (st47 t h)
  have k51 : Rch p e below S0 T47 (mkF m 16 #[.val (.int (3 : Int32)), .val (.ref b35), .val (.int (3 : Int32)), .val (.int (2 : Int32)), .val (.ref wR)] [(.int (2 : Int32)), (.ref b35)]) := fun t h => k49 t (by
      show Steps p.tables e below (T47.setTop (mkF m 24 #[.val (.int (3 : Int32)), .val (.ref b35), .val (.int (3 : Int32)), .val (.int (1 : Int32)), .val (.ref wR)] [(.int (2 : Int32))])) _
      refine XS.iloadN X47.here hx rfl (hb hby d1_24) rfl ?_
      show Steps p.tables e below (T47.setTop (mkF m 25 #[.val (.int (3 : Int32)), .val (.ref b35), .val (.int (3 : Int32)), .val (.int (1 : Int32)), .val (.ref wR)] [(.int (3 : Int32)), (.int (2 : Int32))])) _
      refine XS.icmpYes X47.here hx rfl (pc0 := 25) (pc' := 31) rfl (hb hby d1_25) rfl (feq (by decide : ¬ ((2 : Int32) = (3 : Int32)))).2 (by decide) (by decide) ?_
      show Steps p.tables e below (T47.setTop (mkF m 31 #[.val (.int (3 : Int32)), .val (.ref b35), .val (.int (3 : Int32)), .val (.int (1 : Int32)), .val (.ref wR)] [])) _
      refine XS.iinc X47.here hx rfl (hb hby d1_31) rfl (l' := #[.val (.int (3 : Int32)), .val (.ref b35), .val (.int (3 : Int32)), .val (.int ((1 : Int32) + (1 : Int32))), .val (.ref wR)]) rfl ?_
      rw [(by decide : ((1 : Int32) + (1 : Int32)) = (2 : Int32))]
      show Steps p.tables e below (T47.setTop (mkF m 34 #[.val (.int (3 : Int32)), .val (.ref b35), .val (.int (3 : Int32)), .val (.int (2 : Int32)), .val (.ref wR)] [])) _
      refine XS.goto X47.here hx rfl (pc0 := 34) (pc' := 9) rfl (hb hby d1_34) (by decide) (by decide) ?_
      show Steps p.tables e below (T47.setTop (mkF m 9 #[.val (.int (3 : Int32)), .val (.ref b35), .val (.int (3 : Int32)), .val (.int (2 : Int32)), .val (.ref wR)] [])) _
      refine XS.iloadN X47.here hx rfl (hb hby d1_9) rfl ?_
      show Steps p.tables e below (T47.setTop (mkF m 10 #[.val (.int (3 : Int32)), .val (.ref b35), .val (.int (3 : Int32)), .val (.int (2 : Int32)), .val (.ref wR)] [(.int (2 : Int32))])) _
      refine XS.iloadN X47.here hx rfl (hb hby d1_10) rfl ?_
      show Steps p.tables e below (T47.setTop (mkF m 11 #[.val (.int (3 : Int32)), .val (.ref b35), .val (.int (3 : Int32)), .val (.int (2 : Int32)), .val (.ref wR)] [(.int (3 : Int32)), (.int (2 : Int32))])) _
      refine XS.icmpNo X47.here hx rfl (hb hby d1_11) rfl (tlt (by decide : (2 : Int32) < (3 : Int32))).2.1 ?_
      show Steps p.tables e below (T47.setTop (mkF m 14 #[.val (.int (3 : Int32)), .val (.ref b35), .val (.int (3 : Int32)), .val (.int (2 : Int32)), .val (.ref wR)] [])) _
      refine XS.aloadN X47.here hx rfl (hb hby d1_14) rfl rfl ?_
      show Steps p.tables e below (T47.setTop (mkF m 15 #[.val (.int (3 : Int32)), .val (.ref b35), .val (.int (3 : Int32)), .val (.int (2 : Int32)), .val (.ref wR)] [(.ref b35)])) _
      refine XS.iloadN X47.here hx rfl (hb hby d1_15) rfl ?_
      show Steps p.tables e below (T47.setTop (mkF m 16 #[.val (.int (3 : Int32)), .val (.ref b35), .val (.int (3 : Int32)), .val (.int (2 : Int32)), .val (.ref wR)] [(.int (2 : Int32)), (.ref b35)])) _
      exact h)
  obtain ⟨cl50, Ar50, q50, Sz50, Ng50, Hs50, G50⟩ := id V35
  have hin50 : ¬ ((2 : Int32) < 0 ∨ cl50.slots.size ≤ ((2 : Int32)).toNatClampNeg) := inb_of Sz50 ⟨by decide, by decide⟩
  have hat50 : cl50.slots[((2 : Int32)).toNatClampNeg]? = some (.ref wM) := Hs50.at hin50 (rfl)
  have k53 : Rch p e below S0 T47 (mkF m 21 #[.val (.int (3 : Int32)), .val (.ref b35), .val (.int (3 : Int32)), .val (.int (2 : Int32)), .val (.ref wM)] [(.ref wM)]) := fun t h => k51 t (by
      show Steps p.tables e below (T47.setTop (mkF m 16 #[.val (.int (3 : Int32)), .val (.ref b35), .val (.int (3 : Int32)), .val (.int (2 : Int32)), .val (.ref wR)] [(.int (2 : Int32)), (.ref b35)])) _
      refine X47.aaload hx (j := (2 : Int32)) (v := (.ref wM)) (by rw [e47]; exact Ar50.1) (State.isArrayOf_alike hZ.alike Ar50.2.1) rfl Ar50.2.2 hin50 hat50 (g := (mkF m 16 #[.val (.int (3 : Int32)), .val (.ref b35), .val (.int (3 : Int32)), .val (.int (2 : Int32)), .val (.ref wR)] [(.int (2 : Int32)), (.ref b35)])) rfl rfl (hb hby d1_16) _ ?_
      show Steps p.tables e below (T47.setTop (mkF m 17 #[.val (.int (3 : Int32)), .val (.ref b35), .val (.int (3 : Int32)), .val (.int (2 : Int32)), .val (.ref wR)] [(.ref wM)])) _
      refine XS.astore X47.here hx rfl (hb hby d1_17) rfl rfl (l' := #[.val (.int (3 : Int32)), .val (.ref b35), .val (.int (3 : Int32)), .val (.int (2 : Int32)), .val (.ref wM)]) rfl ?_
      show Steps p.tables e below (T47.setTop (mkF m 19 #[.val (.int (3 : Int32)), .val (.ref b35), .val (.int (3 : Int32)), .val (.int (2 : Int32)), .val (.ref wM)] [])) _
      refine XS.aload X47.here hx rfl (hb hby d1_19) rfl rfl ?_
      show Steps p.tables e below (T47.setTop (mkF m 21 #[.val (.int (3 : Int32)), .val (.ref b35), .val (.int (3 : Int32)), .val (.int (2 : Int32)), .val (.ref wM)] [(.ref wM)])) _
      exact h)
  obtain ⟨T52, X52, e52, st52⟩ := getF X47 hx hZ hown (host := "") (Or.inl (hw _ (List.mem_of_getElem? (i := 23) rfl))) Via.refl e47 (F3.ext O37.2) (g := (mkF m 21 #[.val (.int (3 : Int32)), .val (.ref b35), .val (.int (3 : Int32)), .val (.int (2 : Int32)), .val (.ref wM)] [(.ref wM)])) rfl rfl (hb hby d1_21)
  have k54 : Rch p e below S0 T52 (mkF m 24 #[.val (.int (3 : Int32)), .val (.ref b35), .val (.int (3 : Int32)), .val (.int (2 : Int32)), .val (.ref wM)] [(.int (3 : Int32))]) := fun t h => k53 t (st52 t h)
  have k55 : Rch p e below S0 T52 (mkF m 30 #[.val (.int (3 : Int32)), .val (.ref b35), .val (.int (3 : Int32)), .val (.int (2 : Int32)), .val (.ref wM)] [(.ref wM)]) := fun t h => k54 t (by
      show Steps p.tables e below (T52.setTop (mkF m 24 #[.val (.int (3 : Int32)), .val (.ref b35), .val (.int (3 : Int32)), .val (.int (2 : Int32)), .val (.ref wM)] [(.int (3 : Int32))])) _
      refine XS.iloadN X52.here hx rfl (hb hby d1_24) rfl ?_
      show Steps p.tables e below (T52.setTop (mkF m 25 #[.val (.int (3 : Int32)), .val (.ref b35), .val (.int (3 : Int32)), .val (.int (2 : Int32)), .val (.ref wM)] [(.int (3 : Int32)), (.int (3 : Int32))])) _
      refine XS.icmpNo X52.here hx rfl (hb hby d1_25) rfl (teq (by decide : (3 : Int32) = (3 : Int32))).2 ?_
      show Steps p.tables e below (T52.setTop (mkF m 28 #[.val (.int (3 : Int32)), .val (.ref b35), .val (.int (3 : Int32)), .val (.int (2 : Int32)), .val (.ref wM)] [])) _
      refine XS.aload X52.here hx rfl (hb hby d1_28) rfl rfl ?_
      show Steps p.tables e below (T52.setTop (mkF m 30 #[.val (.int (3 : Int32)), .val (.ref b35), .val (.int (3 : Int32)), .val (.int (2 : Int32)), .val (.ref wM)] [(.ref wM)])) _
      exact h)
  obtain ⟨fs, hr, hrun, hended, hW, hsame⟩ := X52.leave (v := (some (.ref wM))) (fun h => by rw [Bd.returns] at h; cases h)
  refine ⟨_, _, ?_, hrun, hended, _, _, rfl, ?_, ⟨_, rfl⟩, hW, hsame.mono (by decide) (by decide)⟩
  · rw [← hS0]
    refine k55 _ ?_
    show Steps p.tables e below (T52.setTop (mkF m 30 #[.val (.int (3 : Int32)), .val (.ref b35), .val (.int (3 : Int32)), .val (.int (2 : Int32)), .val (.ref wM)] [(.ref wM)])) _
    jvm_step X52.here [X52.here.top, hx, (hb hby d1_30), X52.method', Bd.returns, Value.isRef, FieldType.isReference]
    first | (intro acts; rw [hr _ acts rfl rfl rfl]) | rw [hr _ _ rfl rfl rfl]
    exact Steps.refl _
  · show Q_rm1_3 Z wA kA wP wR wM h0 n0 _ T52.heap _
    rw [e52]
    exact ⟨rfl, N35, E35⟩
def Q_rm0_1 (Z : State)  (h0 : Heap) (n0 : Nat) (v : Option Value) (h : Heap) (L : List Loc) : Prop := v = some (.int (1 : Int32)) ∧ Fr n0 L
theorem ef_0 (m : MethodId) (x0 : Int32) : entryFrame m #[(.int x0)] maxLocals = mkF m 0 #[.val (.int x0), .unset, .unset, .unset] [] := by first | (simp [entryFrame, mkF, argsToLocals, Value.category, maxLocals]; done) | rfl
theorem pn_KindOfPinLaw : plainName "com/example/trothwy/trothwy/core/store/KindOfPinLaw" = true := by first | (simp [plainName, overriddenIn]; done) | decide +kernel
theorem pd_0 : parseMethodDescriptor "(I)Lcom/example/trothwy/trothwy/core/store/Change$Kind;" = some ⟨[.int], some (.object "com/example/trothwy/trothwy/core/store/Change$Kind")⟩ := by decide +kernel
set_option maxRecDepth 65536 in
set_option maxHeartbeats 40000000 in
theorem rm0_1 (l : Launch) (Z : State) (a0 : Array Value) (hw : ∀ d ∈ tables_1, d.before a0 Z = true) (ws : List Jvm.Cond) (p1 : Int32) (wA : Addr) (kA : ClassId) (wP : Addr) (wR : Addr) (wM : Addr) (h0 : Heap) (n0 : Nat) (O0 : Old Z n0 h0) (SA : Sta Z Z.heap "com/example/trothwy/trothwy/core/store/Change$Kind" "$VALUES" "[Lcom/example/trothwy/trothwy/core/store/Change$Kind;" (.ref wA)) (EA : Exa Z Z.heap wA "[Lcom/example/trothwy/trothwy/core/store/Change$Kind;") (VA : Arv Z Z.heap wA kA (.object "com/example/trothwy/trothwy/core/store/Change$Kind") (3 : Int32) [.ref wP, .ref wR, .ref wM] .null) (F1 : Fld Z Z.heap wP "com/example/trothwy/trothwy/core/store/Change$Kind" "code" "I" (.int (1 : Int32))) (F2 : Fld Z Z.heap wR "com/example/trothwy/trothwy/core/store/Change$Kind" "code" "I" (.int (2 : Int32))) (F3 : Fld Z Z.heap wM "com/example/trothwy/trothwy/core/store/Change$Kind" "code" "I" (.int (3 : Int32))) (S1 : Sta Z Z.heap "com/example/trothwy/trothwy/core/store/Change$Kind" "PUT" "Lcom/example/trothwy/trothwy/core/store/Change$Kind;" (.ref wP)) (S2 : Sta Z Z.heap "com/example/trothwy/trothwy/core/store/Change$Kind" "REMOVE" "Lcom/example/trothwy/trothwy/core/store/Change$Kind;" (.ref wR)) (S3 : Sta Z Z.heap "com/example/trothwy/trothwy/core/store/Change$Kind" "REMOVE_MAP" "Lcom/example/trothwy/trothwy/core/store/Change$Kind;" (.ref wM)) (hk : ((1 : Int32) + ((p1 &&& (2147483647 : Int32)) % (3 : Int32))) = (1 : Int32)) :
    MetFree l x (head1 (Jvm.Cond.code x code maxLocals ret :: ws) room_1) (fun a U => a = #[(.int p1)] ∧ Z.Warmed39 U.vm ∧ U.heap = h0) (fun _ _ _ _ _ => True) (fun _ U o U' => ∃ v L, o = .returned v ∧ Q_rm0_1 Z  h0 n0 v U'.heap L ∧ FrameEnd U o U' L room_1.cells room_1.slots) := by
  refine MetFree.of_bodySF (plainFor_of_name pn_KindOfPinLaw) hisR ?_
  intro p e s m args below meth c s₁ Bd hml0 hP hK
  obtain ⟨rfl, hZ, hh⟩ := hP
  have hx := Bd.exec
  have hby := Bd.bytes
  have hml : c.maxLocals = 4 := hml0
  have hown : s.vm.findClass "com/example/trothwy/trothwy/core/store/KindOfPinLaw" = some m.cls := findClass_of_methodNamed Bd.named
  have hnm := (name_of_methodNamed Bd.named Bd.method).1
  have X0 : Stand p l e room_1 s m #[(.int p1)] below meth c s₁ [] 0 0 := Stand.of_body Bd
  have e0 : s₁.heap = h0 := by rw [← hh, Bd.state]; rfl
  have N0 := Fr.nil n0
  obtain ⟨S0, hS0⟩ : ∃ z, z = s₁.setTop (entryFrame m #[(.int p1)] maxLocals) := ⟨_, rfl⟩
  have k0 : Rch p e below S0 s₁ (mkF m 0 #[.val (.int p1), .unset, .unset, .unset] []) := fun t k => hS0 ▸ castTop (ef_0 m p1) k
  have k56 : Rch p e below S0 s₁ (mkF m 10 #[.val (.int p1), .val (.int (1 : Int32)), .unset, .unset] [(.int (1 : Int32))]) := fun t h => k0 t (by
      show Steps p.tables e below (s₁.setTop (mkF m 0 #[.val (.int p1), .unset, .unset, .unset] [])) _
      refine XS.iconst X0.here hx rfl (hb hby at_0) ?_
      show Steps p.tables e below (s₁.setTop (mkF m 1 #[.val (.int p1), .unset, .unset, .unset] [(.int (1 : Int32))])) _
      refine XS.iloadN X0.here hx rfl (hb hby at_1) rfl ?_
      show Steps p.tables e below (s₁.setTop (mkF m 2 #[.val (.int p1), .unset, .unset, .unset] [(.int p1), (.int (1 : Int32))])) _
      refine X0.ldcInt hx hown (mvT hZ (hw _ (List.mem_of_getElem? (i := 0) rfl))) (g := (mkF m 2 #[.val (.int p1), .unset, .unset, .unset] [(.int p1), (.int (1 : Int32))])) rfl (hb hby at_2) _ ?_
      show Steps p.tables e below (s₁.setTop (mkF m 4 #[.val (.int p1), .unset, .unset, .unset] [(.int (2147483647 : Int32)), (.int p1), (.int (1 : Int32))])) _
      refine XS.iand X0.here hx rfl (hb hby at_4) rfl ?_
      show Steps p.tables e below (s₁.setTop (mkF m 5 #[.val (.int p1), .unset, .unset, .unset] [(.int (p1 &&& (2147483647 : Int32))), (.int (1 : Int32))])) _
      refine XS.iconst X0.here hx rfl (hb hby at_5) ?_
      show Steps p.tables e below (s₁.setTop (mkF m 6 #[.val (.int p1), .unset, .unset, .unset] [(.int (3 : Int32)), (.int (p1 &&& (2147483647 : Int32))), (.int (1 : Int32))])) _
      refine iremM X0 hx rfl (hb hby at_6) rfl (by decide) ?_
      show Steps p.tables e below (s₁.setTop (mkF m 7 #[.val (.int p1), .unset, .unset, .unset] [(.int ((p1 &&& (2147483647 : Int32)) % (3 : Int32))), (.int (1 : Int32))])) _
      refine XS.iadd X0.here hx rfl (hb hby at_7) rfl ?_
      rw [hk]
      show Steps p.tables e below (s₁.setTop (mkF m 8 #[.val (.int p1), .unset, .unset, .unset] [(.int (1 : Int32))])) _
      refine XS.istoreN X0.here hx rfl (hb hby at_8) rfl (l' := #[.val (.int p1), .val (.int (1 : Int32)), .unset, .unset]) rfl ?_
      show Steps p.tables e below (s₁.setTop (mkF m 9 #[.val (.int p1), .val (.int (1 : Int32)), .unset, .unset] [])) _
      refine XS.iloadN X0.here hx rfl (hb hby at_9) rfl ?_
      show Steps p.tables e below (s₁.setTop (mkF m 10 #[.val (.int p1), .val (.int (1 : Int32)), .unset, .unset] [(.int (1 : Int32))])) _
      exact h)
  obtain ⟨_, _, ⟨T57, L57, kk57, n57⟩, -, X57, ⟨Lc57, hQ57, l57, y57, z57⟩, st57⟩ := Jvm.LawKit.callS X0 hx (y := (⟨"com/example/trothwy/trothwy/core/store/Change$Kind", "of", "(I)Lcom/example/trothwy/trothwy/core/store/Change$Kind;"⟩ : MethodName)) hown (mvT hZ (hw _ (List.mem_of_getElem? (i := 1) rfl))) (mvT hZ (hw _ (List.mem_of_getElem? (i := 2) rfl))) (mvT hZ (hw _ (List.mem_of_getElem? (i := 3) rfl))) (mvT hZ (hw _ (List.mem_of_getElem? (i := 4) rfl))) (by decide) (backOf (W := 0) (rm1_1 l Z a0 hw []  wA kA wP wR wM h0 n0 O0 SA EA VA F1 F2 F3) hZ (hw _ (List.mem_of_getElem? (i := 4) rfl)) (hw _ (List.mem_of_getElem? (i := 3) rfl)) (by decide) (by decide)) (g := (mkF m 10 #[.val (.int p1), .val (.int (1 : Int32)), .unset, .unset] [(.int (1 : Int32))])) rfl (by rw [hml]; rfl) (argsL := [(.int (1 : Int32))]) (rest := []) (lenOf pd_0 rfl) rfl (by show 2 * 0 + _ ≤ _; exact Nat.le_of_eq rfl) (hb hby at_10) (fun _ _ => ⟨rfl, e0, (by decide : 0 + 1 ≤ _), (by decide : 0 + 3 ≤ _)⟩)
  dsimp only [Pt.U, Pt.locs, Pt.cells, Pt.slots] at X57 l57 y57 z57 st57 hQ57
  subst l57 y57 z57
  obtain ⟨rfl, Nq57, E57⟩ := hQ57
  have N57 := Fr.app N0 Nq57
  have k58 : Rch p e below S0 T57 (mkF m 13 #[.val (.int p1), .val (.int (1 : Int32)), .unset, .unset] [(.ref wP)]) := fun t h => k56 t (st57 t h)
  have O59 := O0.ext E57
  have k61 : Rch p e below S0 T57 (mkF m 19 #[.val (.int p1), .val (.int (1 : Int32)), .val (.ref wP), .unset] []) := fun t h => k58 t (by
      show Steps p.tables e below (T57.setTop (mkF m 13 #[.val (.int p1), .val (.int (1 : Int32)), .unset, .unset] [(.ref wP)])) _
      refine XS.astoreN X57.here hx rfl (hb hby at_13) rfl rfl (l' := #[.val (.int p1), .val (.int (1 : Int32)), .val (.ref wP), .unset]) rfl ?_
      show Steps p.tables e below (T57.setTop (mkF m 14 #[.val (.int p1), .val (.int (1 : Int32)), .val (.ref wP), .unset] [])) _
      refine XS.iloadN X57.here hx rfl (hb hby at_14) rfl ?_
      show Steps p.tables e below (T57.setTop (mkF m 15 #[.val (.int p1), .val (.int (1 : Int32)), .val (.ref wP), .unset] [(.int (1 : Int32))])) _
      refine XS.iconst X57.here hx rfl (hb hby at_15) ?_
      show Steps p.tables e below (T57.setTop (mkF m 16 #[.val (.int p1), .val (.int (1 : Int32)), .val (.ref wP), .unset] [(.int (1 : Int32)), (.int (1 : Int32))])) _
      refine XS.icmpNo X57.here hx rfl (hb hby at_16) rfl (teq (by decide : (1 : Int32) = (1 : Int32))).2 ?_
      show Steps p.tables e below (T57.setTop (mkF m 19 #[.val (.int p1), .val (.int (1 : Int32)), .val (.ref wP), .unset] [])) _
      exact h)
  obtain ⟨T60, X60, e60, st60⟩ := getS2 X57 hx hZ hown (host := "") (Or.inl (hw _ (List.mem_of_getElem? (i := 25) rfl))) Via.refl rfl (S1.ext O59.2) (g := (mkF m 19 #[.val (.int p1), .val (.int (1 : Int32)), .val (.ref wP), .unset] [])) rfl (hb hby at_19)
  have k62 : Rch p e below S0 T60 (mkF m 22 #[.val (.int p1), .val (.int (1 : Int32)), .val (.ref wP), .unset] [(.ref wP)]) := fun t h => k61 t (st60 t h)
  have k63 : Rch p e below S0 T60 (mkF m 52 #[.val (.int p1), .val (.int (1 : Int32)), .val (.ref wP), .val (.ref wP)] [(.int (1 : Int32))]) := fun t h => k62 t (by
      show Steps p.tables e below (T60.setTop (mkF m 22 #[.val (.int p1), .val (.int (1 : Int32)), .val (.ref wP), .unset] [(.ref wP)])) _
      refine XS.astoreN X60.here hx rfl (hb hby at_22) rfl rfl (l' := #[.val (.int p1), .val (.int (1 : Int32)), .val (.ref wP), .val (.ref wP)]) rfl ?_
      show Steps p.tables e below (T60.setTop (mkF m 23 #[.val (.int p1), .val (.int (1 : Int32)), .val (.ref wP), .val (.ref wP)] [])) _
      refine XS.goto X60.here hx rfl (pc0 := 23) (pc' := 42) rfl (hb hby at_23) (by decide) (by decide) ?_
      show Steps p.tables e below (T60.setTop (mkF m 42 #[.val (.int p1), .val (.int (1 : Int32)), .val (.ref wP), .val (.ref wP)] [])) _
      refine XS.aloadN X60.here hx rfl (hb hby at_42) rfl rfl ?_
      show Steps p.tables e below (T60.setTop (mkF m 43 #[.val (.int p1), .val (.int (1 : Int32)), .val (.ref wP), .val (.ref wP)] [(.ref wP)])) _
      refine XS.aloadN X60.here hx rfl (hb hby at_43) rfl rfl ?_
      show Steps p.tables e below (T60.setTop (mkF m 44 #[.val (.int p1), .val (.int (1 : Int32)), .val (.ref wP), .val (.ref wP)] [(.ref wP), (.ref wP)])) _
      refine Jvm.RoadKit.acmp (g := (mkF m 44 #[.val (.int p1), .val (.int (1 : Int32)), .val (.ref wP), .val (.ref wP)] [(.ref wP), (.ref wP)])) X60 hx rfl rfl rfl (pc0 := 44) (pc' := 47) (same := true) rfl (hb hby at_44) rfl (decide_eq_true rfl) (by decide) (by decide) ?_
      show Steps p.tables e below (T60.setTop (mkF m 47 #[.val (.int p1), .val (.int (1 : Int32)), .val (.ref wP), .val (.ref wP)] [])) _
      refine XS.iconst X60.here hx rfl (hb hby at_47) ?_
      show Steps p.tables e below (T60.setTop (mkF m 48 #[.val (.int p1), .val (.int (1 : Int32)), .val (.ref wP), .val (.ref wP)] [(.int (1 : Int32))])) _
      refine XS.goto X60.here hx rfl (pc0 := 48) (pc' := 52) rfl (hb hby at_48) (by decide) (by decide) ?_
      show Steps p.tables e below (T60.setTop (mkF m 52 #[.val (.int p1), .val (.int (1 : Int32)), .val (.ref wP), .val (.ref wP)] [(.int (1 : Int32))])) _
      exact h)
  obtain ⟨fs, hr, hrun, hended, hW, hsame⟩ := X60.leave (v := (some (.int (1 : Int32)))) (fun h => by rw [Bd.returns] at h; cases h)
  refine ⟨_, _, ?_, hrun, hended, _, _, rfl, ?_, ⟨_, rfl⟩, hW, hsame.mono (by decide) (by decide)⟩
  · rw [← hS0]
    refine k63 _ ?_
    show Steps p.tables e below (T60.setTop (mkF m 52 #[.val (.int p1), .val (.int (1 : Int32)), .val (.ref wP), .val (.ref wP)] [(.int (1 : Int32))])) _
    exact retN X60 hx (t := .boolean) Bd.returns (by simp) (hb hby at_52) hr
  · show Q_rm0_1 Z  h0 n0 _ T60.heap _
    rw [e60]
    exact ⟨rfl, N57⟩
def Q_rm0_2 (Z : State)  (h0 : Heap) (n0 : Nat) (v : Option Value) (h : Heap) (L : List Loc) : Prop := v = some (.int (1 : Int32)) ∧ Fr n0 L
set_option maxRecDepth 65536 in
set_option maxHeartbeats 40000000 in
theorem rm0_2 (l : Launch) (Z : State) (a0 : Array Value) (hw : ∀ d ∈ tables_1, d.before a0 Z = true) (ws : List Jvm.Cond) (p1 : Int32) (wA : Addr) (kA : ClassId) (wP : Addr) (wR : Addr) (wM : Addr) (h0 : Heap) (n0 : Nat) (O0 : Old Z n0 h0) (SA : Sta Z Z.heap "com/example/trothwy/trothwy/core/store/Change$Kind" "$VALUES" "[Lcom/example/trothwy/trothwy/core/store/Change$Kind;" (.ref wA)) (EA : Exa Z Z.heap wA "[Lcom/example/trothwy/trothwy/core/store/Change$Kind;") (VA : Arv Z Z.heap wA kA (.object "com/example/trothwy/trothwy/core/store/Change$Kind") (3 : Int32) [.ref wP, .ref wR, .ref wM] .null) (F1 : Fld Z Z.heap wP "com/example/trothwy/trothwy/core/store/Change$Kind" "code" "I" (.int (1 : Int32))) (F2 : Fld Z Z.heap wR "com/example/trothwy/trothwy/core/store/Change$Kind" "code" "I" (.int (2 : Int32))) (F3 : Fld Z Z.heap wM "com/example/trothwy/trothwy/core/store/Change$Kind" "code" "I" (.int (3 : Int32))) (S1 : Sta Z Z.heap "com/example/trothwy/trothwy/core/store/Change$Kind" "PUT" "Lcom/example/trothwy/trothwy/core/store/Change$Kind;" (.ref wP)) (S2 : Sta Z Z.heap "com/example/trothwy/trothwy/core/store/Change$Kind" "REMOVE" "Lcom/example/trothwy/trothwy/core/store/Change$Kind;" (.ref wR)) (S3 : Sta Z Z.heap "com/example/trothwy/trothwy/core/store/Change$Kind" "REMOVE_MAP" "Lcom/example/trothwy/trothwy/core/store/Change$Kind;" (.ref wM)) (hk : ((1 : Int32) + ((p1 &&& (2147483647 : Int32)) % (3 : Int32))) = (2 : Int32)) :
    MetFree l x (head1 (Jvm.Cond.code x code maxLocals ret :: ws) room_1) (fun a U => a = #[(.int p1)] ∧ Z.Warmed39 U.vm ∧ U.heap = h0) (fun _ _ _ _ _ => True) (fun _ U o U' => ∃ v L, o = .returned v ∧ Q_rm0_2 Z  h0 n0 v U'.heap L ∧ FrameEnd U o U' L room_1.cells room_1.slots) := by
  refine MetFree.of_bodySF (plainFor_of_name pn_KindOfPinLaw) hisR ?_
  intro p e s m args below meth c s₁ Bd hml0 hP hK
  obtain ⟨rfl, hZ, hh⟩ := hP
  have hx := Bd.exec
  have hby := Bd.bytes
  have hml : c.maxLocals = 4 := hml0
  have hown : s.vm.findClass "com/example/trothwy/trothwy/core/store/KindOfPinLaw" = some m.cls := findClass_of_methodNamed Bd.named
  have hnm := (name_of_methodNamed Bd.named Bd.method).1
  have X0 : Stand p l e room_1 s m #[(.int p1)] below meth c s₁ [] 0 0 := Stand.of_body Bd
  have e0 : s₁.heap = h0 := by rw [← hh, Bd.state]; rfl
  have N0 := Fr.nil n0
  obtain ⟨S0, hS0⟩ : ∃ z, z = s₁.setTop (entryFrame m #[(.int p1)] maxLocals) := ⟨_, rfl⟩
  have k0 : Rch p e below S0 s₁ (mkF m 0 #[.val (.int p1), .unset, .unset, .unset] []) := fun t k => hS0 ▸ castTop (ef_0 m p1) k
  have k64 : Rch p e below S0 s₁ (mkF m 10 #[.val (.int p1), .val (.int (2 : Int32)), .unset, .unset] [(.int (2 : Int32))]) := fun t h => k0 t (by
      show Steps p.tables e below (s₁.setTop (mkF m 0 #[.val (.int p1), .unset, .unset, .unset] [])) _
      refine XS.iconst X0.here hx rfl (hb hby at_0) ?_
      show Steps p.tables e below (s₁.setTop (mkF m 1 #[.val (.int p1), .unset, .unset, .unset] [(.int (1 : Int32))])) _
      refine XS.iloadN X0.here hx rfl (hb hby at_1) rfl ?_
      show Steps p.tables e below (s₁.setTop (mkF m 2 #[.val (.int p1), .unset, .unset, .unset] [(.int p1), (.int (1 : Int32))])) _
      refine X0.ldcInt hx hown (mvT hZ (hw _ (List.mem_of_getElem? (i := 0) rfl))) (g := (mkF m 2 #[.val (.int p1), .unset, .unset, .unset] [(.int p1), (.int (1 : Int32))])) rfl (hb hby at_2) _ ?_
      show Steps p.tables e below (s₁.setTop (mkF m 4 #[.val (.int p1), .unset, .unset, .unset] [(.int (2147483647 : Int32)), (.int p1), (.int (1 : Int32))])) _
      refine XS.iand X0.here hx rfl (hb hby at_4) rfl ?_
      show Steps p.tables e below (s₁.setTop (mkF m 5 #[.val (.int p1), .unset, .unset, .unset] [(.int (p1 &&& (2147483647 : Int32))), (.int (1 : Int32))])) _
      refine XS.iconst X0.here hx rfl (hb hby at_5) ?_
      show Steps p.tables e below (s₁.setTop (mkF m 6 #[.val (.int p1), .unset, .unset, .unset] [(.int (3 : Int32)), (.int (p1 &&& (2147483647 : Int32))), (.int (1 : Int32))])) _
      refine iremM X0 hx rfl (hb hby at_6) rfl (by decide) ?_
      show Steps p.tables e below (s₁.setTop (mkF m 7 #[.val (.int p1), .unset, .unset, .unset] [(.int ((p1 &&& (2147483647 : Int32)) % (3 : Int32))), (.int (1 : Int32))])) _
      refine XS.iadd X0.here hx rfl (hb hby at_7) rfl ?_
      rw [hk]
      show Steps p.tables e below (s₁.setTop (mkF m 8 #[.val (.int p1), .unset, .unset, .unset] [(.int (2 : Int32))])) _
      refine XS.istoreN X0.here hx rfl (hb hby at_8) rfl (l' := #[.val (.int p1), .val (.int (2 : Int32)), .unset, .unset]) rfl ?_
      show Steps p.tables e below (s₁.setTop (mkF m 9 #[.val (.int p1), .val (.int (2 : Int32)), .unset, .unset] [])) _
      refine XS.iloadN X0.here hx rfl (hb hby at_9) rfl ?_
      show Steps p.tables e below (s₁.setTop (mkF m 10 #[.val (.int p1), .val (.int (2 : Int32)), .unset, .unset] [(.int (2 : Int32))])) _
      exact h)
  obtain ⟨_, _, ⟨T65, L65, kk65, n65⟩, -, X65, ⟨Lc65, hQ65, l65, y65, z65⟩, st65⟩ := Jvm.LawKit.callS X0 hx (y := (⟨"com/example/trothwy/trothwy/core/store/Change$Kind", "of", "(I)Lcom/example/trothwy/trothwy/core/store/Change$Kind;"⟩ : MethodName)) hown (mvT hZ (hw _ (List.mem_of_getElem? (i := 1) rfl))) (mvT hZ (hw _ (List.mem_of_getElem? (i := 2) rfl))) (mvT hZ (hw _ (List.mem_of_getElem? (i := 3) rfl))) (mvT hZ (hw _ (List.mem_of_getElem? (i := 4) rfl))) (by decide) (backOf (W := 0) (rm1_2 l Z a0 hw []  wA kA wP wR wM h0 n0 O0 SA EA VA F1 F2 F3) hZ (hw _ (List.mem_of_getElem? (i := 4) rfl)) (hw _ (List.mem_of_getElem? (i := 3) rfl)) (by decide) (by decide)) (g := (mkF m 10 #[.val (.int p1), .val (.int (2 : Int32)), .unset, .unset] [(.int (2 : Int32))])) rfl (by rw [hml]; rfl) (argsL := [(.int (2 : Int32))]) (rest := []) (lenOf pd_0 rfl) rfl (by show 2 * 0 + _ ≤ _; exact Nat.le_of_eq rfl) (hb hby at_10) (fun _ _ => ⟨rfl, e0, (by decide : 0 + 1 ≤ _), (by decide : 0 + 3 ≤ _)⟩)
  dsimp only [Pt.U, Pt.locs, Pt.cells, Pt.slots] at X65 l65 y65 z65 st65 hQ65
  subst l65 y65 z65
  obtain ⟨rfl, Nq65, E65⟩ := hQ65
  have N65 := Fr.app N0 Nq65
  have k66 : Rch p e below S0 T65 (mkF m 13 #[.val (.int p1), .val (.int (2 : Int32)), .unset, .unset] [(.ref wR)]) := fun t h => k64 t (st65 t h)
  have O67 := O0.ext E65
  have k69 : Rch p e below S0 T65 (mkF m 31 #[.val (.int p1), .val (.int (2 : Int32)), .val (.ref wR), .unset] []) := fun t h => k66 t (by
      show Steps p.tables e below (T65.setTop (mkF m 13 #[.val (.int p1), .val (.int (2 : Int32)), .unset, .unset] [(.ref wR)])) _
      refine XS.astoreN X65.here hx rfl (hb hby at_13) rfl rfl (l' := #[.val (.int p1), .val (.int (2 : Int32)), .val (.ref wR), .unset]) rfl ?_
      show Steps p.tables e below (T65.setTop (mkF m 14 #[.val (.int p1), .val (.int (2 : Int32)), .val (.ref wR), .unset] [])) _
      refine XS.iloadN X65.here hx rfl (hb hby at_14) rfl ?_
      show Steps p.tables e below (T65.setTop (mkF m 15 #[.val (.int p1), .val (.int (2 : Int32)), .val (.ref wR), .unset] [(.int (2 : Int32))])) _
      refine XS.iconst X65.here hx rfl (hb hby at_15) ?_
      show Steps p.tables e below (T65.setTop (mkF m 16 #[.val (.int p1), .val (.int (2 : Int32)), .val (.ref wR), .unset] [(.int (1 : Int32)), (.int (2 : Int32))])) _
      refine XS.icmpYes X65.here hx rfl (pc0 := 16) (pc' := 26) rfl (hb hby at_16) rfl (feq (by decide : ¬ ((2 : Int32) = (1 : Int32)))).2 (by decide) (by decide) ?_
      show Steps p.tables e below (T65.setTop (mkF m 26 #[.val (.int p1), .val (.int (2 : Int32)), .val (.ref wR), .unset] [])) _
      refine XS.iloadN X65.here hx rfl (hb hby at_26) rfl ?_
      show Steps p.tables e below (T65.setTop (mkF m 27 #[.val (.int p1), .val (.int (2 : Int32)), .val (.ref wR), .unset] [(.int (2 : Int32))])) _
      refine XS.iconst X65.here hx rfl (hb hby at_27) ?_
      show Steps p.tables e below (T65.setTop (mkF m 28 #[.val (.int p1), .val (.int (2 : Int32)), .val (.ref wR), .unset] [(.int (2 : Int32)), (.int (2 : Int32))])) _
      refine XS.icmpNo X65.here hx rfl (hb hby at_28) rfl (teq (by decide : (2 : Int32) = (2 : Int32))).2 ?_
      show Steps p.tables e below (T65.setTop (mkF m 31 #[.val (.int p1), .val (.int (2 : Int32)), .val (.ref wR), .unset] [])) _
      exact h)
  obtain ⟨T68, X68, e68, st68⟩ := getS2 X65 hx hZ hown (host := "") (Or.inl (hw _ (List.mem_of_getElem? (i := 27) rfl))) Via.refl rfl (S2.ext O67.2) (g := (mkF m 31 #[.val (.int p1), .val (.int (2 : Int32)), .val (.ref wR), .unset] [])) rfl (hb hby at_31)
  have k70 : Rch p e below S0 T68 (mkF m 34 #[.val (.int p1), .val (.int (2 : Int32)), .val (.ref wR), .unset] [(.ref wR)]) := fun t h => k69 t (st68 t h)
  have k71 : Rch p e below S0 T68 (mkF m 52 #[.val (.int p1), .val (.int (2 : Int32)), .val (.ref wR), .val (.ref wR)] [(.int (1 : Int32))]) := fun t h => k70 t (by
      show Steps p.tables e below (T68.setTop (mkF m 34 #[.val (.int p1), .val (.int (2 : Int32)), .val (.ref wR), .unset] [(.ref wR)])) _
      refine XS.astoreN X68.here hx rfl (hb hby at_34) rfl rfl (l' := #[.val (.int p1), .val (.int (2 : Int32)), .val (.ref wR), .val (.ref wR)]) rfl ?_
      show Steps p.tables e below (T68.setTop (mkF m 35 #[.val (.int p1), .val (.int (2 : Int32)), .val (.ref wR), .val (.ref wR)] [])) _
      refine XS.goto X68.here hx rfl (pc0 := 35) (pc' := 42) rfl (hb hby at_35) (by decide) (by decide) ?_
      show Steps p.tables e below (T68.setTop (mkF m 42 #[.val (.int p1), .val (.int (2 : Int32)), .val (.ref wR), .val (.ref wR)] [])) _
      refine XS.aloadN X68.here hx rfl (hb hby at_42) rfl rfl ?_
      show Steps p.tables e below (T68.setTop (mkF m 43 #[.val (.int p1), .val (.int (2 : Int32)), .val (.ref wR), .val (.ref wR)] [(.ref wR)])) _
      refine XS.aloadN X68.here hx rfl (hb hby at_43) rfl rfl ?_
      show Steps p.tables e below (T68.setTop (mkF m 44 #[.val (.int p1), .val (.int (2 : Int32)), .val (.ref wR), .val (.ref wR)] [(.ref wR), (.ref wR)])) _
      refine Jvm.RoadKit.acmp (g := (mkF m 44 #[.val (.int p1), .val (.int (2 : Int32)), .val (.ref wR), .val (.ref wR)] [(.ref wR), (.ref wR)])) X68 hx rfl rfl rfl (pc0 := 44) (pc' := 47) (same := true) rfl (hb hby at_44) rfl (decide_eq_true rfl) (by decide) (by decide) ?_
      show Steps p.tables e below (T68.setTop (mkF m 47 #[.val (.int p1), .val (.int (2 : Int32)), .val (.ref wR), .val (.ref wR)] [])) _
      refine XS.iconst X68.here hx rfl (hb hby at_47) ?_
      show Steps p.tables e below (T68.setTop (mkF m 48 #[.val (.int p1), .val (.int (2 : Int32)), .val (.ref wR), .val (.ref wR)] [(.int (1 : Int32))])) _
      refine XS.goto X68.here hx rfl (pc0 := 48) (pc' := 52) rfl (hb hby at_48) (by decide) (by decide) ?_
      show Steps p.tables e below (T68.setTop (mkF m 52 #[.val (.int p1), .val (.int (2 : Int32)), .val (.ref wR), .val (.ref wR)] [(.int (1 : Int32))])) _
      exact h)
  obtain ⟨fs, hr, hrun, hended, hW, hsame⟩ := X68.leave (v := (some (.int (1 : Int32)))) (fun h => by rw [Bd.returns] at h; cases h)
  refine ⟨_, _, ?_, hrun, hended, _, _, rfl, ?_, ⟨_, rfl⟩, hW, hsame.mono (by decide) (by decide)⟩
  · rw [← hS0]
    refine k71 _ ?_
    show Steps p.tables e below (T68.setTop (mkF m 52 #[.val (.int p1), .val (.int (2 : Int32)), .val (.ref wR), .val (.ref wR)] [(.int (1 : Int32))])) _
    exact retN X68 hx (t := .boolean) Bd.returns (by simp) (hb hby at_52) hr
  · show Q_rm0_2 Z  h0 n0 _ T68.heap _
    rw [e68]
    exact ⟨rfl, N65⟩
def Q_rm0_3 (Z : State)  (h0 : Heap) (n0 : Nat) (v : Option Value) (h : Heap) (L : List Loc) : Prop := v = some (.int (1 : Int32)) ∧ Fr n0 L
set_option maxRecDepth 65536 in
set_option maxHeartbeats 40000000 in
theorem rm0_3 (l : Launch) (Z : State) (a0 : Array Value) (hw : ∀ d ∈ tables_1, d.before a0 Z = true) (ws : List Jvm.Cond) (p1 : Int32) (wA : Addr) (kA : ClassId) (wP : Addr) (wR : Addr) (wM : Addr) (h0 : Heap) (n0 : Nat) (O0 : Old Z n0 h0) (SA : Sta Z Z.heap "com/example/trothwy/trothwy/core/store/Change$Kind" "$VALUES" "[Lcom/example/trothwy/trothwy/core/store/Change$Kind;" (.ref wA)) (EA : Exa Z Z.heap wA "[Lcom/example/trothwy/trothwy/core/store/Change$Kind;") (VA : Arv Z Z.heap wA kA (.object "com/example/trothwy/trothwy/core/store/Change$Kind") (3 : Int32) [.ref wP, .ref wR, .ref wM] .null) (F1 : Fld Z Z.heap wP "com/example/trothwy/trothwy/core/store/Change$Kind" "code" "I" (.int (1 : Int32))) (F2 : Fld Z Z.heap wR "com/example/trothwy/trothwy/core/store/Change$Kind" "code" "I" (.int (2 : Int32))) (F3 : Fld Z Z.heap wM "com/example/trothwy/trothwy/core/store/Change$Kind" "code" "I" (.int (3 : Int32))) (S1 : Sta Z Z.heap "com/example/trothwy/trothwy/core/store/Change$Kind" "PUT" "Lcom/example/trothwy/trothwy/core/store/Change$Kind;" (.ref wP)) (S2 : Sta Z Z.heap "com/example/trothwy/trothwy/core/store/Change$Kind" "REMOVE" "Lcom/example/trothwy/trothwy/core/store/Change$Kind;" (.ref wR)) (S3 : Sta Z Z.heap "com/example/trothwy/trothwy/core/store/Change$Kind" "REMOVE_MAP" "Lcom/example/trothwy/trothwy/core/store/Change$Kind;" (.ref wM)) (hk : ((1 : Int32) + ((p1 &&& (2147483647 : Int32)) % (3 : Int32))) = (3 : Int32)) :
    MetFree l x (head1 (Jvm.Cond.code x code maxLocals ret :: ws) room_1) (fun a U => a = #[(.int p1)] ∧ Z.Warmed39 U.vm ∧ U.heap = h0) (fun _ _ _ _ _ => True) (fun _ U o U' => ∃ v L, o = .returned v ∧ Q_rm0_3 Z  h0 n0 v U'.heap L ∧ FrameEnd U o U' L room_1.cells room_1.slots) := by
  refine MetFree.of_bodySF (plainFor_of_name pn_KindOfPinLaw) hisR ?_
  intro p e s m args below meth c s₁ Bd hml0 hP hK
  obtain ⟨rfl, hZ, hh⟩ := hP
  have hx := Bd.exec
  have hby := Bd.bytes
  have hml : c.maxLocals = 4 := hml0
  have hown : s.vm.findClass "com/example/trothwy/trothwy/core/store/KindOfPinLaw" = some m.cls := findClass_of_methodNamed Bd.named
  have hnm := (name_of_methodNamed Bd.named Bd.method).1
  have X0 : Stand p l e room_1 s m #[(.int p1)] below meth c s₁ [] 0 0 := Stand.of_body Bd
  have e0 : s₁.heap = h0 := by rw [← hh, Bd.state]; rfl
  have N0 := Fr.nil n0
  obtain ⟨S0, hS0⟩ : ∃ z, z = s₁.setTop (entryFrame m #[(.int p1)] maxLocals) := ⟨_, rfl⟩
  have k0 : Rch p e below S0 s₁ (mkF m 0 #[.val (.int p1), .unset, .unset, .unset] []) := fun t k => hS0 ▸ castTop (ef_0 m p1) k
  have k72 : Rch p e below S0 s₁ (mkF m 10 #[.val (.int p1), .val (.int (3 : Int32)), .unset, .unset] [(.int (3 : Int32))]) := fun t h => k0 t (by
      show Steps p.tables e below (s₁.setTop (mkF m 0 #[.val (.int p1), .unset, .unset, .unset] [])) _
      refine XS.iconst X0.here hx rfl (hb hby at_0) ?_
      show Steps p.tables e below (s₁.setTop (mkF m 1 #[.val (.int p1), .unset, .unset, .unset] [(.int (1 : Int32))])) _
      refine XS.iloadN X0.here hx rfl (hb hby at_1) rfl ?_
      show Steps p.tables e below (s₁.setTop (mkF m 2 #[.val (.int p1), .unset, .unset, .unset] [(.int p1), (.int (1 : Int32))])) _
      refine X0.ldcInt hx hown (mvT hZ (hw _ (List.mem_of_getElem? (i := 0) rfl))) (g := (mkF m 2 #[.val (.int p1), .unset, .unset, .unset] [(.int p1), (.int (1 : Int32))])) rfl (hb hby at_2) _ ?_
      show Steps p.tables e below (s₁.setTop (mkF m 4 #[.val (.int p1), .unset, .unset, .unset] [(.int (2147483647 : Int32)), (.int p1), (.int (1 : Int32))])) _
      refine XS.iand X0.here hx rfl (hb hby at_4) rfl ?_
      show Steps p.tables e below (s₁.setTop (mkF m 5 #[.val (.int p1), .unset, .unset, .unset] [(.int (p1 &&& (2147483647 : Int32))), (.int (1 : Int32))])) _
      refine XS.iconst X0.here hx rfl (hb hby at_5) ?_
      show Steps p.tables e below (s₁.setTop (mkF m 6 #[.val (.int p1), .unset, .unset, .unset] [(.int (3 : Int32)), (.int (p1 &&& (2147483647 : Int32))), (.int (1 : Int32))])) _
      refine iremM X0 hx rfl (hb hby at_6) rfl (by decide) ?_
      show Steps p.tables e below (s₁.setTop (mkF m 7 #[.val (.int p1), .unset, .unset, .unset] [(.int ((p1 &&& (2147483647 : Int32)) % (3 : Int32))), (.int (1 : Int32))])) _
      refine XS.iadd X0.here hx rfl (hb hby at_7) rfl ?_
      rw [hk]
      show Steps p.tables e below (s₁.setTop (mkF m 8 #[.val (.int p1), .unset, .unset, .unset] [(.int (3 : Int32))])) _
      refine XS.istoreN X0.here hx rfl (hb hby at_8) rfl (l' := #[.val (.int p1), .val (.int (3 : Int32)), .unset, .unset]) rfl ?_
      show Steps p.tables e below (s₁.setTop (mkF m 9 #[.val (.int p1), .val (.int (3 : Int32)), .unset, .unset] [])) _
      refine XS.iloadN X0.here hx rfl (hb hby at_9) rfl ?_
      show Steps p.tables e below (s₁.setTop (mkF m 10 #[.val (.int p1), .val (.int (3 : Int32)), .unset, .unset] [(.int (3 : Int32))])) _
      exact h)
  obtain ⟨_, _, ⟨T73, L73, kk73, n73⟩, -, X73, ⟨Lc73, hQ73, l73, y73, z73⟩, st73⟩ := Jvm.LawKit.callS X0 hx (y := (⟨"com/example/trothwy/trothwy/core/store/Change$Kind", "of", "(I)Lcom/example/trothwy/trothwy/core/store/Change$Kind;"⟩ : MethodName)) hown (mvT hZ (hw _ (List.mem_of_getElem? (i := 1) rfl))) (mvT hZ (hw _ (List.mem_of_getElem? (i := 2) rfl))) (mvT hZ (hw _ (List.mem_of_getElem? (i := 3) rfl))) (mvT hZ (hw _ (List.mem_of_getElem? (i := 4) rfl))) (by decide) (backOf (W := 0) (rm1_3 l Z a0 hw []  wA kA wP wR wM h0 n0 O0 SA EA VA F1 F2 F3) hZ (hw _ (List.mem_of_getElem? (i := 4) rfl)) (hw _ (List.mem_of_getElem? (i := 3) rfl)) (by decide) (by decide)) (g := (mkF m 10 #[.val (.int p1), .val (.int (3 : Int32)), .unset, .unset] [(.int (3 : Int32))])) rfl (by rw [hml]; rfl) (argsL := [(.int (3 : Int32))]) (rest := []) (lenOf pd_0 rfl) rfl (by show 2 * 0 + _ ≤ _; exact Nat.le_of_eq rfl) (hb hby at_10) (fun _ _ => ⟨rfl, e0, (by decide : 0 + 1 ≤ _), (by decide : 0 + 3 ≤ _)⟩)
  dsimp only [Pt.U, Pt.locs, Pt.cells, Pt.slots] at X73 l73 y73 z73 st73 hQ73
  subst l73 y73 z73
  obtain ⟨rfl, Nq73, E73⟩ := hQ73
  have N73 := Fr.app N0 Nq73
  have k74 : Rch p e below S0 T73 (mkF m 13 #[.val (.int p1), .val (.int (3 : Int32)), .unset, .unset] [(.ref wM)]) := fun t h => k72 t (st73 t h)
  have O75 := O0.ext E73
  have k77 : Rch p e below S0 T73 (mkF m 38 #[.val (.int p1), .val (.int (3 : Int32)), .val (.ref wM), .unset] []) := fun t h => k74 t (by
      show Steps p.tables e below (T73.setTop (mkF m 13 #[.val (.int p1), .val (.int (3 : Int32)), .unset, .unset] [(.ref wM)])) _
      refine XS.astoreN X73.here hx rfl (hb hby at_13) rfl rfl (l' := #[.val (.int p1), .val (.int (3 : Int32)), .val (.ref wM), .unset]) rfl ?_
      show Steps p.tables e below (T73.setTop (mkF m 14 #[.val (.int p1), .val (.int (3 : Int32)), .val (.ref wM), .unset] [])) _
      refine XS.iloadN X73.here hx rfl (hb hby at_14) rfl ?_
      show Steps p.tables e below (T73.setTop (mkF m 15 #[.val (.int p1), .val (.int (3 : Int32)), .val (.ref wM), .unset] [(.int (3 : Int32))])) _
      refine XS.iconst X73.here hx rfl (hb hby at_15) ?_
      show Steps p.tables e below (T73.setTop (mkF m 16 #[.val (.int p1), .val (.int (3 : Int32)), .val (.ref wM), .unset] [(.int (1 : Int32)), (.int (3 : Int32))])) _
      refine XS.icmpYes X73.here hx rfl (pc0 := 16) (pc' := 26) rfl (hb hby at_16) rfl (feq (by decide : ¬ ((3 : Int32) = (1 : Int32)))).2 (by decide) (by decide) ?_
      show Steps p.tables e below (T73.setTop (mkF m 26 #[.val (.int p1), .val (.int (3 : Int32)), .val (.ref wM), .unset] [])) _
      refine XS.iloadN X73.here hx rfl (hb hby at_26) rfl ?_
      show Steps p.tables e below (T73.setTop (mkF m 27 #[.val (.int p1), .val (.int (3 : Int32)), .val (.ref wM), .unset] [(.int (3 : Int32))])) _
      refine XS.iconst X73.here hx rfl (hb hby at_27) ?_
      show Steps p.tables e below (T73.setTop (mkF m 28 #[.val (.int p1), .val (.int (3 : Int32)), .val (.ref wM), .unset] [(.int (2 : Int32)), (.int (3 : Int32))])) _
      refine XS.icmpYes X73.here hx rfl (pc0 := 28) (pc' := 38) rfl (hb hby at_28) rfl (feq (by decide : ¬ ((3 : Int32) = (2 : Int32)))).2 (by decide) (by decide) ?_
      show Steps p.tables e below (T73.setTop (mkF m 38 #[.val (.int p1), .val (.int (3 : Int32)), .val (.ref wM), .unset] [])) _
      exact h)
  obtain ⟨T76, X76, e76, st76⟩ := getS2 X73 hx hZ hown (host := "") (Or.inl (hw _ (List.mem_of_getElem? (i := 26) rfl))) Via.refl rfl (S3.ext O75.2) (g := (mkF m 38 #[.val (.int p1), .val (.int (3 : Int32)), .val (.ref wM), .unset] [])) rfl (hb hby at_38)
  have k78 : Rch p e below S0 T76 (mkF m 41 #[.val (.int p1), .val (.int (3 : Int32)), .val (.ref wM), .unset] [(.ref wM)]) := fun t h => k77 t (st76 t h)
  have k79 : Rch p e below S0 T76 (mkF m 52 #[.val (.int p1), .val (.int (3 : Int32)), .val (.ref wM), .val (.ref wM)] [(.int (1 : Int32))]) := fun t h => k78 t (by
      show Steps p.tables e below (T76.setTop (mkF m 41 #[.val (.int p1), .val (.int (3 : Int32)), .val (.ref wM), .unset] [(.ref wM)])) _
      refine XS.astoreN X76.here hx rfl (hb hby at_41) rfl rfl (l' := #[.val (.int p1), .val (.int (3 : Int32)), .val (.ref wM), .val (.ref wM)]) rfl ?_
      show Steps p.tables e below (T76.setTop (mkF m 42 #[.val (.int p1), .val (.int (3 : Int32)), .val (.ref wM), .val (.ref wM)] [])) _
      refine XS.aloadN X76.here hx rfl (hb hby at_42) rfl rfl ?_
      show Steps p.tables e below (T76.setTop (mkF m 43 #[.val (.int p1), .val (.int (3 : Int32)), .val (.ref wM), .val (.ref wM)] [(.ref wM)])) _
      refine XS.aloadN X76.here hx rfl (hb hby at_43) rfl rfl ?_
      show Steps p.tables e below (T76.setTop (mkF m 44 #[.val (.int p1), .val (.int (3 : Int32)), .val (.ref wM), .val (.ref wM)] [(.ref wM), (.ref wM)])) _
      refine Jvm.RoadKit.acmp (g := (mkF m 44 #[.val (.int p1), .val (.int (3 : Int32)), .val (.ref wM), .val (.ref wM)] [(.ref wM), (.ref wM)])) X76 hx rfl rfl rfl (pc0 := 44) (pc' := 47) (same := true) rfl (hb hby at_44) rfl (decide_eq_true rfl) (by decide) (by decide) ?_
      show Steps p.tables e below (T76.setTop (mkF m 47 #[.val (.int p1), .val (.int (3 : Int32)), .val (.ref wM), .val (.ref wM)] [])) _
      refine XS.iconst X76.here hx rfl (hb hby at_47) ?_
      show Steps p.tables e below (T76.setTop (mkF m 48 #[.val (.int p1), .val (.int (3 : Int32)), .val (.ref wM), .val (.ref wM)] [(.int (1 : Int32))])) _
      refine XS.goto X76.here hx rfl (pc0 := 48) (pc' := 52) rfl (hb hby at_48) (by decide) (by decide) ?_
      show Steps p.tables e below (T76.setTop (mkF m 52 #[.val (.int p1), .val (.int (3 : Int32)), .val (.ref wM), .val (.ref wM)] [(.int (1 : Int32))])) _
      exact h)
  obtain ⟨fs, hr, hrun, hended, hW, hsame⟩ := X76.leave (v := (some (.int (1 : Int32)))) (fun h => by rw [Bd.returns] at h; cases h)
  refine ⟨_, _, ?_, hrun, hended, _, _, rfl, ?_, ⟨_, rfl⟩, hW, hsame.mono (by decide) (by decide)⟩
  · rw [← hS0]
    refine k79 _ ?_
    show Steps p.tables e below (T76.setTop (mkF m 52 #[.val (.int p1), .val (.int (3 : Int32)), .val (.ref wM), .val (.ref wM)] [(.int (1 : Int32))])) _
    exact retN X76 hx (t := .boolean) Bd.returns (by simp) (hb hby at_52) hr
  · show Q_rm0_3 Z  h0 n0 _ T76.heap _
    rw [e76]
    exact ⟨rfl, N73⟩
theorem own_sel (p1 : Int32) : ((1 : Int32) + ((p1 &&& (2147483647 : Int32)) % (3 : Int32))) = 1 ∨ ((1 : Int32) + ((p1 &&& (2147483647 : Int32)) % (3 : Int32))) = 2 ∨ ((1 : Int32) + ((p1 &&& (2147483647 : Int32)) % (3 : Int32))) = 3 := by
  have h1 := c_mask p1 2147483647 31 (by decide) (by decide)
  have h2 := (c_irem (p1 &&& 2147483647) 3 3 (by decide)).1 (by omega)
  have h3 := c_iadd 1 ((p1 &&& 2147483647) % 3)
  have h4 : (1 : Int32).toInt = 1 := by decide
  have r := rng32 ((1 : Int32) + (p1 &&& 2147483647) % 3)
  have e : ∀ k : Int32, k.toInt = ((1 : Int32) + (p1 &&& 2147483647) % 3).toInt → (1 : Int32) + (p1 &&& 2147483647) % 3 = k := fun k q => (Int32.toInt_inj.mp q).symm
  have q : ((1 : Int32) + (p1 &&& 2147483647) % 3).toInt = 1 ∨ ((1 : Int32) + (p1 &&& 2147483647) % 3).toInt = 2 ∨ ((1 : Int32) + (p1 &&& 2147483647) % 3).toInt = 3 := by omega
  rcases q with q | q | q
  · exact Or.inl (e 1 q.symm)
  · exact Or.inr (Or.inl (e 2 q.symm))
  · exact Or.inr (Or.inr (e 3 q.symm))
theorem own_all (l : Launch) (Z : State) (a0 : Array Value) (hw : ∀ d ∈ tables_1, d.before a0 Z = true) (ws : List Jvm.Cond) (p1 : Int32) (wA : Addr) (kA : ClassId) (wP : Addr) (wR : Addr) (wM : Addr) (h0 : Heap) (n0 : Nat) (O0 : Old Z n0 h0) (SA : Sta Z Z.heap "com/example/trothwy/trothwy/core/store/Change$Kind" "$VALUES" "[Lcom/example/trothwy/trothwy/core/store/Change$Kind;" (.ref wA)) (EA : Exa Z Z.heap wA "[Lcom/example/trothwy/trothwy/core/store/Change$Kind;") (VA : Arv Z Z.heap wA kA (.object "com/example/trothwy/trothwy/core/store/Change$Kind") (3 : Int32) [.ref wP, .ref wR, .ref wM] .null) (F1 : Fld Z Z.heap wP "com/example/trothwy/trothwy/core/store/Change$Kind" "code" "I" (.int (1 : Int32))) (F2 : Fld Z Z.heap wR "com/example/trothwy/trothwy/core/store/Change$Kind" "code" "I" (.int (2 : Int32))) (F3 : Fld Z Z.heap wM "com/example/trothwy/trothwy/core/store/Change$Kind" "code" "I" (.int (3 : Int32))) (S1 : Sta Z Z.heap "com/example/trothwy/trothwy/core/store/Change$Kind" "PUT" "Lcom/example/trothwy/trothwy/core/store/Change$Kind;" (.ref wP)) (S2 : Sta Z Z.heap "com/example/trothwy/trothwy/core/store/Change$Kind" "REMOVE" "Lcom/example/trothwy/trothwy/core/store/Change$Kind;" (.ref wR)) (S3 : Sta Z Z.heap "com/example/trothwy/trothwy/core/store/Change$Kind" "REMOVE_MAP" "Lcom/example/trothwy/trothwy/core/store/Change$Kind;" (.ref wM)) :
    MetFree l x (head1 (Jvm.Cond.code x code maxLocals ret :: ws) room_1) (fun a U => a = #[(.int p1)] ∧ Z.Warmed39 U.vm ∧ U.heap = h0) (fun _ _ _ _ _ => True) (fun _ U o U' => ∃ v L, o = .returned v ∧ Q_rm0_1 Z h0 n0 v U'.heap L ∧ FrameEnd U o U' L room_1.cells room_1.slots) := by
  rcases own_sel p1 with c | c | c
  · exact rm0_1 l Z a0 hw ws p1 wA kA wP wR wM h0 n0 O0 SA EA VA F1 F2 F3 S1 S2 S3 c
  · exact rm0_2 l Z a0 hw ws p1 wA kA wP wR wM h0 n0 O0 SA EA VA F1 F2 F3 S1 S2 S3 c
  · exact rm0_3 l Z a0 hw ws p1 wA kA wP wR wM h0 n0 O0 SA EA VA F1 F2 F3 S1 S2 S3 c
set_option maxRecDepth 65536 in
set_option maxHeartbeats 40000000 in
theorem comes_1 {Post : Tables → Env → Array Value → State → Outcome → State → Prop} (hpost : ∀ tb e args s v u, (limb_1_1.after args s (.returned v) u = true ∧ limb_1_2.after args s (.returned v) u = true ∧ True) → FrameEnd s (.returned v) u (Jvm.fieldLocs frame_1_writes args s ++ Jvm.arrayLocs frame_1_arrays args s ++ Jvm.staticLocs frame_1_statics s) 16 128 → Post tb e args s (.returned v) u) :
    ArmFor flags0 classFile x code maxLocals ret World_1 tables_1 room_1 Calls_1 rest_1 Pre_1 Post := by
  intro l hfl _ _ p e ha hc hk s m args below hf hA hF happ hP
  obtain ⟨hcalls, hrest, hpre⟩ := hP
  obtain ⟨-, -, -, hnamed, -, -, -, hat⟩ := (Spec.applies_iff hf).mp happ
  obtain ⟨hg, hn⟩ := and_e (Cond.before_iff.mp (show (Jvm.Cond.and given_1 narrow_1).before args s = true from hpre))
  obtain ⟨g_0, g_1⟩ := and_e hg
  obtain ⟨w0, rfl⟩ : ∃ w0 : Value, args = #[w0] := by
    have hs : args.size = 1 := by simpa [Cond.value, given_1] using g_0
    obtain ⟨L⟩ := args
    match L, hs with
    | [w0], _ => exact ⟨w0, rfl⟩
  have hw := fun d (hd : d ∈ tables_1) => atoms_spec (ws := Jvm.Cond.code x code maxLocals ret :: tables_1) hat d (List.mem_cons_of_mem _ hd)
  have hfit : Fit s := fun {y c} hc i hi => by
    obtain ⟨ha, rfl⟩ := Array.getElem?_eq_some_iff.mp hc
    have q := List.all_eq_true.mp ((Array.all_eq_true_iff_forall_mem.mp hF) _ (Array.getElem_mem ha)) i (List.mem_range.mpr hi)
    simpa [Array.getElem?_eq_getElem hi] using q
  obtain ⟨i0, ei0⟩ := is_v g_1
  obtain rfl : w0 = (.int i0) := Option.some.inj ei0
  obtain ⟨xA, hn⟩ := and_e hn
  obtain ⟨eA, hn⟩ := and_e hn
  obtain ⟨lA, hn⟩ := and_e hn
  obtain ⟨eP, hn⟩ := and_e hn
  obtain ⟨m0, hn⟩ := and_e hn
  obtain ⟨eR, hn⟩ := and_e hn
  obtain ⟨m1, hn⟩ := and_e hn
  obtain ⟨eM, hn⟩ := and_e hn
  obtain ⟨m2, hn⟩ := and_e hn
  obtain ⟨cP, hn⟩ := and_e hn
  obtain ⟨cR, cM⟩ := and_e hn
  obtain ⟨wA, vA⟩ := arr_v xA
  obtain ⟨clA, AA⟩ := Arr.start vA xA
  have EA := Exa.start vA eA
  obtain ⟨hs, hl⟩ := own_len vA AA lA
  obtain ⟨wP, vP⟩ := exa_v eP
  have SP := Sta.start vP (Or.inr ⟨(hw _ (List.mem_of_getElem? (i := 3) rfl)), (hw _ (List.mem_of_getElem? (i := 17) rfl))⟩)
  have FP := Fld.start ((fld_at vP).symm.trans (own_eqi cP))
  obtain ⟨wR, vR⟩ := exa_v eR
  have SR := Sta.start vR (Or.inr ⟨(hw _ (List.mem_of_getElem? (i := 3) rfl)), (hw _ (List.mem_of_getElem? (i := 18) rfl))⟩)
  have FR := Fld.start ((fld_at vR).symm.trans (own_eqi cR))
  obtain ⟨wM, vM⟩ := exa_v eM
  have SM := Sta.start vM (Or.inr ⟨(hw _ (List.mem_of_getElem? (i := 3) rfl)), (hw _ (List.mem_of_getElem? (i := 19) rfl))⟩)
  have FM := Fld.start ((fld_at vM).symm.trans (own_eqi cM))
  have SA := Sta.start vA (Or.inr ⟨(hw _ (List.mem_of_getElem? (i := 3) rfl)), (hw _ (List.mem_of_getElem? (i := 9) rfl))⟩)
  have VA : Arv s s.heap wA clA.cls (.object "com/example/trothwy/trothwy/core/store/Change$Kind") (3 : Int32) [.ref wP, .ref wR, .ref wM] .null := Arv.start hfit AA hs hl (by decide) rfl ⟨own_elem vA AA vP m0, own_elem vA AA vR m1, own_elem vA AA vM m2, trivial⟩
  obtain ⟨n, o, h1, h2, h3, _, L, rfl, ⟨rfl, N⟩, hq⟩ := own_all l s _ hw tables_1 i0 wA clA.cls wP wR wM s.heap s.heap.size (Old.start s) SA EA VA FP FR FM SP SR SM p e ha hc hk s m _ below hf ((Spec.applies_iff_loose hf).mp happ).1 ⟨rfl, State.Warmed39.refl s, rfl⟩ trivial
  refine ⟨n, _, h1, h2, h3, hpost _ _ _ _ _ _ ⟨Cond.after_iff.mpr rfl, Cond.after_iff.mpr (eq_i res_at (Term.int_eval (1)) rfl), trivial⟩ ⟨hq.1, hq.2.1, (hq.2.2.sift fun y hy => Or.inr (N y hy)).mono (by decide) (by decide)⟩⟩
theorem main_1_1 : Claimed_1_1 := comes_1 fun _ _ _ _ _ _ h hF => ⟨h.1, hF⟩
theorem main_1_2 : Claimed_1_2 := comes_1 fun _ _ _ _ _ _ h hF => ⟨h.2.1, hF⟩
end Jvm.Pilot.@@N@@
namespace Jvm.Pilot.@@N@@
open Jvm Jvm.ClassFile Sem Op Lib Jvm.Free Jvm.Stand Jvm.Pilot.@@N@@.Jvm.D
/-! MADE BY PROGRAM (witnessworld.py) out of the Statement's table words and the real class files: 13 classes; the members and pool entries that the words name. The judged class is class 1, her method 1. -/
namespace start1
open Jvm.ClassFile
def u (s : String) : CpInfo := .utf8 (stringToUtf16 s)
/-- a pool by its gaps: so many unusable entries, then the entry; so many at the end -/
def gap : Nat → List CpInfo → List CpInfo
  | 0, r => r
  | n + 1, r => .unusable :: gap n r
def poolList (es : List (Nat × CpInfo)) (last : Nat) : List CpInfo := es.foldr (fun e r => gap e.1 (e.2 :: r)) (gap last [])
def pool (es : List (Nat × CpInfo)) (last : Nat) : Array CpInfo := ⟨poolList es last⟩
def fileOf (pool : Array CpInfo) (this : Nat) (attrs : Array Attribute := #[]) (ms : Array MethodInfo := #[]) (fl : Nat := 33) (sup : Nat := 0) (ifs : Array Nat := #[]) (fds : Array FieldInfo := #[]) : ClassFile where
  minorVersion := 0
  majorVersion := 65
  constantPool := pool
  accessFlags := fl
  thisClass := this
  superClass := sup
  interfaces := ifs
  fields := fds
  methods := ms
  attributes := attrs
def plain (name : String) (sup : Option ClassId) : Class where
  name := name
  kind := .ordinary
  loader := none
  accessFlags := 33
  super := sup
  interfaces := #[]
  cf := none
  fields := #[]
  methods := #[]
  instanceTypes := #[]
  staticTypes := #[]
  resolved := #[]
  callSites := []
  init := .initialized
  statics := none
  mirror := none

def pool0 : Array CpInfo := pool [(5, u "<init>"), (0, u "()V"), (1, .class_ 10), (1, u "java/lang/Object"), (85, u "clone"), (0, u "()Ljava/lang/Object;")] 26

def k0m0 : Method := { name := "<init>", desc := "()V", sig := { parameters := [], returnType := none }, accessFlags := 1, code := none }
def k0m1 : Method := { name := "clone", desc := "()Ljava/lang/Object;", sig := { parameters := [], returnType := some (.object "java/lang/Object") }, accessFlags := 260, code := none }
/-- java/lang/Object -/
def k0 : Class := { plain "java/lang/Object" none with
  accessFlags := 33
  interfaces := #[]
  cf := some (fileOf pool0 8 #[] #[{ accessFlags := 1, nameIndex := 5, descriptorIndex := 6, attributes := #[] }, { accessFlags := 260, nameIndex := 96, descriptorIndex := 97, attributes := #[] }] 33 0 #[] #[])
  fields := #[]
  methods := #[k0m0, k0m1]
  instanceTypes := #[]
  staticTypes := #[]
  resolved := Array.replicate 124 none
  statics := none }

def pool1 : Array CpInfo := pool [(2, .class_ 4), (1, u "java/lang/Object"), (0, u "<init>"), (0, u "()V"), (0, .integer 2147483647), (0, .methodref 9 10), (0, .class_ 11), (0, .nameAndType 12 13), (0, u "com/example/trothwy/trothwy/core/store/Change$Kind"), (0, u "of"), (0, u "(I)Lcom/example/trothwy/trothwy/core/store/Change$Kind;"), (0, .fieldref 9 15), (0, .nameAndType 16 17), (0, u "PUT"), (0, u "Lcom/example/trothwy/trothwy/core/store/Change$Kind;"), (0, .fieldref 9 19), (0, .nameAndType 20 17), (0, u "REMOVE"), (0, .fieldref 9 22), (0, .nameAndType 23 17), (0, u "REMOVE_MAP"), (0, .class_ 25), (0, u "com/example/trothwy/trothwy/core/store/KindOfPinLaw"), (2, u "law"), (0, u "(I)Z")] 10

def k1m0 : Method := { name := "<init>", desc := "()V", sig := { parameters := [], returnType := none }, accessFlags := 1, code := none }
def k1c1 : Code := { maxStack := 3, maxLocals := 4, code := code, exceptionTable := #[], attributes := #[] }
def k1m1 : Method := { name := "law", desc := "(I)Z", sig := { parameters := [.int], returnType := some .boolean }, accessFlags := 9, code := some k1c1 }
/-- com/example/trothwy/trothwy/core/store/KindOfPinLaw -/
def k1 : Class := { plain "com/example/trothwy/trothwy/core/store/KindOfPinLaw" (some 0) with
  accessFlags := 49
  interfaces := #[]
  cf := some (fileOf pool1 24 #[] #[{ accessFlags := 1, nameIndex := 5, descriptorIndex := 6, attributes := #[] }, { accessFlags := 9, nameIndex := 28, descriptorIndex := 29, attributes := #[] }] 49 2 #[] #[])
  fields := #[]
  methods := #[k1m0, k1m1]
  instanceTypes := #[]
  staticTypes := #[]
  resolved := Array.replicate 40 none
  statics := none }

def pool2 : Array CpInfo := pool [(1, .class_ 2), (0, u "java/lang/constant/Constable"), (0, .class_ 4), (0, u "java/lang/Object")] 6

/-- java/lang/constant/Constable -/
def k2 : Class := { plain "java/lang/constant/Constable" (some 0) with
  accessFlags := 1537
  interfaces := #[]
  cf := some (fileOf pool2 1 #[] #[] 1537 3 #[] #[])
  fields := #[]
  methods := #[]
  instanceTypes := #[]
  staticTypes := #[]
  resolved := Array.replicate 11 none
  statics := none }

def pool3 : Array CpInfo := pool [(1, .class_ 2), (0, u "java/lang/Comparable"), (0, .class_ 4), (0, u "java/lang/Object")] 7

/-- java/lang/Comparable -/
def k3 : Class := { plain "java/lang/Comparable" (some 0) with
  accessFlags := 1537
  interfaces := #[]
  cf := some (fileOf pool3 1 #[] #[] 1537 3 #[] #[])
  fields := #[]
  methods := #[]
  instanceTypes := #[]
  staticTypes := #[]
  resolved := Array.replicate 12 none
  statics := none }

def pool4 : Array CpInfo := pool [(1, .class_ 2), (0, u "java/io/Serializable"), (0, .class_ 4), (0, u "java/lang/Object")] 2

/-- java/io/Serializable -/
def k4 : Class := { plain "java/io/Serializable" (some 0) with
  accessFlags := 1537
  interfaces := #[]
  cf := some (fileOf pool4 1 #[] #[] 1537 3 #[] #[])
  fields := #[]
  methods := #[]
  instanceTypes := #[]
  staticTypes := #[]
  resolved := Array.replicate 7 none
  statics := none }

def pool5 : Array CpInfo := pool [(2, .class_ 4), (1, u "java/lang/Enum"), (0, u "name"), (0, u "Ljava/lang/String;"), (2, u "ordinal"), (0, u "I"), (1, .class_ 14), (1, u "java/lang/Object"), (4, u "hash"), (86, .class_ 108), (1, u "java/lang/Enum$EnumDesc"), (2, .class_ 112), (0, u "java/lang/constant/Constable"), (0, .class_ 114), (0, u "java/lang/Comparable"), (0, .class_ 116), (0, u "java/io/Serializable")] 87

/-- java/lang/Enum -/
def k5 : Class := { plain "java/lang/Enum" (some 0) with
  accessFlags := 1057
  interfaces := #[2, 3, 4]
  cf := some (fileOf pool5 2 #[.nestMembers #[106]] #[] 1057 12 #[111, 113, 115] #[{ accessFlags := 18, nameIndex := 5, descriptorIndex := 6, attributes := #[] }, { accessFlags := 18, nameIndex := 9, descriptorIndex := 10, attributes := #[] }, { accessFlags := 2, nameIndex := 19, descriptorIndex := 10, attributes := #[] }])
  fields := #[{ name := "name", type := (.object "java/lang/String"), accessFlags := 18, slot := 0, constantValue := 0 }, { name := "ordinal", type := .int, accessFlags := 18, slot := 1, constantValue := 0 }, { name := "hash", type := .int, accessFlags := 2, slot := 2, constantValue := 0 }]
  methods := #[]
  instanceTypes := #[(.object "java/lang/String"), .int, .int]
  staticTypes := #[]
  resolved := Array.replicate 204 none
  statics := none }

def pool6 : Array CpInfo := pool [(1, .class_ 2), (0, u "com/example/trothwy/trothwy/core/store/Change$Kind"), (2, u "PUT"), (0, u "Lcom/example/trothwy/trothwy/core/store/Change$Kind;"), (2, u "REMOVE"), (2, u "REMOVE_MAP"), (0, .fieldref 1 14), (0, .nameAndType 15 16), (0, u "$VALUES"), (0, u "[Lcom/example/trothwy/trothwy/core/store/Change$Kind;"), (0, .methodref 18 19), (0, .class_ 16), (0, .nameAndType 20 21), (0, u "clone"), (0, u "()Ljava/lang/Object;"), (1, .class_ 25), (1, u "java/lang/Enum"), (6, .fieldref 1 33), (0, .nameAndType 34 35), (0, u "code"), (0, u "I"), (0, .methodref 1 37), (0, .nameAndType 38 39), (0, u "values"), (0, u "()[Lcom/example/trothwy/trothwy/core/store/Change$Kind;"), (24, u "of"), (0, u "(I)Lcom/example/trothwy/trothwy/core/store/Change$Kind;"), (8, .class_ 75), (0, u "com/example/trothwy/trothwy/core/store/Change")] 16

def k6c0 : Code := { maxStack := 1, maxLocals := 0, code := prog_42_method_1_code, exceptionTable := #[], attributes := #[] }
def k6m0 : Method := { name := "values", desc := "()[Lcom/example/trothwy/trothwy/core/store/Change$Kind;", sig := { parameters := [], returnType := some (.array (.object "com/example/trothwy/trothwy/core/store/Change$Kind")) }, accessFlags := 9, code := some k6c0 }
def k6c1 : Code := { maxStack := 3, maxLocals := 5, code := prog_42_method_4_code, exceptionTable := #[], attributes := #[] }
def k6m1 : Method := { name := "of", desc := "(I)Lcom/example/trothwy/trothwy/core/store/Change$Kind;", sig := { parameters := [.int], returnType := some (.object "com/example/trothwy/trothwy/core/store/Change$Kind") }, accessFlags := 8, code := some k6c1 }
/-- com/example/trothwy/trothwy/core/store/Change$Kind -/
def k6 : Class := { plain "com/example/trothwy/trothwy/core/store/Change$Kind" (some 5) with
  accessFlags := 16432
  interfaces := #[]
  cf := some (fileOf pool6 1 #[.nestHost 74] #[{ accessFlags := 9, nameIndex := 38, descriptorIndex := 39, attributes := #[] }, { accessFlags := 8, nameIndex := 64, descriptorIndex := 65, attributes := #[] }] 16432 23 #[] #[{ accessFlags := 16409, nameIndex := 5, descriptorIndex := 6, attributes := #[] }, { accessFlags := 16409, nameIndex := 9, descriptorIndex := 6, attributes := #[] }, { accessFlags := 16409, nameIndex := 12, descriptorIndex := 6, attributes := #[] }, { accessFlags := 18, nameIndex := 34, descriptorIndex := 35, attributes := #[] }, { accessFlags := 4122, nameIndex := 15, descriptorIndex := 16, attributes := #[] }])
  fields := #[{ name := "PUT", type := (.object "com/example/trothwy/trothwy/core/store/Change$Kind"), accessFlags := 16409, slot := 0, constantValue := 0 }, { name := "REMOVE", type := (.object "com/example/trothwy/trothwy/core/store/Change$Kind"), accessFlags := 16409, slot := 1, constantValue := 0 }, { name := "REMOVE_MAP", type := (.object "com/example/trothwy/trothwy/core/store/Change$Kind"), accessFlags := 16409, slot := 2, constantValue := 0 }, { name := "code", type := .int, accessFlags := 18, slot := 3, constantValue := 0 }, { name := "$VALUES", type := (.array (.object "com/example/trothwy/trothwy/core/store/Change$Kind")), accessFlags := 4122, slot := 3, constantValue := 0 }]
  methods := #[k6m0, k6m1]
  instanceTypes := #[(.object "java/lang/String"), .int, .int, .int]
  staticTypes := #[(.object "com/example/trothwy/trothwy/core/store/Change$Kind"), (.object "com/example/trothwy/trothwy/core/store/Change$Kind"), (.object "com/example/trothwy/trothwy/core/store/Change$Kind"), (.array (.object "com/example/trothwy/trothwy/core/store/Change$Kind"))]
  resolved := Array.replicate 92 none
  statics := some 0 }

def pool7 : Array CpInfo := pool [(1, .class_ 2), (0, u "java/lang/Cloneable"), (0, .class_ 4), (0, u "java/lang/Object")] 2

/-- java/lang/Cloneable -/
def k7 : Class := { plain "java/lang/Cloneable" (some 0) with
  accessFlags := 1537
  interfaces := #[]
  cf := some (fileOf pool7 1 #[] #[] 1537 3 #[] #[])
  fields := #[]
  methods := #[]
  instanceTypes := #[]
  staticTypes := #[]
  resolved := Array.replicate 7 none
  statics := none }

/-- the primitive byte -/
def k8 : Class := { plain "byte" none with kind := .primitive 'B', accessFlags := 0x411 }
/-- [B -/
def k9 : Class := { plain "[B" (some 0) with kind := .array 8 .byte, interfaces := #[7, 4], accessFlags := 1041 }

/-- the primitive int -/
def k10 : Class := { plain "int" none with kind := .primitive 'I', accessFlags := 0x411 }
/-- [I -/
def k11 : Class := { plain "[I" (some 0) with kind := .array 10 .int, interfaces := #[7, 4], accessFlags := 1041 }

/-- [Lcom/example/trothwy/trothwy/core/store/Change$Kind; -/
def k12 : Class := { plain "[Lcom/example/trothwy/trothwy/core/store/Change$Kind;" (some 0) with kind := .array 6 (.object "com/example/trothwy/trothwy/core/store/Change$Kind"), interfaces := #[7, 4], accessFlags := 1041 }

def heap : Heap := #[{ cls := 6, slots := #[.ref 2, .ref 3, .ref 4, .ref 1], vm := .statics 6 },
  { cls := 12, slots := #[.ref 2, .ref 3, .ref 4], vm := .none },
  { cls := 6, slots := #[.null, .int 0, .int 0, .int 1], vm := .none },
  { cls := 6, slots := #[.null, .int 1, .int 0, .int 2], vm := .none },
  { cls := 6, slots := #[.null, .int 2, .int 0, .int 3], vm := .none }]
def classes : Array Class := #[k0, k1, k2, k3, k4, k5, k6, k7, k8, k9, k10, k11, k12]
def interned : List (Array UInt16 × Addr) := []
def slotsUsed : Nat := 19
def theMethod : MethodId := ⟨1, 1⟩
def args0 : Array Value := #[.int 5]
def aboutOver (below : List Frame) : State where
  vm := { classes := classes, interned := interned.toArray }
  heap := heap
  slotsUsed := slotsUsed
  threads := #[{ frames := .invoking theMethod args0 :: below }]
def below0 : List Frame := [.native { method := ⟨0, 0⟩, args := #[] }]
def about1 : State := aboutOver below0
def p0 : Program := .bare "" "" ""
def e0 : Env := launch0.env 0 0 0
theorem w_frames : about1.frames = Frame.invoking theMethod args0 :: below0 := rfl
set_option maxRecDepth 65536 in
theorem w_args : argsFit about1.vm theMethod args0 = true := by decide +kernel
set_option maxRecDepth 65536 in
theorem w_heap : heapFits about1 = true := by decide +kernel
set_option maxRecDepth 65536 in
theorem w_runnable : about1.curStatus? = some .runnable := by decide +kernel
set_option maxRecDepth 65536 in
theorem w_alone : about1.alone = true := by decide +kernel
set_option maxRecDepth 65536 in
theorem w_named : about1.methodNamed? x = some theMethod := by decide +kernel
set_option maxRecDepth 65536 in
theorem w_hears : about1.hears theMethod below0 = true := by decide +kernel
set_option maxRecDepth 65536 in
theorem w_ripe : about1.ripe theMethod args0 below0 = true := by decide +kernel
theorem w_running : about1.status = .running := rfl
set_option maxRecDepth 65536 in
theorem w_room : about1.hasRoom e0.platform room_1 = true :=
  launch0.hasRoom_least _ room_1 (by decide +kernel) (by decide +kernel) (by decide +kernel) (by decide +kernel) (by decide +kernel) (by decide +kernel)
theorem allAtoms_all (ts : List Jvm.Cond) (a : Array Jvm.Value) (st : Jvm.State) : (allAtoms ts).before a st = ts.all (fun c => c.before a st) := by
  induction ts with
  | nil => rfl
  | cons c t ih =>
    show (Jvm.Cond.and c (allAtoms t)).before a st = _
    rw [Jvm.Cond.before_and, ih, List.all_cons]
def words1 : List Jvm.Cond := Jvm.Cond.code x code maxLocals ret :: tables_1
/-- a 'code' word, met by the world's own term for the bytes: nothing is compared byte by byte -/
theorem code_word {y : MethodName} {bytes : ByteArray} {mx : Nat} {rt : Option FieldType} {a : Array Value} {s : State} {m : MethodId} {meth : Method} {c : Code} (h1 : s.methodNamed? y = some m) (h2 : s.vm.method? m = some meth) (h3 : meth.code = some c) (h4 : c.code = bytes)
    (h5 : (c.maxLocals == mx && c.exceptionTable.isEmpty && decide (c.maxStack ≤ mostOperands) && decide (meth.sig.returnType = rt) && !meth.locks && decide (parseMethodDescriptor y.desc = some meth.sig)) = true) : (Jvm.Cond.code y bytes mx rt).before a s = true := by
  simp only [Bool.and_eq_true, beq_iff_eq, Bool.not_eq_true', decide_eq_true_eq] at h5
  obtain ⟨⟨⟨⟨⟨g1, g2⟩, g3⟩, g4⟩, g5⟩, g6⟩ := h5
  simp [Cond.before, Cond.holds, Cond.value, h1, h2, h3, h4, g1, g2, g3, g4, g5, g6]
def isCode : Jvm.Cond → Bool
  | .code _ _ _ _ => true
  | _ => false
theorem all_split {L : List Jvm.Cond} {P : Jvm.Cond → Bool} (h1 : L.all (fun c => isCode c || P c) = true) (h2 : ∀ c ∈ L.filter isCode, P c = true) : L.all P = true := by
  refine List.all_eq_true.mpr fun c hc => ?_
  have h := List.all_eq_true.mp h1 c hc
  rcases Bool.eq_false_or_eq_true (isCode c) with hi | hi
  · exact h2 c (List.mem_filter.mpr ⟨hc, hi⟩)
  · simpa [hi] using h
set_option maxRecDepth 65536 in
theorem w_c0 : (Jvm.Cond.code x code maxLocals ret).before args0 about1 = true := code_word (m := ⟨1, 1⟩) (meth := k1m1) (c := k1c1) (by decide +kernel) rfl rfl rfl (by decide +kernel)
set_option maxRecDepth 65536 in
theorem w_c1 : (Jvm.Cond.code ({ cls := "com/example/trothwy/trothwy/core/store/Change$Kind", name := "of", desc := "(I)Lcom/example/trothwy/trothwy/core/store/Change$Kind;" } : Jvm.MethodName) prog_42_method_4_code (5 : Nat) (Option.some (Jvm.ClassFile.FieldType.object "com/example/trothwy/trothwy/core/store/Change$Kind"))).before args0 about1 = true := code_word (m := ⟨6, 1⟩) (meth := k6m1) (c := k6c1) (by decide +kernel) rfl rfl rfl (by decide +kernel)
set_option maxRecDepth 65536 in
theorem w_c2 : (Jvm.Cond.code ({ cls := "com/example/trothwy/trothwy/core/store/Change$Kind", name := "values", desc := "()[Lcom/example/trothwy/trothwy/core/store/Change$Kind;" } : Jvm.MethodName) prog_42_method_1_code (0 : Nat) (Option.some (Jvm.ClassFile.FieldType.array (Jvm.ClassFile.FieldType.object "com/example/trothwy/trothwy/core/store/Change$Kind")))).before args0 about1 = true := code_word (m := ⟨6, 0⟩) (meth := k6m0) (c := k6c0) (by decide +kernel) rfl rfl rfl (by decide +kernel)
def codes1 : List Jvm.Cond := [Jvm.Cond.code x code maxLocals ret, Jvm.Cond.code ({ cls := "com/example/trothwy/trothwy/core/store/Change$Kind", name := "of", desc := "(I)Lcom/example/trothwy/trothwy/core/store/Change$Kind;" } : Jvm.MethodName) prog_42_method_4_code (5 : Nat) (Option.some (Jvm.ClassFile.FieldType.object "com/example/trothwy/trothwy/core/store/Change$Kind")), Jvm.Cond.code ({ cls := "com/example/trothwy/trothwy/core/store/Change$Kind", name := "values", desc := "()[Lcom/example/trothwy/trothwy/core/store/Change$Kind;" } : Jvm.MethodName) prog_42_method_1_code (0 : Nat) (Option.some (Jvm.ClassFile.FieldType.array (Jvm.ClassFile.FieldType.object "com/example/trothwy/trothwy/core/store/Change$Kind")))]
set_option maxRecDepth 65536 in
theorem codes_eq : words1.filter isCode = codes1 := rfl
theorem w_codes : ∀ c ∈ words1.filter isCode, c.before args0 about1 = true := by
  rw [codes_eq]
  intro c hc
  simp only [codes1, List.mem_cons, List.not_mem_nil, or_false] at hc
  rcases hc with rfl | rfl | rfl
  · exact w_c0
  · exact w_c1
  · exact w_c2
set_option maxRecDepth 65536 in
theorem w_t1 : (words1.take 24).all (fun c => isCode c || c.before args0 about1) = true := by decide +kernel
set_option maxRecDepth 65536 in
theorem w_t2 : (words1.drop 24).all (fun c => isCode c || c.before args0 about1) = true := by decide +kernel
theorem w_tables : (allAtoms (Jvm.Cond.code x code maxLocals ret :: tables_1)).before args0 about1 = true := by
  rw [allAtoms_all]
  show words1.all (fun c => c.before args0 about1) = true
  refine all_split ?_ w_codes
  rw [← List.take_append_drop 24 words1, List.all_append, w_t1, w_t2]
  rfl
set_option maxRecDepth 65536 in
theorem w_case : (Jvm.Cond.and given_1 narrow_1).before args0 about1 = true := by decide +kernel
theorem w_applies : (headSpec (Jvm.Cond.code x code maxLocals ret :: tables_1) room_1).applies x e0.platform about1 = true :=
  (Spec.applies_iff w_frames).mpr ⟨w_running, w_runnable, w_alone, w_named, w_hears, w_ripe, w_room, w_tables⟩
theorem atStart : AtStart classFile x code maxLocals ret World_1 tables_1 room_1 Calls_1 rest_1 Pre_1 launch0 p0 e0 about1 theMethod args0 below0 :=
  ⟨lists_1, trivial, launch0.admits_env _ _ _, launch0.least_env, fairChoices_fair.cas, fairChoices_fair.clock, w_frames, w_args, w_heap, w_applies, trivial, trivial, w_case⟩
end start1
theorem witness_1 : WitnessClaimed_1 := ⟨start1.p0, start1.e0, start1.about1, start1.theMethod, start1.args0, start1.below0, start1.atStart⟩
end Jvm.Pilot.@@N@@
