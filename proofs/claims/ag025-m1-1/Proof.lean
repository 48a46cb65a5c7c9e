import JvmDerived
import JvmDerived.Pilot.@@N@@Statement
import JvmDerived.Pilot.@@N@@Code
set_option linter.unusedVariables false
set_option linter.unusedSimpArgs false
namespace Jvm.RoadKit
open Sem ClassFile Op Lib Jvm.Stand Jvm.Free Jvm.LawKit
section New
variable {p : Program} {l : Launch} {e : Env} {R : Room} {s : State} {m : MethodId} {args : Array Value} {below : List Frame} {meth : Method} {c : Code} {T : State} {locs : List Loc} {cells slots : Nat}
theorem retI (X : Stand p l e R s m args below meth c T locs cells slots) (hx : p.tables.exec = Jvm.exec) {pc : Nat} {Ls : Array Slot} {z : Int32} {rest : List Value} (hret : meth.sig.returnType = some .int) (hd : decode c.code pc = .ok (.ireturn, 1)) {fs : List Frame}
    (hl : ∀ (f : JFrame) (acts : List Action), f.method = m → f.locked = none → f.entered = [] → (doReturn e (T.setTop f) acts (some (.int z))).1 = T.setFrames fs) : Steps p.tables e below (T.setTop (mkF m pc Ls (.int z :: rest))) (T.setFrames fs) := by
  have hm' : T.vm.method? m = some meth := X.method'
  have hn : narrow .int (.int z) = .int z := rfl
  show Steps p.tables e below (T.setTop { method := m, pc := pc, locals := Ls, stack := _ :: rest, locked := none }) _
  jvm_step X.here [X.here.top, hx, hd, hm', hret, hn]
  first | (intro acts; rw [hl _ acts rfl rfl rfl]) | rw [hl _ _ rfl rfl rfl]
  exact Steps.refl _
end New
end Jvm.RoadKit
namespace Jvm.Pilot.@@N@@
open Jvm Jvm.ClassFile Sem Op Lib Jvm.Free Jvm.Stand Jvm.LawKit Jvm.RoadKit Bundle Jvm.Pilot.@@N@@.Jvm.D
abbrev vI (x : Int32) : Slot := .val (.int x)
abbrev vR (x : Addr) : Slot := .val (.ref x)
abbrev vU : Slot := .unset
theorem gm {α : Type} {l : List α} {a : α} (i : Nat) (h : l[i]? = some a) : a ∈ l := List.mem_of_getElem? h
def Rch (p : Program) (e : Env) (below : List Frame) (S0 T : State) (g : JFrame) : Prop := ∀ t, Steps p.tables e below (T.setTop g) t → Steps p.tables e below S0 t
theorem own_le {Z : State} {n0 : Nat} {h : Heap} (O : Old Z n0 h) : n0 ≤ h.size := O.1 ▸ O.2.1
theorem own_ge {Z : State} {n0 : Nat} {h : Heap} {x : Nat} (O : Old Z n0 h) (g : h.size ≤ x) : n0 ≤ x := Nat.le_trans (own_le O) g
theorem own_ne {y x k : Nat} (h : y < k) (g : k ≤ x) : y ≠ x := Nat.ne_of_lt (Nat.lt_of_lt_of_le h g)
section Own
variable {p : Program} {l : Launch} {e : Env} {R : Room} {s : State} {m : MethodId} {args : Array Value} {below : List Frame} {meth : Method} {c : Code} {T : State} {locs : List Loc} {cells slots : Nat}
def Like (X : Stand p l e R s m args below meth c T locs cells slots) (T' : State) : Prop := Stand p l e R s m args below meth c T' locs cells slots
def LikeL (X : Stand p l e R s m args below meth c T locs cells slots) (T' : State) (L' : List Loc) : Prop := Stand p l e R s m args below meth c T' L' cells slots
theorem LikeL.out {X : Stand p l e R s m args below meth c T locs cells slots} {T' : State} {L' : List Loc} (h : LikeL X T' L') : Stand p l e R s m args below meth c T' L' cells slots := h
theorem Like.out {X : Stand p l e R s m args below meth c T locs cells slots} {T' : State} (h : Like X T') : Stand p l e R s m args below meth c T' locs cells slots := h
end Own
theorem own_eqi {args : Array Value} {first s : State} {o : Option Outcome} {idx : List Nat} {a : Term} {n : Int32} (h : (Jvm.Cond.eq a (Jvm.Term.int n)).value args first o s idx = some true) : a.eval args first o idx s = some (.int n) := by
  simp only [Cond.value, Term.int_eval] at h
  cases ha : a.eval args first o idx s with
  | none => simp [ha] at h
  | some x => cases x <;> simp [ha] at h ⊢; exact h
theorem own_eqr {args : Array Value} {first s : State} {o : Option Outcome} {idx : List Nat} {a b : Term} {w : Addr} (eb : b.eval args first o idx s = some (.ref w)) (h : (Jvm.Cond.eq a b).value args first o s idx = some true) : a.eval args first o idx s = some (.ref w) := by
  simp only [Cond.value, eb] at h
  cases ha : a.eval args first o idx s with
  | none => simp [ha] at h
  | some x => cases x <;> simp [ha] at h ⊢; exact h
theorem own_selects {Z : State} {a0 : Array Value} {y : MethodName} {k : Nat} (wi : (Jvm.Cond.instantiable y.cls k).before a0 Z = true) (wm : (Jvm.Cond.instanceMethod y).before a0 Z = true) (wp : (Jvm.Cond.privateMethod y).before a0 Z = true) (hy : y.cls ≠ "java/lang/invoke/MethodHandle" ∧ y.cls ≠ "java/lang/invoke/VarHandle") : (Jvm.Cond.selects y.cls y y).before a0 Z = true := by
  obtain ⟨m, meth, h1, h2, -, -⟩ := Cond.instanceMethod_spec wm
  obtain ⟨c, kc, g1, g2, -, g4, -⟩ := Cond.instantiable_spec wi
  have hc := findClass_of_methodNamed h1
  cases g1.symm.trans hc
  have hp := Cond.privateMethod_at wp m meth h1 h2
  have hf := State.methodFound?_of_named h1 hy
  have hs := selectMethod_private (p := {}) (c := m.cls) h2 hp
  have hi : kc.isInterface = false := by simp at g4; exact g4.1
  simp [Cond.before, Cond.holds, Cond.value, hc, hf, h1, hs, g2, hi]
abbrev NT (u : Int64) (r : Int32) : Prop := (u = (0 : Int64) ∧ r = (0 : Int32)) ∨ (u = (1 : Int64) ∧ r = (1 : Int32)) ∨ (u = (2 : Int64) ∧ r = (0 : Int32)) ∨ (u = (3 : Int64) ∧ r = (2 : Int32)) ∨ (u = (4 : Int64) ∧ r = (0 : Int32)) ∨ (u = (5 : Int64) ∧ r = (1 : Int32)) ∨ (u = (6 : Int64) ∧ r = (0 : Int32)) ∨ (u = (7 : Int64) ∧ r = (3 : Int32))
abbrev LW (x y z r : Int32) : Prop := (x = 1 ∧ r = 0) ∨ (x = 0 ∧ y = 1 ∧ r = 1) ∨ (x = 0 ∧ y = 0 ∧ z = 1 ∧ r = 2) ∨ (x = 0 ∧ y = 0 ∧ z = 0 ∧ r = 3)
theorem own_or0 (u : Int64) : (0 : Int64) ||| u = u := by
  apply Int64.toBitVec_inj.mp; simp
theorem own_0add (r : Int32) : (0 : Int32) + r = r := by
  apply Int32.toBitVec_inj.mp; simp
theorem own_lc {u : Int64} {r : Int32} (h : NT u r) : lcmpW u (-1 : Int64) = 1 := by
  rcases h with ⟨rfl, rfl⟩ | ⟨rfl, rfl⟩ | ⟨rfl, rfl⟩ | ⟨rfl, rfl⟩ | ⟨rfl, rfl⟩ | ⟨rfl, rfl⟩ | ⟨rfl, rfl⟩ | ⟨rfl, rfl⟩ <;> decide
theorem own_nn {u : Int64} {r : Int32} (h : NT u r) : ¬ r < 0 := by
  rcases h with ⟨rfl, rfl⟩ | ⟨rfl, rfl⟩ | ⟨rfl, rfl⟩ | ⟨rfl, rfl⟩ | ⟨rfl, rfl⟩ | ⟨rfl, rfl⟩ | ⟨rfl, rfl⟩ | ⟨rfl, rfl⟩ <;> decide
theorem own_d64 {u : Int64} {r : Int32} (h : NT u r) : r / (64 : Int32) = 0 := by
  rcases h with ⟨rfl, rfl⟩ | ⟨rfl, rfl⟩ | ⟨rfl, rfl⟩ | ⟨rfl, rfl⟩ | ⟨rfl, rfl⟩ | ⟨rfl, rfl⟩ | ⟨rfl, rfl⟩ | ⟨rfl, rfl⟩ <;> decide
theorem own_lt3 {cn : Int32} (h : ¬ cn < 3) : (0 : Int32) < cn ∧ (1 : Int32) < cn ∧ (2 : Int32) < cn := by
  rw [Int32.lt_iff_toInt_lt, show (3 : Int32).toInt = 3 from by decide] at h
  rw [Int32.lt_iff_toInt_lt, Int32.lt_iff_toInt_lt, Int32.lt_iff_toInt_lt, show (0 : Int32).toInt = 0 from by decide, show (1 : Int32).toInt = 1 from by decide, show (2 : Int32).toInt = 2 from by decide]
  omega
theorem own_max (c : Int32) : ∃ cn : Int32, ((¬ (3 : Int32) < c ∧ cn = 3) ∨ ((3 : Int32) < c ∧ cn = c)) ∧ ¬ cn < 3 := by
  by_cases h : (3 : Int32) < c
  · refine ⟨c, Or.inr ⟨h, rfl⟩, fun q => ?_⟩
    rw [Int32.lt_iff_toInt_lt] at h q; omega
  · exact ⟨3, Or.inl ⟨h, rfl⟩, by decide⟩
theorem own_words {cn : Int32} (h : ¬ cn < 3) : (0 : Int32) < (((cn.toInt64 + (64 : Int64)) - (1 : Int64)) / (64 : Int64)).toInt32 := by
  rw [Int32.lt_iff_toInt_lt, show (3 : Int32).toInt = 3 from by decide] at h
  have a := c_i2l cn
  have b := c_ladd cn.toInt64 64
  have d := c_lsub (cn.toInt64 + 64) 1
  have r := rng32 cn
  have r1 := rng64 (cn.toInt64 + 64)
  have r2 := rng64 (cn.toInt64 + 64 - 1)
  have e1 : (64 : Int64).toInt = 64 := by decide
  have e2 : (1 : Int64).toInt = 1 := by decide
  rw [e1] at b; rw [e2] at d
  have f := (c_ldiv (cn.toInt64 + 64 - 1) 64 64 (by decide) (by decide)).1 (by omega)
  have g := c_l2i ((cn.toInt64 + 64 - 1) / 64)
  have r3 := rng32 ((cn.toInt64 + 64 - 1) / 64).toInt32
  rw [Int32.lt_iff_toInt_lt, show (0 : Int32).toInt = 0 from by decide]
  omega
theorem own_lo (r cn : Int32) : ∃ lo : Int32, (r < cn ∧ lo = r) ∨ (¬ r < cn ∧ lo = (-1 : Int32)) := by
  by_cases h : r < cn
  · exact ⟨r, Or.inl ⟨h, rfl⟩⟩
  · exact ⟨_, Or.inr ⟨h, rfl⟩⟩
abbrev RL (b : Int32) (u v u' v' x y : Int64) : Prop := (b = 0 ∧ u' = u ∧ v' = v) ∨ (b = 1 ∧ u' = x ∧ v' = y)
theorem own_fin {b1 b2 b3 b4 : Int32} {u1 v1 u2 v2 u3 v3 u4 v4 : Int64} (h1 : RL b1 7 7 u1 v1 ((7 : Int64) &&& (-2 : Int64)) ((7 : Int64) &&& (-2 : Int64))) (h2 : RL b2 u1 v1 u2 v2 (u1 &&& (-3 : Int64)) v1) (h3 : RL b3 u2 v2 u3 v3 u2 (v2 &&& (-3 : Int64))) (h4 : RL b4 u3 v3 u4 v4 (u3 &&& (-5 : Int64)) (v3 &&& (-5 : Int64))) :
    ∃ r0 r1, LW b1 b2 b4 r0 ∧ LW b1 b3 b4 r1 ∧ NT u4 r0 ∧ NT v4 r1 := by
  have pick : ∀ (P Q : Int32 → Prop), (∃ r, (r = 0 ∨ r = 1 ∨ r = 2 ∨ r = 3) ∧ P r ∧ Q r) → ∃ r, P r ∧ Q r := fun P Q ⟨r, _, h⟩ => ⟨r, h⟩
  suffices h : (∃ r, LW b1 b2 b4 r ∧ NT u4 r) ∧ (∃ r, LW b1 b3 b4 r ∧ NT v4 r) by
    obtain ⟨⟨r0, a, b⟩, ⟨r1, c, d⟩⟩ := h
    exact ⟨r0, r1, a, c, b, d⟩
  rcases h1 with ⟨rfl, rfl, rfl⟩ | ⟨rfl, rfl, rfl⟩ <;> rcases h2 with ⟨rfl, rfl, rfl⟩ | ⟨rfl, rfl, rfl⟩ <;> rcases h3 with ⟨rfl, rfl, rfl⟩ | ⟨rfl, rfl, rfl⟩ <;> rcases h4 with ⟨rfl, rfl, rfl⟩ | ⟨rfl, rfl, rfl⟩ <;> constructor <;> first | exact ⟨0, by decide⟩ | exact ⟨1, by decide⟩ | exact ⟨2, by decide⟩ | exact ⟨3, by decide⟩
def Q_rmI0 (Z : State)  (h0 : Heap) (n0 : Nat) (v : Option Value) (h : Heap) (L : List Loc) : Prop := v = some (.int (0 : Int32)) ∧ Fr n0 L ∧ h = h0
theorem ef_7 (m : MethodId) (x0 : Int32) : entryFrame m #[(.int x0)] 2 = mkF m 0 #[.val (.int x0), .unset] [] := by first | (simp [entryFrame, mkF, argsToLocals, Value.category]; done) | rfl
theorem pn_Integer : plainName "java/lang/Integer" = true := by first | (simp [plainName, overriddenIn]; done) | decide +kernel
theorem d7_0 : decode jdk_33_method_48_code 0 = .ok (.iload_n 0, 1) := by decide +kernel
theorem d7_1 : decode jdk_33_method_48_code 1 = .ok (.iconst (-1), 1) := by decide +kernel
theorem d7_2 : decode jdk_33_method_48_code 2 = .ok (.ixor, 1) := by decide +kernel
theorem d7_3 : decode jdk_33_method_48_code 3 = .ok (.iload_n 0, 1) := by decide +kernel
theorem d7_4 : decode jdk_33_method_48_code 4 = .ok (.iconst 1, 1) := by decide +kernel
theorem d7_5 : decode jdk_33_method_48_code 5 = .ok (.isub, 1) := by decide +kernel
theorem d7_6 : decode jdk_33_method_48_code 6 = .ok (.iand, 1) := by decide +kernel
theorem d7_7 : decode jdk_33_method_48_code 7 = .ok (.istore_n 0, 1) := by decide +kernel
theorem d7_8 : decode jdk_33_method_48_code 8 = .ok (.iload_n 0, 1) := by decide +kernel
theorem d7_9 : decode jdk_33_method_48_code 9 = .ok (.ifCond .gt 8, 3) := by decide +kernel
theorem d7_12 : decode jdk_33_method_48_code 12 = .ok (.iload_n 0, 1) := by decide +kernel
theorem d7_13 : decode jdk_33_method_48_code 13 = .ok (.bipush 32, 2) := by decide +kernel
theorem d7_15 : decode jdk_33_method_48_code 15 = .ok (.iand, 1) := by decide +kernel
theorem d7_16 : decode jdk_33_method_48_code 16 = .ok (.ireturn, 1) := by decide +kernel
set_option maxRecDepth 65536 in
set_option maxHeartbeats 40000000 in
theorem rmI0 (l : Launch) (Z : State) (a0 : Array Value) (hw : ∀ d ∈ tables_1, d.before a0 Z = true) (ws : List Jvm.Cond)  (h0 : Heap) (n0 : Nat) (O0 : Old Z n0 h0) :
    MetFree l (⟨"java/lang/Integer", "numberOfTrailingZeros", "(I)I"⟩ : MethodName) (head1 (Jvm.Cond.code (⟨"java/lang/Integer", "numberOfTrailingZeros", "(I)I"⟩ : MethodName) jdk_33_method_48_code 2 (some .int) :: ws) ({ frames := 0, cells := 0, slots := 0, locals := 0 } : Room)) (fun a U => a = #[(.int (-1 : Int32))] ∧ Z.Warmed39 U.vm ∧ U.heap = h0) (fun _ _ _ _ _ => True) (fun _ U o U' => ∃ v L, o = .returned v ∧ Q_rmI0 Z  h0 n0 v U'.heap L ∧ FrameEnd U o U' L ({ frames := 0, cells := 0, slots := 0, locals := 0 } : Room).cells ({ frames := 0, cells := 0, slots := 0, locals := 0 } : Room).slots) := by
  refine MetFree.of_bodySF (plainFor_of_name pn_Integer) hisR ?_
  intro p e s m args below meth c s₁ Bd hml0 hP hK
  obtain ⟨rfl, hZ, hh⟩ := hP
  have hx := Bd.exec
  have hby := Bd.bytes
  have hml : c.maxLocals = 2 := hml0
  have hown : s.vm.findClass "java/lang/Integer" = some m.cls := findClass_of_methodNamed Bd.named
  have hnm := (name_of_methodNamed Bd.named Bd.method).1
  have X0 : Stand p l e ({ frames := 0, cells := 0, slots := 0, locals := 0 } : Room) s m #[(.int (-1 : Int32))] below meth c s₁ [] 0 0 := Stand.of_body Bd
  have e0 : s₁.heap = h0 := by rw [← hh, Bd.state]; rfl
  have N0 := Fr.nil n0
  obtain ⟨S0, hS0⟩ : ∃ z, z = s₁.setTop (entryFrame m #[(.int (-1 : Int32))] 2) := ⟨_, rfl⟩
  have k0 : Rch p e below S0 s₁ (mkF m 0 #[vI (-1), vU] []) := fun t kq => hS0 ▸ castTop (ef_7 m (-1 : Int32)) kq
  have k1 : Rch p e below S0 s₁ (mkF m 16 #[vI 0, vU] [(.int (0 : Int32))]) := fun t h => k0 t (by
      show Steps p.tables e below (s₁.setTop (mkF m 0 #[vI (-1), vU] [])) _
      refine XS.iloadN X0.here hx rfl (hb hby d7_0) rfl ?_
      refine XS.iconst X0.here hx rfl (hb hby d7_1) ?_
      show Steps p.tables e below (s₁.setTop (mkF m 2 #[vI (-1), vU] [(.int (-1 : Int32)), (.int (-1 : Int32))])) _
      refine XS.ixor X0.here hx rfl (hb hby d7_2) rfl ?_
      rw [(by decide : ((-1 : Int32) ^^^ (-1 : Int32)) = (0 : Int32))]
      refine XS.iloadN X0.here hx rfl (hb hby d7_3) rfl ?_
      refine XS.iconst X0.here hx rfl (hb hby d7_4) ?_
      show Steps p.tables e below (s₁.setTop (mkF m 5 #[vI (-1), vU] [(.int (1 : Int32)), (.int (-1 : Int32)), (.int (0 : Int32))])) _
      refine XS.isub X0.here hx rfl (hb hby d7_5) rfl ?_
      rw [(by decide : ((-1 : Int32) - (1 : Int32)) = (-2 : Int32))]
      show Steps p.tables e below (s₁.setTop (mkF m 6 #[vI (-1), vU] [(.int (-2 : Int32)), (.int (0 : Int32))])) _
      refine XS.iand X0.here hx rfl (hb hby d7_6) rfl ?_
      rw [(by decide : ((0 : Int32) &&& (-2 : Int32)) = (0 : Int32))]
      refine XS.istoreN X0.here hx rfl (hb hby d7_7) rfl (l' := #[vI 0, vU]) rfl ?_
      refine XS.iloadN X0.here hx rfl (hb hby d7_8) rfl ?_
      refine XS.ifNo X0.here hx rfl (hb hby d7_9) rfl ((if0 _ _).trans (flt (by decide : ¬ ((0 : Int32) < (0 : Int32)))).2.2.1) ?_
      refine XS.iloadN X0.here hx rfl (hb hby d7_12) rfl ?_
      refine XS.bipush X0.here hx rfl (hb hby d7_13) ?_
      show Steps p.tables e below (s₁.setTop (mkF m 15 #[vI 0, vU] [(.int (32 : Int32)), (.int (0 : Int32))])) _
      refine XS.iand X0.here hx rfl (hb hby d7_15) rfl ?_
      rw [(by decide : ((0 : Int32) &&& (32 : Int32)) = (0 : Int32))]
      exact h)
  obtain ⟨fs, hr, hrun, hended, hW, hsame⟩ := X0.leave (v := (some (.int (0 : Int32)))) (fun h => by rw [Bd.returns] at h; cases h)
  refine ⟨_, _, ?_, hrun, hended, _, _, rfl, ?_, ⟨_, rfl⟩, hW, hsame.mono (by decide) (by decide)⟩
  · rw [← hS0]
    refine k1 _ ?_
    show Steps p.tables e below (s₁.setTop (mkF m 16 #[vI 0, vU] [(.int (0 : Int32))])) _
    exact retI X0 hx Bd.returns (hb hby d7_16) hr
  · show Q_rmI0 Z  h0 n0 _ s₁.heap _
    rw [e0]
    exact ⟨rfl, N0, rfl⟩
def Q_rmI1 (Z : State)  (h0 : Heap) (n0 : Nat) (v : Option Value) (h : Heap) (L : List Loc) : Prop := v = some (.int (1 : Int32)) ∧ Fr n0 L ∧ h = h0
theorem d7_17 : decode jdk_33_method_48_code 17 = .ok (.iconst 1, 1) := by decide +kernel
theorem d7_18 : decode jdk_33_method_48_code 18 = .ok (.istore_n 1, 1) := by decide +kernel
theorem d7_19 : decode jdk_33_method_48_code 19 = .ok (.iload_n 0, 1) := by decide +kernel
theorem d7_20 : decode jdk_33_method_48_code 20 = .ok (.ldc_w 264, 3) := by decide +kernel
theorem d7_23 : decode jdk_33_method_48_code 23 = .ok (.if_icmp .le 11, 3) := by decide +kernel
theorem d7_34 : decode jdk_33_method_48_code 34 = .ok (.iload_n 0, 1) := by decide +kernel
theorem d7_35 : decode jdk_33_method_48_code 35 = .ok (.sipush 256, 3) := by decide +kernel
theorem d7_38 : decode jdk_33_method_48_code 38 = .ok (.if_icmp .le 11, 3) := by decide +kernel
theorem d7_49 : decode jdk_33_method_48_code 49 = .ok (.iload_n 0, 1) := by decide +kernel
theorem d7_50 : decode jdk_33_method_48_code 50 = .ok (.bipush 16, 2) := by decide +kernel
theorem d7_52 : decode jdk_33_method_48_code 52 = .ok (.if_icmp .le 10, 3) := by decide +kernel
theorem d7_62 : decode jdk_33_method_48_code 62 = .ok (.iload_n 0, 1) := by decide +kernel
theorem d7_63 : decode jdk_33_method_48_code 63 = .ok (.iconst 4, 1) := by decide +kernel
theorem d7_64 : decode jdk_33_method_48_code 64 = .ok (.if_icmp .le 10, 3) := by decide +kernel
theorem d7_74 : decode jdk_33_method_48_code 74 = .ok (.iload_n 1, 1) := by decide +kernel
theorem d7_75 : decode jdk_33_method_48_code 75 = .ok (.iload_n 0, 1) := by decide +kernel
theorem d7_76 : decode jdk_33_method_48_code 76 = .ok (.iconst 1, 1) := by decide +kernel
theorem d7_77 : decode jdk_33_method_48_code 77 = .ok (.iushr, 1) := by decide +kernel
theorem d7_78 : decode jdk_33_method_48_code 78 = .ok (.iadd, 1) := by decide +kernel
theorem d7_79 : decode jdk_33_method_48_code 79 = .ok (.ireturn, 1) := by decide +kernel
set_option maxRecDepth 65536 in
set_option maxHeartbeats 40000000 in
theorem rmI1 (l : Launch) (Z : State) (a0 : Array Value) (hw : ∀ d ∈ tables_1, d.before a0 Z = true) (ws : List Jvm.Cond)  (h0 : Heap) (n0 : Nat) (O0 : Old Z n0 h0) :
    MetFree l (⟨"java/lang/Integer", "numberOfTrailingZeros", "(I)I"⟩ : MethodName) (head1 (Jvm.Cond.code (⟨"java/lang/Integer", "numberOfTrailingZeros", "(I)I"⟩ : MethodName) jdk_33_method_48_code 2 (some .int) :: ws) ({ frames := 0, cells := 0, slots := 0, locals := 0 } : Room)) (fun a U => a = #[(.int (-2 : Int32))] ∧ Z.Warmed39 U.vm ∧ U.heap = h0) (fun _ _ _ _ _ => True) (fun _ U o U' => ∃ v L, o = .returned v ∧ Q_rmI1 Z  h0 n0 v U'.heap L ∧ FrameEnd U o U' L ({ frames := 0, cells := 0, slots := 0, locals := 0 } : Room).cells ({ frames := 0, cells := 0, slots := 0, locals := 0 } : Room).slots) := by
  refine MetFree.of_bodySF (plainFor_of_name pn_Integer) hisR ?_
  intro p e s m args below meth c s₁ Bd hml0 hP hK
  obtain ⟨rfl, hZ, hh⟩ := hP
  have hx := Bd.exec
  have hby := Bd.bytes
  have hml : c.maxLocals = 2 := hml0
  have hown : s.vm.findClass "java/lang/Integer" = some m.cls := findClass_of_methodNamed Bd.named
  have hnm := (name_of_methodNamed Bd.named Bd.method).1
  have X0 : Stand p l e ({ frames := 0, cells := 0, slots := 0, locals := 0 } : Room) s m #[(.int (-2 : Int32))] below meth c s₁ [] 0 0 := Stand.of_body Bd
  have e0 : s₁.heap = h0 := by rw [← hh, Bd.state]; rfl
  have N0 := Fr.nil n0
  obtain ⟨S0, hS0⟩ : ∃ z, z = s₁.setTop (entryFrame m #[(.int (-2 : Int32))] 2) := ⟨_, rfl⟩
  have k0 : Rch p e below S0 s₁ (mkF m 0 #[vI (-2), vU] []) := fun t kq => hS0 ▸ castTop (ef_7 m (-2 : Int32)) kq
  have k2 : Rch p e below S0 s₁ (mkF m 79 #[vI 1, vI 1] [(.int (1 : Int32))]) := fun t h => k0 t (by
      show Steps p.tables e below (s₁.setTop (mkF m 0 #[vI (-2), vU] [])) _
      refine XS.iloadN X0.here hx rfl (hb hby d7_0) rfl ?_
      refine XS.iconst X0.here hx rfl (hb hby d7_1) ?_
      show Steps p.tables e below (s₁.setTop (mkF m 2 #[vI (-2), vU] [(.int (-1 : Int32)), (.int (-2 : Int32))])) _
      refine XS.ixor X0.here hx rfl (hb hby d7_2) rfl ?_
      rw [(by decide : ((-2 : Int32) ^^^ (-1 : Int32)) = (1 : Int32))]
      refine XS.iloadN X0.here hx rfl (hb hby d7_3) rfl ?_
      refine XS.iconst X0.here hx rfl (hb hby d7_4) ?_
      show Steps p.tables e below (s₁.setTop (mkF m 5 #[vI (-2), vU] [(.int (1 : Int32)), (.int (-2 : Int32)), (.int (1 : Int32))])) _
      refine XS.isub X0.here hx rfl (hb hby d7_5) rfl ?_
      rw [(by decide : ((-2 : Int32) - (1 : Int32)) = (-3 : Int32))]
      show Steps p.tables e below (s₁.setTop (mkF m 6 #[vI (-2), vU] [(.int (-3 : Int32)), (.int (1 : Int32))])) _
      refine XS.iand X0.here hx rfl (hb hby d7_6) rfl ?_
      rw [(by decide : ((1 : Int32) &&& (-3 : Int32)) = (1 : Int32))]
      refine XS.istoreN X0.here hx rfl (hb hby d7_7) rfl (l' := #[vI 1, vU]) rfl ?_
      refine XS.iloadN X0.here hx rfl (hb hby d7_8) rfl ?_
      refine XS.ifYes X0.here hx rfl (pc0 := 9) (pc' := 17) rfl (hb hby d7_9) rfl ((if0 _ _).trans (tlt (by decide : (0 : Int32) < (1 : Int32))).2.2.1) (by decide) (by decide) ?_
      refine XS.iconst X0.here hx rfl (hb hby d7_17) ?_
      refine XS.istoreN X0.here hx rfl (hb hby d7_18) rfl (l' := #[vI 1, vI 1]) rfl ?_
      refine XS.iloadN X0.here hx rfl (hb hby d7_19) rfl ?_
      refine X0.ldcwInt hx hown (mvT hZ (hw _ (gm 54 rfl))) (g := (mkF m 20 #[vI 1, vI 1] [(.int (1 : Int32))])) rfl (hb hby d7_20) _ ?_
      refine XS.icmpYes X0.here hx rfl (pc0 := 23) (pc' := 34) rfl (hb hby d7_23) rfl (flt (by decide : ¬ ((65536 : Int32) < (1 : Int32)))).2.2.2 (by decide) (by decide) ?_
      refine XS.iloadN X0.here hx rfl (hb hby d7_34) rfl ?_
      refine XS.sipush X0.here hx rfl (hb hby d7_35) ?_
      refine XS.icmpYes X0.here hx rfl (pc0 := 38) (pc' := 49) rfl (hb hby d7_38) rfl (flt (by decide : ¬ ((256 : Int32) < (1 : Int32)))).2.2.2 (by decide) (by decide) ?_
      refine XS.iloadN X0.here hx rfl (hb hby d7_49) rfl ?_
      refine XS.bipush X0.here hx rfl (hb hby d7_50) ?_
      refine XS.icmpYes X0.here hx rfl (pc0 := 52) (pc' := 62) rfl (hb hby d7_52) rfl (flt (by decide : ¬ ((16 : Int32) < (1 : Int32)))).2.2.2 (by decide) (by decide) ?_
      refine XS.iloadN X0.here hx rfl (hb hby d7_62) rfl ?_
      refine XS.iconst X0.here hx rfl (hb hby d7_63) ?_
      refine XS.icmpYes X0.here hx rfl (pc0 := 64) (pc' := 74) rfl (hb hby d7_64) rfl (flt (by decide : ¬ ((4 : Int32) < (1 : Int32)))).2.2.2 (by decide) (by decide) ?_
      refine XS.iloadN X0.here hx rfl (hb hby d7_74) rfl ?_
      refine XS.iloadN X0.here hx rfl (hb hby d7_75) rfl ?_
      refine XS.iconst X0.here hx rfl (hb hby d7_76) ?_
      show Steps p.tables e below (s₁.setTop (mkF m 77 #[vI 1, vI 1] [(.int (1 : Int32)), (.int (1 : Int32)), (.int (1 : Int32))])) _
      refine XS.iushr X0.here hx rfl (hb hby d7_77) rfl ?_
      rw [(by decide : (((1 : Int32).toUInt32 >>> ((1 : Int32) &&& 31).toUInt32).toInt32) = (0 : Int32))]
      show Steps p.tables e below (s₁.setTop (mkF m 78 #[vI 1, vI 1] [(.int (0 : Int32)), (.int (1 : Int32))])) _
      refine XS.iadd X0.here hx rfl (hb hby d7_78) rfl ?_
      rw [(by decide : ((1 : Int32) + (0 : Int32)) = (1 : Int32))]
      exact h)
  obtain ⟨fs, hr, hrun, hended, hW, hsame⟩ := X0.leave (v := (some (.int (1 : Int32)))) (fun h => by rw [Bd.returns] at h; cases h)
  refine ⟨_, _, ?_, hrun, hended, _, _, rfl, ?_, ⟨_, rfl⟩, hW, hsame.mono (by decide) (by decide)⟩
  · rw [← hS0]
    refine k2 _ ?_
    show Steps p.tables e below (s₁.setTop (mkF m 79 #[vI 1, vI 1] [(.int (1 : Int32))])) _
    exact retI X0 hx Bd.returns (hb hby d7_79) hr
  · show Q_rmI1 Z  h0 n0 _ s₁.heap _
    rw [e0]
    exact ⟨rfl, N0, rfl⟩
def Q_rmI2 (Z : State)  (h0 : Heap) (n0 : Nat) (v : Option Value) (h : Heap) (L : List Loc) : Prop := v = some (.int (0 : Int32)) ∧ Fr n0 L ∧ h = h0
set_option maxRecDepth 65536 in
set_option maxHeartbeats 40000000 in
theorem rmI2 (l : Launch) (Z : State) (a0 : Array Value) (hw : ∀ d ∈ tables_1, d.before a0 Z = true) (ws : List Jvm.Cond)  (h0 : Heap) (n0 : Nat) (O0 : Old Z n0 h0) :
    MetFree l (⟨"java/lang/Integer", "numberOfTrailingZeros", "(I)I"⟩ : MethodName) (head1 (Jvm.Cond.code (⟨"java/lang/Integer", "numberOfTrailingZeros", "(I)I"⟩ : MethodName) jdk_33_method_48_code 2 (some .int) :: ws) ({ frames := 0, cells := 0, slots := 0, locals := 0 } : Room)) (fun a U => a = #[(.int (-3 : Int32))] ∧ Z.Warmed39 U.vm ∧ U.heap = h0) (fun _ _ _ _ _ => True) (fun _ U o U' => ∃ v L, o = .returned v ∧ Q_rmI2 Z  h0 n0 v U'.heap L ∧ FrameEnd U o U' L ({ frames := 0, cells := 0, slots := 0, locals := 0 } : Room).cells ({ frames := 0, cells := 0, slots := 0, locals := 0 } : Room).slots) := by
  refine MetFree.of_bodySF (plainFor_of_name pn_Integer) hisR ?_
  intro p e s m args below meth c s₁ Bd hml0 hP hK
  obtain ⟨rfl, hZ, hh⟩ := hP
  have hx := Bd.exec
  have hby := Bd.bytes
  have hml : c.maxLocals = 2 := hml0
  have hown : s.vm.findClass "java/lang/Integer" = some m.cls := findClass_of_methodNamed Bd.named
  have hnm := (name_of_methodNamed Bd.named Bd.method).1
  have X0 : Stand p l e ({ frames := 0, cells := 0, slots := 0, locals := 0 } : Room) s m #[(.int (-3 : Int32))] below meth c s₁ [] 0 0 := Stand.of_body Bd
  have e0 : s₁.heap = h0 := by rw [← hh, Bd.state]; rfl
  have N0 := Fr.nil n0
  obtain ⟨S0, hS0⟩ : ∃ z, z = s₁.setTop (entryFrame m #[(.int (-3 : Int32))] 2) := ⟨_, rfl⟩
  have k0 : Rch p e below S0 s₁ (mkF m 0 #[vI (-3), vU] []) := fun t kq => hS0 ▸ castTop (ef_7 m (-3 : Int32)) kq
  have k3 : Rch p e below S0 s₁ (mkF m 16 #[vI 0, vU] [(.int (0 : Int32))]) := fun t h => k0 t (by
      show Steps p.tables e below (s₁.setTop (mkF m 0 #[vI (-3), vU] [])) _
      refine XS.iloadN X0.here hx rfl (hb hby d7_0) rfl ?_
      refine XS.iconst X0.here hx rfl (hb hby d7_1) ?_
      show Steps p.tables e below (s₁.setTop (mkF m 2 #[vI (-3), vU] [(.int (-1 : Int32)), (.int (-3 : Int32))])) _
      refine XS.ixor X0.here hx rfl (hb hby d7_2) rfl ?_
      rw [(by decide : ((-3 : Int32) ^^^ (-1 : Int32)) = (2 : Int32))]
      refine XS.iloadN X0.here hx rfl (hb hby d7_3) rfl ?_
      refine XS.iconst X0.here hx rfl (hb hby d7_4) ?_
      show Steps p.tables e below (s₁.setTop (mkF m 5 #[vI (-3), vU] [(.int (1 : Int32)), (.int (-3 : Int32)), (.int (2 : Int32))])) _
      refine XS.isub X0.here hx rfl (hb hby d7_5) rfl ?_
      rw [(by decide : ((-3 : Int32) - (1 : Int32)) = (-4 : Int32))]
      show Steps p.tables e below (s₁.setTop (mkF m 6 #[vI (-3), vU] [(.int (-4 : Int32)), (.int (2 : Int32))])) _
      refine XS.iand X0.here hx rfl (hb hby d7_6) rfl ?_
      rw [(by decide : ((2 : Int32) &&& (-4 : Int32)) = (0 : Int32))]
      refine XS.istoreN X0.here hx rfl (hb hby d7_7) rfl (l' := #[vI 0, vU]) rfl ?_
      refine XS.iloadN X0.here hx rfl (hb hby d7_8) rfl ?_
      refine XS.ifNo X0.here hx rfl (hb hby d7_9) rfl ((if0 _ _).trans (flt (by decide : ¬ ((0 : Int32) < (0 : Int32)))).2.2.1) ?_
      refine XS.iloadN X0.here hx rfl (hb hby d7_12) rfl ?_
      refine XS.bipush X0.here hx rfl (hb hby d7_13) ?_
      show Steps p.tables e below (s₁.setTop (mkF m 15 #[vI 0, vU] [(.int (32 : Int32)), (.int (0 : Int32))])) _
      refine XS.iand X0.here hx rfl (hb hby d7_15) rfl ?_
      rw [(by decide : ((0 : Int32) &&& (32 : Int32)) = (0 : Int32))]
      exact h)
  obtain ⟨fs, hr, hrun, hended, hW, hsame⟩ := X0.leave (v := (some (.int (0 : Int32)))) (fun h => by rw [Bd.returns] at h; cases h)
  refine ⟨_, _, ?_, hrun, hended, _, _, rfl, ?_, ⟨_, rfl⟩, hW, hsame.mono (by decide) (by decide)⟩
  · rw [← hS0]
    refine k3 _ ?_
    show Steps p.tables e below (s₁.setTop (mkF m 16 #[vI 0, vU] [(.int (0 : Int32))])) _
    exact retI X0 hx Bd.returns (hb hby d7_16) hr
  · show Q_rmI2 Z  h0 n0 _ s₁.heap _
    rw [e0]
    exact ⟨rfl, N0, rfl⟩
def Q_rmI3 (Z : State)  (h0 : Heap) (n0 : Nat) (v : Option Value) (h : Heap) (L : List Loc) : Prop := v = some (.int (2 : Int32)) ∧ Fr n0 L ∧ h = h0
set_option maxRecDepth 65536 in
set_option maxHeartbeats 40000000 in
theorem rmI3 (l : Launch) (Z : State) (a0 : Array Value) (hw : ∀ d ∈ tables_1, d.before a0 Z = true) (ws : List Jvm.Cond)  (h0 : Heap) (n0 : Nat) (O0 : Old Z n0 h0) :
    MetFree l (⟨"java/lang/Integer", "numberOfTrailingZeros", "(I)I"⟩ : MethodName) (head1 (Jvm.Cond.code (⟨"java/lang/Integer", "numberOfTrailingZeros", "(I)I"⟩ : MethodName) jdk_33_method_48_code 2 (some .int) :: ws) ({ frames := 0, cells := 0, slots := 0, locals := 0 } : Room)) (fun a U => a = #[(.int (-4 : Int32))] ∧ Z.Warmed39 U.vm ∧ U.heap = h0) (fun _ _ _ _ _ => True) (fun _ U o U' => ∃ v L, o = .returned v ∧ Q_rmI3 Z  h0 n0 v U'.heap L ∧ FrameEnd U o U' L ({ frames := 0, cells := 0, slots := 0, locals := 0 } : Room).cells ({ frames := 0, cells := 0, slots := 0, locals := 0 } : Room).slots) := by
  refine MetFree.of_bodySF (plainFor_of_name pn_Integer) hisR ?_
  intro p e s m args below meth c s₁ Bd hml0 hP hK
  obtain ⟨rfl, hZ, hh⟩ := hP
  have hx := Bd.exec
  have hby := Bd.bytes
  have hml : c.maxLocals = 2 := hml0
  have hown : s.vm.findClass "java/lang/Integer" = some m.cls := findClass_of_methodNamed Bd.named
  have hnm := (name_of_methodNamed Bd.named Bd.method).1
  have X0 : Stand p l e ({ frames := 0, cells := 0, slots := 0, locals := 0 } : Room) s m #[(.int (-4 : Int32))] below meth c s₁ [] 0 0 := Stand.of_body Bd
  have e0 : s₁.heap = h0 := by rw [← hh, Bd.state]; rfl
  have N0 := Fr.nil n0
  obtain ⟨S0, hS0⟩ : ∃ z, z = s₁.setTop (entryFrame m #[(.int (-4 : Int32))] 2) := ⟨_, rfl⟩
  have k0 : Rch p e below S0 s₁ (mkF m 0 #[vI (-4), vU] []) := fun t kq => hS0 ▸ castTop (ef_7 m (-4 : Int32)) kq
  have k4 : Rch p e below S0 s₁ (mkF m 79 #[vI 3, vI 1] [(.int (2 : Int32))]) := fun t h => k0 t (by
      show Steps p.tables e below (s₁.setTop (mkF m 0 #[vI (-4), vU] [])) _
      refine XS.iloadN X0.here hx rfl (hb hby d7_0) rfl ?_
      refine XS.iconst X0.here hx rfl (hb hby d7_1) ?_
      show Steps p.tables e below (s₁.setTop (mkF m 2 #[vI (-4), vU] [(.int (-1 : Int32)), (.int (-4 : Int32))])) _
      refine XS.ixor X0.here hx rfl (hb hby d7_2) rfl ?_
      rw [(by decide : ((-4 : Int32) ^^^ (-1 : Int32)) = (3 : Int32))]
      refine XS.iloadN X0.here hx rfl (hb hby d7_3) rfl ?_
      refine XS.iconst X0.here hx rfl (hb hby d7_4) ?_
      show Steps p.tables e below (s₁.setTop (mkF m 5 #[vI (-4), vU] [(.int (1 : Int32)), (.int (-4 : Int32)), (.int (3 : Int32))])) _
      refine XS.isub X0.here hx rfl (hb hby d7_5) rfl ?_
      rw [(by decide : ((-4 : Int32) - (1 : Int32)) = (-5 : Int32))]
      show Steps p.tables e below (s₁.setTop (mkF m 6 #[vI (-4), vU] [(.int (-5 : Int32)), (.int (3 : Int32))])) _
      refine XS.iand X0.here hx rfl (hb hby d7_6) rfl ?_
      rw [(by decide : ((3 : Int32) &&& (-5 : Int32)) = (3 : Int32))]
      refine XS.istoreN X0.here hx rfl (hb hby d7_7) rfl (l' := #[vI 3, vU]) rfl ?_
      refine XS.iloadN X0.here hx rfl (hb hby d7_8) rfl ?_
      refine XS.ifYes X0.here hx rfl (pc0 := 9) (pc' := 17) rfl (hb hby d7_9) rfl ((if0 _ _).trans (tlt (by decide : (0 : Int32) < (3 : Int32))).2.2.1) (by decide) (by decide) ?_
      refine XS.iconst X0.here hx rfl (hb hby d7_17) ?_
      refine XS.istoreN X0.here hx rfl (hb hby d7_18) rfl (l' := #[vI 3, vI 1]) rfl ?_
      refine XS.iloadN X0.here hx rfl (hb hby d7_19) rfl ?_
      refine X0.ldcwInt hx hown (mvT hZ (hw _ (gm 54 rfl))) (g := (mkF m 20 #[vI 3, vI 1] [(.int (3 : Int32))])) rfl (hb hby d7_20) _ ?_
      refine XS.icmpYes X0.here hx rfl (pc0 := 23) (pc' := 34) rfl (hb hby d7_23) rfl (flt (by decide : ¬ ((65536 : Int32) < (3 : Int32)))).2.2.2 (by decide) (by decide) ?_
      refine XS.iloadN X0.here hx rfl (hb hby d7_34) rfl ?_
      refine XS.sipush X0.here hx rfl (hb hby d7_35) ?_
      refine XS.icmpYes X0.here hx rfl (pc0 := 38) (pc' := 49) rfl (hb hby d7_38) rfl (flt (by decide : ¬ ((256 : Int32) < (3 : Int32)))).2.2.2 (by decide) (by decide) ?_
      refine XS.iloadN X0.here hx rfl (hb hby d7_49) rfl ?_
      refine XS.bipush X0.here hx rfl (hb hby d7_50) ?_
      refine XS.icmpYes X0.here hx rfl (pc0 := 52) (pc' := 62) rfl (hb hby d7_52) rfl (flt (by decide : ¬ ((16 : Int32) < (3 : Int32)))).2.2.2 (by decide) (by decide) ?_
      refine XS.iloadN X0.here hx rfl (hb hby d7_62) rfl ?_
      refine XS.iconst X0.here hx rfl (hb hby d7_63) ?_
      refine XS.icmpYes X0.here hx rfl (pc0 := 64) (pc' := 74) rfl (hb hby d7_64) rfl (flt (by decide : ¬ ((4 : Int32) < (3 : Int32)))).2.2.2 (by decide) (by decide) ?_
      refine XS.iloadN X0.here hx rfl (hb hby d7_74) rfl ?_
      refine XS.iloadN X0.here hx rfl (hb hby d7_75) rfl ?_
      refine XS.iconst X0.here hx rfl (hb hby d7_76) ?_
      show Steps p.tables e below (s₁.setTop (mkF m 77 #[vI 3, vI 1] [(.int (1 : Int32)), (.int (3 : Int32)), (.int (1 : Int32))])) _
      refine XS.iushr X0.here hx rfl (hb hby d7_77) rfl ?_
      rw [(by decide : (((3 : Int32).toUInt32 >>> ((1 : Int32) &&& 31).toUInt32).toInt32) = (1 : Int32))]
      show Steps p.tables e below (s₁.setTop (mkF m 78 #[vI 3, vI 1] [(.int (1 : Int32)), (.int (1 : Int32))])) _
      refine XS.iadd X0.here hx rfl (hb hby d7_78) rfl ?_
      rw [(by decide : ((1 : Int32) + (1 : Int32)) = (2 : Int32))]
      exact h)
  obtain ⟨fs, hr, hrun, hended, hW, hsame⟩ := X0.leave (v := (some (.int (2 : Int32)))) (fun h => by rw [Bd.returns] at h; cases h)
  refine ⟨_, _, ?_, hrun, hended, _, _, rfl, ?_, ⟨_, rfl⟩, hW, hsame.mono (by decide) (by decide)⟩
  · rw [← hS0]
    refine k4 _ ?_
    show Steps p.tables e below (s₁.setTop (mkF m 79 #[vI 3, vI 1] [(.int (2 : Int32))])) _
    exact retI X0 hx Bd.returns (hb hby d7_79) hr
  · show Q_rmI3 Z  h0 n0 _ s₁.heap _
    rw [e0]
    exact ⟨rfl, N0, rfl⟩
def Q_rmI4 (Z : State)  (h0 : Heap) (n0 : Nat) (v : Option Value) (h : Heap) (L : List Loc) : Prop := v = some (.int (0 : Int32)) ∧ Fr n0 L ∧ h = h0
set_option maxRecDepth 65536 in
set_option maxHeartbeats 40000000 in
theorem rmI4 (l : Launch) (Z : State) (a0 : Array Value) (hw : ∀ d ∈ tables_1, d.before a0 Z = true) (ws : List Jvm.Cond)  (h0 : Heap) (n0 : Nat) (O0 : Old Z n0 h0) :
    MetFree l (⟨"java/lang/Integer", "numberOfTrailingZeros", "(I)I"⟩ : MethodName) (head1 (Jvm.Cond.code (⟨"java/lang/Integer", "numberOfTrailingZeros", "(I)I"⟩ : MethodName) jdk_33_method_48_code 2 (some .int) :: ws) ({ frames := 0, cells := 0, slots := 0, locals := 0 } : Room)) (fun a U => a = #[(.int (-5 : Int32))] ∧ Z.Warmed39 U.vm ∧ U.heap = h0) (fun _ _ _ _ _ => True) (fun _ U o U' => ∃ v L, o = .returned v ∧ Q_rmI4 Z  h0 n0 v U'.heap L ∧ FrameEnd U o U' L ({ frames := 0, cells := 0, slots := 0, locals := 0 } : Room).cells ({ frames := 0, cells := 0, slots := 0, locals := 0 } : Room).slots) := by
  refine MetFree.of_bodySF (plainFor_of_name pn_Integer) hisR ?_
  intro p e s m args below meth c s₁ Bd hml0 hP hK
  obtain ⟨rfl, hZ, hh⟩ := hP
  have hx := Bd.exec
  have hby := Bd.bytes
  have hml : c.maxLocals = 2 := hml0
  have hown : s.vm.findClass "java/lang/Integer" = some m.cls := findClass_of_methodNamed Bd.named
  have hnm := (name_of_methodNamed Bd.named Bd.method).1
  have X0 : Stand p l e ({ frames := 0, cells := 0, slots := 0, locals := 0 } : Room) s m #[(.int (-5 : Int32))] below meth c s₁ [] 0 0 := Stand.of_body Bd
  have e0 : s₁.heap = h0 := by rw [← hh, Bd.state]; rfl
  have N0 := Fr.nil n0
  obtain ⟨S0, hS0⟩ : ∃ z, z = s₁.setTop (entryFrame m #[(.int (-5 : Int32))] 2) := ⟨_, rfl⟩
  have k0 : Rch p e below S0 s₁ (mkF m 0 #[vI (-5), vU] []) := fun t kq => hS0 ▸ castTop (ef_7 m (-5 : Int32)) kq
  have k5 : Rch p e below S0 s₁ (mkF m 16 #[vI 0, vU] [(.int (0 : Int32))]) := fun t h => k0 t (by
      show Steps p.tables e below (s₁.setTop (mkF m 0 #[vI (-5), vU] [])) _
      refine XS.iloadN X0.here hx rfl (hb hby d7_0) rfl ?_
      refine XS.iconst X0.here hx rfl (hb hby d7_1) ?_
      show Steps p.tables e below (s₁.setTop (mkF m 2 #[vI (-5), vU] [(.int (-1 : Int32)), (.int (-5 : Int32))])) _
      refine XS.ixor X0.here hx rfl (hb hby d7_2) rfl ?_
      rw [(by decide : ((-5 : Int32) ^^^ (-1 : Int32)) = (4 : Int32))]
      refine XS.iloadN X0.here hx rfl (hb hby d7_3) rfl ?_
      refine XS.iconst X0.here hx rfl (hb hby d7_4) ?_
      show Steps p.tables e below (s₁.setTop (mkF m 5 #[vI (-5), vU] [(.int (1 : Int32)), (.int (-5 : Int32)), (.int (4 : Int32))])) _
      refine XS.isub X0.here hx rfl (hb hby d7_5) rfl ?_
      rw [(by decide : ((-5 : Int32) - (1 : Int32)) = (-6 : Int32))]
      show Steps p.tables e below (s₁.setTop (mkF m 6 #[vI (-5), vU] [(.int (-6 : Int32)), (.int (4 : Int32))])) _
      refine XS.iand X0.here hx rfl (hb hby d7_6) rfl ?_
      rw [(by decide : ((4 : Int32) &&& (-6 : Int32)) = (0 : Int32))]
      refine XS.istoreN X0.here hx rfl (hb hby d7_7) rfl (l' := #[vI 0, vU]) rfl ?_
      refine XS.iloadN X0.here hx rfl (hb hby d7_8) rfl ?_
      refine XS.ifNo X0.here hx rfl (hb hby d7_9) rfl ((if0 _ _).trans (flt (by decide : ¬ ((0 : Int32) < (0 : Int32)))).2.2.1) ?_
      refine XS.iloadN X0.here hx rfl (hb hby d7_12) rfl ?_
      refine XS.bipush X0.here hx rfl (hb hby d7_13) ?_
      show Steps p.tables e below (s₁.setTop (mkF m 15 #[vI 0, vU] [(.int (32 : Int32)), (.int (0 : Int32))])) _
      refine XS.iand X0.here hx rfl (hb hby d7_15) rfl ?_
      rw [(by decide : ((0 : Int32) &&& (32 : Int32)) = (0 : Int32))]
      exact h)
  obtain ⟨fs, hr, hrun, hended, hW, hsame⟩ := X0.leave (v := (some (.int (0 : Int32)))) (fun h => by rw [Bd.returns] at h; cases h)
  refine ⟨_, _, ?_, hrun, hended, _, _, rfl, ?_, ⟨_, rfl⟩, hW, hsame.mono (by decide) (by decide)⟩
  · rw [← hS0]
    refine k5 _ ?_
    show Steps p.tables e below (s₁.setTop (mkF m 16 #[vI 0, vU] [(.int (0 : Int32))])) _
    exact retI X0 hx Bd.returns (hb hby d7_16) hr
  · show Q_rmI4 Z  h0 n0 _ s₁.heap _
    rw [e0]
    exact ⟨rfl, N0, rfl⟩
def Q_rmI5 (Z : State)  (h0 : Heap) (n0 : Nat) (v : Option Value) (h : Heap) (L : List Loc) : Prop := v = some (.int (1 : Int32)) ∧ Fr n0 L ∧ h = h0
set_option maxRecDepth 65536 in
set_option maxHeartbeats 40000000 in
theorem rmI5 (l : Launch) (Z : State) (a0 : Array Value) (hw : ∀ d ∈ tables_1, d.before a0 Z = true) (ws : List Jvm.Cond)  (h0 : Heap) (n0 : Nat) (O0 : Old Z n0 h0) :
    MetFree l (⟨"java/lang/Integer", "numberOfTrailingZeros", "(I)I"⟩ : MethodName) (head1 (Jvm.Cond.code (⟨"java/lang/Integer", "numberOfTrailingZeros", "(I)I"⟩ : MethodName) jdk_33_method_48_code 2 (some .int) :: ws) ({ frames := 0, cells := 0, slots := 0, locals := 0 } : Room)) (fun a U => a = #[(.int (-6 : Int32))] ∧ Z.Warmed39 U.vm ∧ U.heap = h0) (fun _ _ _ _ _ => True) (fun _ U o U' => ∃ v L, o = .returned v ∧ Q_rmI5 Z  h0 n0 v U'.heap L ∧ FrameEnd U o U' L ({ frames := 0, cells := 0, slots := 0, locals := 0 } : Room).cells ({ frames := 0, cells := 0, slots := 0, locals := 0 } : Room).slots) := by
  refine MetFree.of_bodySF (plainFor_of_name pn_Integer) hisR ?_
  intro p e s m args below meth c s₁ Bd hml0 hP hK
  obtain ⟨rfl, hZ, hh⟩ := hP
  have hx := Bd.exec
  have hby := Bd.bytes
  have hml : c.maxLocals = 2 := hml0
  have hown : s.vm.findClass "java/lang/Integer" = some m.cls := findClass_of_methodNamed Bd.named
  have hnm := (name_of_methodNamed Bd.named Bd.method).1
  have X0 : Stand p l e ({ frames := 0, cells := 0, slots := 0, locals := 0 } : Room) s m #[(.int (-6 : Int32))] below meth c s₁ [] 0 0 := Stand.of_body Bd
  have e0 : s₁.heap = h0 := by rw [← hh, Bd.state]; rfl
  have N0 := Fr.nil n0
  obtain ⟨S0, hS0⟩ : ∃ z, z = s₁.setTop (entryFrame m #[(.int (-6 : Int32))] 2) := ⟨_, rfl⟩
  have k0 : Rch p e below S0 s₁ (mkF m 0 #[vI (-6), vU] []) := fun t kq => hS0 ▸ castTop (ef_7 m (-6 : Int32)) kq
  have k6 : Rch p e below S0 s₁ (mkF m 79 #[vI 1, vI 1] [(.int (1 : Int32))]) := fun t h => k0 t (by
      show Steps p.tables e below (s₁.setTop (mkF m 0 #[vI (-6), vU] [])) _
      refine XS.iloadN X0.here hx rfl (hb hby d7_0) rfl ?_
      refine XS.iconst X0.here hx rfl (hb hby d7_1) ?_
      show Steps p.tables e below (s₁.setTop (mkF m 2 #[vI (-6), vU] [(.int (-1 : Int32)), (.int (-6 : Int32))])) _
      refine XS.ixor X0.here hx rfl (hb hby d7_2) rfl ?_
      rw [(by decide : ((-6 : Int32) ^^^ (-1 : Int32)) = (5 : Int32))]
      refine XS.iloadN X0.here hx rfl (hb hby d7_3) rfl ?_
      refine XS.iconst X0.here hx rfl (hb hby d7_4) ?_
      show Steps p.tables e below (s₁.setTop (mkF m 5 #[vI (-6), vU] [(.int (1 : Int32)), (.int (-6 : Int32)), (.int (5 : Int32))])) _
      refine XS.isub X0.here hx rfl (hb hby d7_5) rfl ?_
      rw [(by decide : ((-6 : Int32) - (1 : Int32)) = (-7 : Int32))]
      show Steps p.tables e below (s₁.setTop (mkF m 6 #[vI (-6), vU] [(.int (-7 : Int32)), (.int (5 : Int32))])) _
      refine XS.iand X0.here hx rfl (hb hby d7_6) rfl ?_
      rw [(by decide : ((5 : Int32) &&& (-7 : Int32)) = (1 : Int32))]
      refine XS.istoreN X0.here hx rfl (hb hby d7_7) rfl (l' := #[vI 1, vU]) rfl ?_
      refine XS.iloadN X0.here hx rfl (hb hby d7_8) rfl ?_
      refine XS.ifYes X0.here hx rfl (pc0 := 9) (pc' := 17) rfl (hb hby d7_9) rfl ((if0 _ _).trans (tlt (by decide : (0 : Int32) < (1 : Int32))).2.2.1) (by decide) (by decide) ?_
      refine XS.iconst X0.here hx rfl (hb hby d7_17) ?_
      refine XS.istoreN X0.here hx rfl (hb hby d7_18) rfl (l' := #[vI 1, vI 1]) rfl ?_
      refine XS.iloadN X0.here hx rfl (hb hby d7_19) rfl ?_
      refine X0.ldcwInt hx hown (mvT hZ (hw _ (gm 54 rfl))) (g := (mkF m 20 #[vI 1, vI 1] [(.int (1 : Int32))])) rfl (hb hby d7_20) _ ?_
      refine XS.icmpYes X0.here hx rfl (pc0 := 23) (pc' := 34) rfl (hb hby d7_23) rfl (flt (by decide : ¬ ((65536 : Int32) < (1 : Int32)))).2.2.2 (by decide) (by decide) ?_
      refine XS.iloadN X0.here hx rfl (hb hby d7_34) rfl ?_
      refine XS.sipush X0.here hx rfl (hb hby d7_35) ?_
      refine XS.icmpYes X0.here hx rfl (pc0 := 38) (pc' := 49) rfl (hb hby d7_38) rfl (flt (by decide : ¬ ((256 : Int32) < (1 : Int32)))).2.2.2 (by decide) (by decide) ?_
      refine XS.iloadN X0.here hx rfl (hb hby d7_49) rfl ?_
      refine XS.bipush X0.here hx rfl (hb hby d7_50) ?_
      refine XS.icmpYes X0.here hx rfl (pc0 := 52) (pc' := 62) rfl (hb hby d7_52) rfl (flt (by decide : ¬ ((16 : Int32) < (1 : Int32)))).2.2.2 (by decide) (by decide) ?_
      refine XS.iloadN X0.here hx rfl (hb hby d7_62) rfl ?_
      refine XS.iconst X0.here hx rfl (hb hby d7_63) ?_
      refine XS.icmpYes X0.here hx rfl (pc0 := 64) (pc' := 74) rfl (hb hby d7_64) rfl (flt (by decide : ¬ ((4 : Int32) < (1 : Int32)))).2.2.2 (by decide) (by decide) ?_
      refine XS.iloadN X0.here hx rfl (hb hby d7_74) rfl ?_
      refine XS.iloadN X0.here hx rfl (hb hby d7_75) rfl ?_
      refine XS.iconst X0.here hx rfl (hb hby d7_76) ?_
      show Steps p.tables e below (s₁.setTop (mkF m 77 #[vI 1, vI 1] [(.int (1 : Int32)), (.int (1 : Int32)), (.int (1 : Int32))])) _
      refine XS.iushr X0.here hx rfl (hb hby d7_77) rfl ?_
      rw [(by decide : (((1 : Int32).toUInt32 >>> ((1 : Int32) &&& 31).toUInt32).toInt32) = (0 : Int32))]
      show Steps p.tables e below (s₁.setTop (mkF m 78 #[vI 1, vI 1] [(.int (0 : Int32)), (.int (1 : Int32))])) _
      refine XS.iadd X0.here hx rfl (hb hby d7_78) rfl ?_
      rw [(by decide : ((1 : Int32) + (0 : Int32)) = (1 : Int32))]
      exact h)
  obtain ⟨fs, hr, hrun, hended, hW, hsame⟩ := X0.leave (v := (some (.int (1 : Int32)))) (fun h => by rw [Bd.returns] at h; cases h)
  refine ⟨_, _, ?_, hrun, hended, _, _, rfl, ?_, ⟨_, rfl⟩, hW, hsame.mono (by decide) (by decide)⟩
  · rw [← hS0]
    refine k6 _ ?_
    show Steps p.tables e below (s₁.setTop (mkF m 79 #[vI 1, vI 1] [(.int (1 : Int32))])) _
    exact retI X0 hx Bd.returns (hb hby d7_79) hr
  · show Q_rmI5 Z  h0 n0 _ s₁.heap _
    rw [e0]
    exact ⟨rfl, N0, rfl⟩
def Q_rmI6 (Z : State)  (h0 : Heap) (n0 : Nat) (v : Option Value) (h : Heap) (L : List Loc) : Prop := v = some (.int (0 : Int32)) ∧ Fr n0 L ∧ h = h0
set_option maxRecDepth 65536 in
set_option maxHeartbeats 40000000 in
theorem rmI6 (l : Launch) (Z : State) (a0 : Array Value) (hw : ∀ d ∈ tables_1, d.before a0 Z = true) (ws : List Jvm.Cond)  (h0 : Heap) (n0 : Nat) (O0 : Old Z n0 h0) :
    MetFree l (⟨"java/lang/Integer", "numberOfTrailingZeros", "(I)I"⟩ : MethodName) (head1 (Jvm.Cond.code (⟨"java/lang/Integer", "numberOfTrailingZeros", "(I)I"⟩ : MethodName) jdk_33_method_48_code 2 (some .int) :: ws) ({ frames := 0, cells := 0, slots := 0, locals := 0 } : Room)) (fun a U => a = #[(.int (-7 : Int32))] ∧ Z.Warmed39 U.vm ∧ U.heap = h0) (fun _ _ _ _ _ => True) (fun _ U o U' => ∃ v L, o = .returned v ∧ Q_rmI6 Z  h0 n0 v U'.heap L ∧ FrameEnd U o U' L ({ frames := 0, cells := 0, slots := 0, locals := 0 } : Room).cells ({ frames := 0, cells := 0, slots := 0, locals := 0 } : Room).slots) := by
  refine MetFree.of_bodySF (plainFor_of_name pn_Integer) hisR ?_
  intro p e s m args below meth c s₁ Bd hml0 hP hK
  obtain ⟨rfl, hZ, hh⟩ := hP
  have hx := Bd.exec
  have hby := Bd.bytes
  have hml : c.maxLocals = 2 := hml0
  have hown : s.vm.findClass "java/lang/Integer" = some m.cls := findClass_of_methodNamed Bd.named
  have hnm := (name_of_methodNamed Bd.named Bd.method).1
  have X0 : Stand p l e ({ frames := 0, cells := 0, slots := 0, locals := 0 } : Room) s m #[(.int (-7 : Int32))] below meth c s₁ [] 0 0 := Stand.of_body Bd
  have e0 : s₁.heap = h0 := by rw [← hh, Bd.state]; rfl
  have N0 := Fr.nil n0
  obtain ⟨S0, hS0⟩ : ∃ z, z = s₁.setTop (entryFrame m #[(.int (-7 : Int32))] 2) := ⟨_, rfl⟩
  have k0 : Rch p e below S0 s₁ (mkF m 0 #[vI (-7), vU] []) := fun t kq => hS0 ▸ castTop (ef_7 m (-7 : Int32)) kq
  have k7 : Rch p e below S0 s₁ (mkF m 16 #[vI 0, vU] [(.int (0 : Int32))]) := fun t h => k0 t (by
      show Steps p.tables e below (s₁.setTop (mkF m 0 #[vI (-7), vU] [])) _
      refine XS.iloadN X0.here hx rfl (hb hby d7_0) rfl ?_
      refine XS.iconst X0.here hx rfl (hb hby d7_1) ?_
      show Steps p.tables e below (s₁.setTop (mkF m 2 #[vI (-7), vU] [(.int (-1 : Int32)), (.int (-7 : Int32))])) _
      refine XS.ixor X0.here hx rfl (hb hby d7_2) rfl ?_
      rw [(by decide : ((-7 : Int32) ^^^ (-1 : Int32)) = (6 : Int32))]
      refine XS.iloadN X0.here hx rfl (hb hby d7_3) rfl ?_
      refine XS.iconst X0.here hx rfl (hb hby d7_4) ?_
      show Steps p.tables e below (s₁.setTop (mkF m 5 #[vI (-7), vU] [(.int (1 : Int32)), (.int (-7 : Int32)), (.int (6 : Int32))])) _
      refine XS.isub X0.here hx rfl (hb hby d7_5) rfl ?_
      rw [(by decide : ((-7 : Int32) - (1 : Int32)) = (-8 : Int32))]
      show Steps p.tables e below (s₁.setTop (mkF m 6 #[vI (-7), vU] [(.int (-8 : Int32)), (.int (6 : Int32))])) _
      refine XS.iand X0.here hx rfl (hb hby d7_6) rfl ?_
      rw [(by decide : ((6 : Int32) &&& (-8 : Int32)) = (0 : Int32))]
      refine XS.istoreN X0.here hx rfl (hb hby d7_7) rfl (l' := #[vI 0, vU]) rfl ?_
      refine XS.iloadN X0.here hx rfl (hb hby d7_8) rfl ?_
      refine XS.ifNo X0.here hx rfl (hb hby d7_9) rfl ((if0 _ _).trans (flt (by decide : ¬ ((0 : Int32) < (0 : Int32)))).2.2.1) ?_
      refine XS.iloadN X0.here hx rfl (hb hby d7_12) rfl ?_
      refine XS.bipush X0.here hx rfl (hb hby d7_13) ?_
      show Steps p.tables e below (s₁.setTop (mkF m 15 #[vI 0, vU] [(.int (32 : Int32)), (.int (0 : Int32))])) _
      refine XS.iand X0.here hx rfl (hb hby d7_15) rfl ?_
      rw [(by decide : ((0 : Int32) &&& (32 : Int32)) = (0 : Int32))]
      exact h)
  obtain ⟨fs, hr, hrun, hended, hW, hsame⟩ := X0.leave (v := (some (.int (0 : Int32)))) (fun h => by rw [Bd.returns] at h; cases h)
  refine ⟨_, _, ?_, hrun, hended, _, _, rfl, ?_, ⟨_, rfl⟩, hW, hsame.mono (by decide) (by decide)⟩
  · rw [← hS0]
    refine k7 _ ?_
    show Steps p.tables e below (s₁.setTop (mkF m 16 #[vI 0, vU] [(.int (0 : Int32))])) _
    exact retI X0 hx Bd.returns (hb hby d7_16) hr
  · show Q_rmI6 Z  h0 n0 _ s₁.heap _
    rw [e0]
    exact ⟨rfl, N0, rfl⟩
def Q_rmI7 (Z : State)  (h0 : Heap) (n0 : Nat) (v : Option Value) (h : Heap) (L : List Loc) : Prop := v = some (.int (3 : Int32)) ∧ Fr n0 L ∧ h = h0
theorem d7_67 : decode jdk_33_method_48_code 67 = .ok (.iinc 1 2, 3) := by decide +kernel
theorem d7_70 : decode jdk_33_method_48_code 70 = .ok (.iload_n 0, 1) := by decide +kernel
theorem d7_71 : decode jdk_33_method_48_code 71 = .ok (.iconst 2, 1) := by decide +kernel
theorem d7_72 : decode jdk_33_method_48_code 72 = .ok (.iushr, 1) := by decide +kernel
theorem d7_73 : decode jdk_33_method_48_code 73 = .ok (.istore_n 0, 1) := by decide +kernel
set_option maxRecDepth 65536 in
set_option maxHeartbeats 40000000 in
theorem rmI7 (l : Launch) (Z : State) (a0 : Array Value) (hw : ∀ d ∈ tables_1, d.before a0 Z = true) (ws : List Jvm.Cond)  (h0 : Heap) (n0 : Nat) (O0 : Old Z n0 h0) :
    MetFree l (⟨"java/lang/Integer", "numberOfTrailingZeros", "(I)I"⟩ : MethodName) (head1 (Jvm.Cond.code (⟨"java/lang/Integer", "numberOfTrailingZeros", "(I)I"⟩ : MethodName) jdk_33_method_48_code 2 (some .int) :: ws) ({ frames := 0, cells := 0, slots := 0, locals := 0 } : Room)) (fun a U => a = #[(.int (-8 : Int32))] ∧ Z.Warmed39 U.vm ∧ U.heap = h0) (fun _ _ _ _ _ => True) (fun _ U o U' => ∃ v L, o = .returned v ∧ Q_rmI7 Z  h0 n0 v U'.heap L ∧ FrameEnd U o U' L ({ frames := 0, cells := 0, slots := 0, locals := 0 } : Room).cells ({ frames := 0, cells := 0, slots := 0, locals := 0 } : Room).slots) := by
  refine MetFree.of_bodySF (plainFor_of_name pn_Integer) hisR ?_
  intro p e s m args below meth c s₁ Bd hml0 hP hK
  obtain ⟨rfl, hZ, hh⟩ := hP
  have hx := Bd.exec
  have hby := Bd.bytes
  have hml : c.maxLocals = 2 := hml0
  have hown : s.vm.findClass "java/lang/Integer" = some m.cls := findClass_of_methodNamed Bd.named
  have hnm := (name_of_methodNamed Bd.named Bd.method).1
  have X0 : Stand p l e ({ frames := 0, cells := 0, slots := 0, locals := 0 } : Room) s m #[(.int (-8 : Int32))] below meth c s₁ [] 0 0 := Stand.of_body Bd
  have e0 : s₁.heap = h0 := by rw [← hh, Bd.state]; rfl
  have N0 := Fr.nil n0
  obtain ⟨S0, hS0⟩ : ∃ z, z = s₁.setTop (entryFrame m #[(.int (-8 : Int32))] 2) := ⟨_, rfl⟩
  have k0 : Rch p e below S0 s₁ (mkF m 0 #[vI (-8), vU] []) := fun t kq => hS0 ▸ castTop (ef_7 m (-8 : Int32)) kq
  have k8 : Rch p e below S0 s₁ (mkF m 79 #[vI 1, vI 3] [(.int (3 : Int32))]) := fun t h => k0 t (by
      show Steps p.tables e below (s₁.setTop (mkF m 0 #[vI (-8), vU] [])) _
      refine XS.iloadN X0.here hx rfl (hb hby d7_0) rfl ?_
      refine XS.iconst X0.here hx rfl (hb hby d7_1) ?_
      show Steps p.tables e below (s₁.setTop (mkF m 2 #[vI (-8), vU] [(.int (-1 : Int32)), (.int (-8 : Int32))])) _
      refine XS.ixor X0.here hx rfl (hb hby d7_2) rfl ?_
      rw [(by decide : ((-8 : Int32) ^^^ (-1 : Int32)) = (7 : Int32))]
      refine XS.iloadN X0.here hx rfl (hb hby d7_3) rfl ?_
      refine XS.iconst X0.here hx rfl (hb hby d7_4) ?_
      show Steps p.tables e below (s₁.setTop (mkF m 5 #[vI (-8), vU] [(.int (1 : Int32)), (.int (-8 : Int32)), (.int (7 : Int32))])) _
      refine XS.isub X0.here hx rfl (hb hby d7_5) rfl ?_
      rw [(by decide : ((-8 : Int32) - (1 : Int32)) = (-9 : Int32))]
      show Steps p.tables e below (s₁.setTop (mkF m 6 #[vI (-8), vU] [(.int (-9 : Int32)), (.int (7 : Int32))])) _
      refine XS.iand X0.here hx rfl (hb hby d7_6) rfl ?_
      rw [(by decide : ((7 : Int32) &&& (-9 : Int32)) = (7 : Int32))]
      refine XS.istoreN X0.here hx rfl (hb hby d7_7) rfl (l' := #[vI 7, vU]) rfl ?_
      refine XS.iloadN X0.here hx rfl (hb hby d7_8) rfl ?_
      refine XS.ifYes X0.here hx rfl (pc0 := 9) (pc' := 17) rfl (hb hby d7_9) rfl ((if0 _ _).trans (tlt (by decide : (0 : Int32) < (7 : Int32))).2.2.1) (by decide) (by decide) ?_
      refine XS.iconst X0.here hx rfl (hb hby d7_17) ?_
      refine XS.istoreN X0.here hx rfl (hb hby d7_18) rfl (l' := #[vI 7, vI 1]) rfl ?_
      refine XS.iloadN X0.here hx rfl (hb hby d7_19) rfl ?_
      refine X0.ldcwInt hx hown (mvT hZ (hw _ (gm 54 rfl))) (g := (mkF m 20 #[vI 7, vI 1] [(.int (7 : Int32))])) rfl (hb hby d7_20) _ ?_
      refine XS.icmpYes X0.here hx rfl (pc0 := 23) (pc' := 34) rfl (hb hby d7_23) rfl (flt (by decide : ¬ ((65536 : Int32) < (7 : Int32)))).2.2.2 (by decide) (by decide) ?_
      refine XS.iloadN X0.here hx rfl (hb hby d7_34) rfl ?_
      refine XS.sipush X0.here hx rfl (hb hby d7_35) ?_
      refine XS.icmpYes X0.here hx rfl (pc0 := 38) (pc' := 49) rfl (hb hby d7_38) rfl (flt (by decide : ¬ ((256 : Int32) < (7 : Int32)))).2.2.2 (by decide) (by decide) ?_
      refine XS.iloadN X0.here hx rfl (hb hby d7_49) rfl ?_
      refine XS.bipush X0.here hx rfl (hb hby d7_50) ?_
      refine XS.icmpYes X0.here hx rfl (pc0 := 52) (pc' := 62) rfl (hb hby d7_52) rfl (flt (by decide : ¬ ((16 : Int32) < (7 : Int32)))).2.2.2 (by decide) (by decide) ?_
      refine XS.iloadN X0.here hx rfl (hb hby d7_62) rfl ?_
      refine XS.iconst X0.here hx rfl (hb hby d7_63) ?_
      refine XS.icmpNo X0.here hx rfl (hb hby d7_64) rfl (tlt (by decide : (4 : Int32) < (7 : Int32))).2.2.2 ?_
      show Steps p.tables e below (s₁.setTop (mkF m 67 #[vI 7, vI 1] [])) _
      refine XS.iinc X0.here hx rfl (hb hby d7_67) rfl (l' := #[vI 7, vI ((1 : Int32) + (2 : Int32))]) rfl ?_
      rw [(by decide : ((1 : Int32) + (2 : Int32)) = (3 : Int32))]
      refine XS.iloadN X0.here hx rfl (hb hby d7_70) rfl ?_
      refine XS.iconst X0.here hx rfl (hb hby d7_71) ?_
      show Steps p.tables e below (s₁.setTop (mkF m 72 #[vI 7, vI 3] [(.int (2 : Int32)), (.int (7 : Int32))])) _
      refine XS.iushr X0.here hx rfl (hb hby d7_72) rfl ?_
      rw [(by decide : (((7 : Int32).toUInt32 >>> ((2 : Int32) &&& 31).toUInt32).toInt32) = (1 : Int32))]
      refine XS.istoreN X0.here hx rfl (hb hby d7_73) rfl (l' := #[vI 1, vI 3]) rfl ?_
      refine XS.iloadN X0.here hx rfl (hb hby d7_74) rfl ?_
      refine XS.iloadN X0.here hx rfl (hb hby d7_75) rfl ?_
      refine XS.iconst X0.here hx rfl (hb hby d7_76) ?_
      show Steps p.tables e below (s₁.setTop (mkF m 77 #[vI 1, vI 3] [(.int (1 : Int32)), (.int (1 : Int32)), (.int (3 : Int32))])) _
      refine XS.iushr X0.here hx rfl (hb hby d7_77) rfl ?_
      rw [(by decide : (((1 : Int32).toUInt32 >>> ((1 : Int32) &&& 31).toUInt32).toInt32) = (0 : Int32))]
      show Steps p.tables e below (s₁.setTop (mkF m 78 #[vI 1, vI 3] [(.int (0 : Int32)), (.int (3 : Int32))])) _
      refine XS.iadd X0.here hx rfl (hb hby d7_78) rfl ?_
      rw [(by decide : ((3 : Int32) + (0 : Int32)) = (3 : Int32))]
      exact h)
  obtain ⟨fs, hr, hrun, hended, hW, hsame⟩ := X0.leave (v := (some (.int (3 : Int32)))) (fun h => by rw [Bd.returns] at h; cases h)
  refine ⟨_, _, ?_, hrun, hended, _, _, rfl, ?_, ⟨_, rfl⟩, hW, hsame.mono (by decide) (by decide)⟩
  · rw [← hS0]
    refine k8 _ ?_
    show Steps p.tables e below (s₁.setTop (mkF m 79 #[vI 1, vI 3] [(.int (3 : Int32))])) _
    exact retI X0 hx Bd.returns (hb hby d7_79) hr
  · show Q_rmI7 Z  h0 n0 _ s₁.heap _
    rw [e0]
    exact ⟨rfl, N0, rfl⟩
def Q_rmL0 (Z : State)  (h0 : Heap) (n0 : Nat) (v : Option Value) (h : Heap) (L : List Loc) : Prop := v = some (.int (0 : Int32)) ∧ Fr n0 L ∧ h = h0
theorem ef_6 (m : MethodId) (x0 : Int64) : entryFrame m #[(.long x0)] 3 = mkF m 0 #[.val (.long x0), .second, .unset] [] := by first | (simp [entryFrame, mkF, argsToLocals, Value.category]; done) | rfl
theorem pn_Long : plainName "java/lang/Long" = true := by first | (simp [plainName, overriddenIn]; done) | decide +kernel
theorem d6_0 : decode jdk_35_method_49_code 0 = .ok (.lload_n 0, 1) := by decide +kernel
theorem d6_1 : decode jdk_35_method_49_code 1 = .ok (.l2i, 1) := by decide +kernel
theorem d6_2 : decode jdk_35_method_49_code 2 = .ok (.istore_n 2, 1) := by decide +kernel
theorem d6_3 : decode jdk_35_method_49_code 3 = .ok (.iload_n 2, 1) := by decide +kernel
theorem d6_4 : decode jdk_35_method_49_code 4 = .ok (.ifCond .ne 17, 3) := by decide +kernel
theorem d6_21 : decode jdk_35_method_49_code 21 = .ok (.iload_n 2, 1) := by decide +kernel
theorem pd_6 : parseMethodDescriptor "(I)I" = some ⟨[.int], some .int⟩ := by decide +kernel
theorem d6_22 : decode jdk_35_method_49_code 22 = .ok (.invokestatic 311, 3) := by decide +kernel
theorem d6_25 : decode jdk_35_method_49_code 25 = .ok (.ireturn, 1) := by decide +kernel
set_option maxRecDepth 65536 in
set_option maxHeartbeats 40000000 in
theorem rmL0 (l : Launch) (Z : State) (a0 : Array Value) (hw : ∀ d ∈ tables_1, d.before a0 Z = true) (ws : List Jvm.Cond)  (h0 : Heap) (n0 : Nat) (O0 : Old Z n0 h0) :
    MetFree l (⟨"java/lang/Long", "numberOfTrailingZeros", "(J)I"⟩ : MethodName) (head1 (Jvm.Cond.code (⟨"java/lang/Long", "numberOfTrailingZeros", "(J)I"⟩ : MethodName) jdk_35_method_49_code 3 (some .int) :: ws) ({ frames := 1, cells := 0, slots := 0, locals := 24 } : Room)) (fun a U => a = #[(.long ((0 : Int64) ^^^ (-1 : Int64)))] ∧ Z.Warmed39 U.vm ∧ U.heap = h0) (fun _ _ _ _ _ => True) (fun _ U o U' => ∃ v L, o = .returned v ∧ Q_rmL0 Z  h0 n0 v U'.heap L ∧ FrameEnd U o U' L ({ frames := 1, cells := 0, slots := 0, locals := 24 } : Room).cells ({ frames := 1, cells := 0, slots := 0, locals := 24 } : Room).slots) := by
  refine MetFree.of_bodySF (plainFor_of_name pn_Long) hisR ?_
  intro p e s m args below meth c s₁ Bd hml0 hP hK
  obtain ⟨rfl, hZ, hh⟩ := hP
  have hx := Bd.exec
  have hby := Bd.bytes
  have hml : c.maxLocals = 3 := hml0
  have hown : s.vm.findClass "java/lang/Long" = some m.cls := findClass_of_methodNamed Bd.named
  have hnm := (name_of_methodNamed Bd.named Bd.method).1
  have X0 : Stand p l e ({ frames := 1, cells := 0, slots := 0, locals := 24 } : Room) s m #[(.long ((0 : Int64) ^^^ (-1 : Int64)))] below meth c s₁ [] 0 0 := Stand.of_body Bd
  have e0 : s₁.heap = h0 := by rw [← hh, Bd.state]; rfl
  have N0 := Fr.nil n0
  obtain ⟨S0, hS0⟩ : ∃ z, z = s₁.setTop (entryFrame m #[(.long ((0 : Int64) ^^^ (-1 : Int64)))] 3) := ⟨_, rfl⟩
  have k0 : Rch p e below S0 s₁ (mkF m 0 #[.val (.long ((0 : Int64) ^^^ (-1 : Int64))), .second, vU] []) := fun t kq => hS0 ▸ castTop (ef_6 m ((0 : Int64) ^^^ (-1 : Int64))) kq
  have k9 : Rch p e below S0 s₁ (mkF m 22 #[.val (.long ((0 : Int64) ^^^ (-1 : Int64))), .second, vI (-1)] [(.int (-1 : Int32))]) := fun t h => k0 t (by
      show Steps p.tables e below (s₁.setTop (mkF m 0 #[.val (.long ((0 : Int64) ^^^ (-1 : Int64))), .second, vU] [])) _
      refine XS.lloadN X0.here hx rfl (hb hby d6_0) rfl ?_
      show Steps p.tables e below (s₁.setTop (mkF m 1 #[.val (.long ((0 : Int64) ^^^ (-1 : Int64))), .second, vU] [(.long ((0 : Int64) ^^^ (-1 : Int64)))])) _
      refine XS.l2i X0.here hx rfl (hb hby d6_1) rfl ?_
      rw [(by decide : (((0 : Int64) ^^^ (-1 : Int64)).toInt32) = (-1 : Int32))]
      refine XS.istoreN X0.here hx rfl (hb hby d6_2) rfl (l' := #[.val (.long ((0 : Int64) ^^^ (-1 : Int64))), .second, vI (-1)]) rfl ?_
      refine XS.iloadN X0.here hx rfl (hb hby d6_3) rfl ?_
      refine XS.ifYes X0.here hx rfl (pc0 := 4) (pc' := 21) rfl (hb hby d6_4) rfl ((if0 _ _).trans (feq (by decide : ¬ ((-1 : Int32) = (0 : Int32)))).2) (by decide) (by decide) ?_
      refine XS.iloadN X0.here hx rfl (hb hby d6_21) rfl ?_
      exact h)
  obtain ⟨_, _, ⟨T10, L10, kk10, n10⟩, -, X10, ⟨Lc10, hQ10, l10, y10, z10⟩, st10⟩ := Jvm.LawKit.callS X0 hx (y := (⟨"java/lang/Integer", "numberOfTrailingZeros", "(I)I"⟩ : MethodName)) hown (mvT hZ (hw _ (gm 42 rfl))) (mvT hZ (hw _ (gm 43 rfl))) (mvT hZ (hw _ (gm 44 rfl))) (mvT hZ (hw _ (gm 45 rfl))) (by decide) (backOf (W := 0) (rmI0 l Z a0 hw []   h0 n0 O0 ) hZ (hw _ (gm 45 rfl)) (hw _ (gm 44 rfl)) (by decide) (by decide)) (g := (mkF m 22 #[.val (.long ((0 : Int64) ^^^ (-1 : Int64))), .second, vI (-1)] [(.int (-1 : Int32))])) rfl (by rw [hml]; rfl) (argsL := [(.int (-1 : Int32))]) (rest := []) (lenOf pd_6 rfl) rfl (by show 2 * 0 + _ ≤ _; exact Nat.le_of_eq rfl) (hb hby d6_22) (fun _ _ => ⟨rfl, e0, (by decide : 0 + 0 ≤ _), (by decide : 0 + 0 ≤ _)⟩)
  dsimp only [Pt.U, Pt.locs, Pt.cells, Pt.slots] at X10 l10 y10 z10 st10 hQ10
  subst l10 y10 z10
  obtain ⟨rfl, Nq10, hh10⟩ := hQ10
  have N10 := Fr.app N0 Nq10
  have k11 : Rch p e below S0 T10 (mkF m 25 #[.val (.long ((0 : Int64) ^^^ (-1 : Int64))), .second, vI (-1)] [(.int (0 : Int32))]) := fun t h => k9 t (st10 t h)
  obtain ⟨fs, hr, hrun, hended, hW, hsame⟩ := X10.leave (v := (some (.int (0 : Int32)))) (fun h => by rw [Bd.returns] at h; cases h)
  refine ⟨_, _, ?_, hrun, hended, _, _, rfl, ?_, ⟨_, rfl⟩, hW, hsame.mono (by decide) (by decide)⟩
  · rw [← hS0]
    refine k11 _ ?_
    show Steps p.tables e below (T10.setTop (mkF m 25 #[.val (.long ((0 : Int64) ^^^ (-1 : Int64))), .second, vI (-1)] [(.int (0 : Int32))])) _
    exact retI X10 hx Bd.returns (hb hby d6_25) hr
  · show Q_rmL0 Z  h0 n0 _ T10.heap _
    rw [hh10]
    exact ⟨rfl, N10, rfl⟩
def Q_rmL1 (Z : State)  (h0 : Heap) (n0 : Nat) (v : Option Value) (h : Heap) (L : List Loc) : Prop := v = some (.int (1 : Int32)) ∧ Fr n0 L ∧ h = h0
set_option maxRecDepth 65536 in
set_option maxHeartbeats 40000000 in
theorem rmL1 (l : Launch) (Z : State) (a0 : Array Value) (hw : ∀ d ∈ tables_1, d.before a0 Z = true) (ws : List Jvm.Cond)  (h0 : Heap) (n0 : Nat) (O0 : Old Z n0 h0) :
    MetFree l (⟨"java/lang/Long", "numberOfTrailingZeros", "(J)I"⟩ : MethodName) (head1 (Jvm.Cond.code (⟨"java/lang/Long", "numberOfTrailingZeros", "(J)I"⟩ : MethodName) jdk_35_method_49_code 3 (some .int) :: ws) ({ frames := 1, cells := 0, slots := 0, locals := 24 } : Room)) (fun a U => a = #[(.long ((1 : Int64) ^^^ (-1 : Int64)))] ∧ Z.Warmed39 U.vm ∧ U.heap = h0) (fun _ _ _ _ _ => True) (fun _ U o U' => ∃ v L, o = .returned v ∧ Q_rmL1 Z  h0 n0 v U'.heap L ∧ FrameEnd U o U' L ({ frames := 1, cells := 0, slots := 0, locals := 24 } : Room).cells ({ frames := 1, cells := 0, slots := 0, locals := 24 } : Room).slots) := by
  refine MetFree.of_bodySF (plainFor_of_name pn_Long) hisR ?_
  intro p e s m args below meth c s₁ Bd hml0 hP hK
  obtain ⟨rfl, hZ, hh⟩ := hP
  have hx := Bd.exec
  have hby := Bd.bytes
  have hml : c.maxLocals = 3 := hml0
  have hown : s.vm.findClass "java/lang/Long" = some m.cls := findClass_of_methodNamed Bd.named
  have hnm := (name_of_methodNamed Bd.named Bd.method).1
  have X0 : Stand p l e ({ frames := 1, cells := 0, slots := 0, locals := 24 } : Room) s m #[(.long ((1 : Int64) ^^^ (-1 : Int64)))] below meth c s₁ [] 0 0 := Stand.of_body Bd
  have e0 : s₁.heap = h0 := by rw [← hh, Bd.state]; rfl
  have N0 := Fr.nil n0
  obtain ⟨S0, hS0⟩ : ∃ z, z = s₁.setTop (entryFrame m #[(.long ((1 : Int64) ^^^ (-1 : Int64)))] 3) := ⟨_, rfl⟩
  have k0 : Rch p e below S0 s₁ (mkF m 0 #[.val (.long ((1 : Int64) ^^^ (-1 : Int64))), .second, vU] []) := fun t kq => hS0 ▸ castTop (ef_6 m ((1 : Int64) ^^^ (-1 : Int64))) kq
  have k12 : Rch p e below S0 s₁ (mkF m 22 #[.val (.long ((1 : Int64) ^^^ (-1 : Int64))), .second, vI (-2)] [(.int (-2 : Int32))]) := fun t h => k0 t (by
      show Steps p.tables e below (s₁.setTop (mkF m 0 #[.val (.long ((1 : Int64) ^^^ (-1 : Int64))), .second, vU] [])) _
      refine XS.lloadN X0.here hx rfl (hb hby d6_0) rfl ?_
      show Steps p.tables e below (s₁.setTop (mkF m 1 #[.val (.long ((1 : Int64) ^^^ (-1 : Int64))), .second, vU] [(.long ((1 : Int64) ^^^ (-1 : Int64)))])) _
      refine XS.l2i X0.here hx rfl (hb hby d6_1) rfl ?_
      rw [(by decide : (((1 : Int64) ^^^ (-1 : Int64)).toInt32) = (-2 : Int32))]
      refine XS.istoreN X0.here hx rfl (hb hby d6_2) rfl (l' := #[.val (.long ((1 : Int64) ^^^ (-1 : Int64))), .second, vI (-2)]) rfl ?_
      refine XS.iloadN X0.here hx rfl (hb hby d6_3) rfl ?_
      refine XS.ifYes X0.here hx rfl (pc0 := 4) (pc' := 21) rfl (hb hby d6_4) rfl ((if0 _ _).trans (feq (by decide : ¬ ((-2 : Int32) = (0 : Int32)))).2) (by decide) (by decide) ?_
      refine XS.iloadN X0.here hx rfl (hb hby d6_21) rfl ?_
      exact h)
  obtain ⟨_, _, ⟨T13, L13, kk13, n13⟩, -, X13, ⟨Lc13, hQ13, l13, y13, z13⟩, st13⟩ := Jvm.LawKit.callS X0 hx (y := (⟨"java/lang/Integer", "numberOfTrailingZeros", "(I)I"⟩ : MethodName)) hown (mvT hZ (hw _ (gm 42 rfl))) (mvT hZ (hw _ (gm 43 rfl))) (mvT hZ (hw _ (gm 44 rfl))) (mvT hZ (hw _ (gm 45 rfl))) (by decide) (backOf (W := 0) (rmI1 l Z a0 hw []   h0 n0 O0 ) hZ (hw _ (gm 45 rfl)) (hw _ (gm 44 rfl)) (by decide) (by decide)) (g := (mkF m 22 #[.val (.long ((1 : Int64) ^^^ (-1 : Int64))), .second, vI (-2)] [(.int (-2 : Int32))])) rfl (by rw [hml]; rfl) (argsL := [(.int (-2 : Int32))]) (rest := []) (lenOf pd_6 rfl) rfl (by show 2 * 0 + _ ≤ _; exact Nat.le_of_eq rfl) (hb hby d6_22) (fun _ _ => ⟨rfl, e0, (by decide : 0 + 0 ≤ _), (by decide : 0 + 0 ≤ _)⟩)
  dsimp only [Pt.U, Pt.locs, Pt.cells, Pt.slots] at X13 l13 y13 z13 st13 hQ13
  subst l13 y13 z13
  obtain ⟨rfl, Nq13, hh13⟩ := hQ13
  have N13 := Fr.app N0 Nq13
  have k14 : Rch p e below S0 T13 (mkF m 25 #[.val (.long ((1 : Int64) ^^^ (-1 : Int64))), .second, vI (-2)] [(.int (1 : Int32))]) := fun t h => k12 t (st13 t h)
  obtain ⟨fs, hr, hrun, hended, hW, hsame⟩ := X13.leave (v := (some (.int (1 : Int32)))) (fun h => by rw [Bd.returns] at h; cases h)
  refine ⟨_, _, ?_, hrun, hended, _, _, rfl, ?_, ⟨_, rfl⟩, hW, hsame.mono (by decide) (by decide)⟩
  · rw [← hS0]
    refine k14 _ ?_
    show Steps p.tables e below (T13.setTop (mkF m 25 #[.val (.long ((1 : Int64) ^^^ (-1 : Int64))), .second, vI (-2)] [(.int (1 : Int32))])) _
    exact retI X13 hx Bd.returns (hb hby d6_25) hr
  · show Q_rmL1 Z  h0 n0 _ T13.heap _
    rw [hh13]
    exact ⟨rfl, N13, rfl⟩
def Q_rmL2 (Z : State)  (h0 : Heap) (n0 : Nat) (v : Option Value) (h : Heap) (L : List Loc) : Prop := v = some (.int (0 : Int32)) ∧ Fr n0 L ∧ h = h0
set_option maxRecDepth 65536 in
set_option maxHeartbeats 40000000 in
theorem rmL2 (l : Launch) (Z : State) (a0 : Array Value) (hw : ∀ d ∈ tables_1, d.before a0 Z = true) (ws : List Jvm.Cond)  (h0 : Heap) (n0 : Nat) (O0 : Old Z n0 h0) :
    MetFree l (⟨"java/lang/Long", "numberOfTrailingZeros", "(J)I"⟩ : MethodName) (head1 (Jvm.Cond.code (⟨"java/lang/Long", "numberOfTrailingZeros", "(J)I"⟩ : MethodName) jdk_35_method_49_code 3 (some .int) :: ws) ({ frames := 1, cells := 0, slots := 0, locals := 24 } : Room)) (fun a U => a = #[(.long ((2 : Int64) ^^^ (-1 : Int64)))] ∧ Z.Warmed39 U.vm ∧ U.heap = h0) (fun _ _ _ _ _ => True) (fun _ U o U' => ∃ v L, o = .returned v ∧ Q_rmL2 Z  h0 n0 v U'.heap L ∧ FrameEnd U o U' L ({ frames := 1, cells := 0, slots := 0, locals := 24 } : Room).cells ({ frames := 1, cells := 0, slots := 0, locals := 24 } : Room).slots) := by
  refine MetFree.of_bodySF (plainFor_of_name pn_Long) hisR ?_
  intro p e s m args below meth c s₁ Bd hml0 hP hK
  obtain ⟨rfl, hZ, hh⟩ := hP
  have hx := Bd.exec
  have hby := Bd.bytes
  have hml : c.maxLocals = 3 := hml0
  have hown : s.vm.findClass "java/lang/Long" = some m.cls := findClass_of_methodNamed Bd.named
  have hnm := (name_of_methodNamed Bd.named Bd.method).1
  have X0 : Stand p l e ({ frames := 1, cells := 0, slots := 0, locals := 24 } : Room) s m #[(.long ((2 : Int64) ^^^ (-1 : Int64)))] below meth c s₁ [] 0 0 := Stand.of_body Bd
  have e0 : s₁.heap = h0 := by rw [← hh, Bd.state]; rfl
  have N0 := Fr.nil n0
  obtain ⟨S0, hS0⟩ : ∃ z, z = s₁.setTop (entryFrame m #[(.long ((2 : Int64) ^^^ (-1 : Int64)))] 3) := ⟨_, rfl⟩
  have k0 : Rch p e below S0 s₁ (mkF m 0 #[.val (.long ((2 : Int64) ^^^ (-1 : Int64))), .second, vU] []) := fun t kq => hS0 ▸ castTop (ef_6 m ((2 : Int64) ^^^ (-1 : Int64))) kq
  have k15 : Rch p e below S0 s₁ (mkF m 22 #[.val (.long ((2 : Int64) ^^^ (-1 : Int64))), .second, vI (-3)] [(.int (-3 : Int32))]) := fun t h => k0 t (by
      show Steps p.tables e below (s₁.setTop (mkF m 0 #[.val (.long ((2 : Int64) ^^^ (-1 : Int64))), .second, vU] [])) _
      refine XS.lloadN X0.here hx rfl (hb hby d6_0) rfl ?_
      show Steps p.tables e below (s₁.setTop (mkF m 1 #[.val (.long ((2 : Int64) ^^^ (-1 : Int64))), .second, vU] [(.long ((2 : Int64) ^^^ (-1 : Int64)))])) _
      refine XS.l2i X0.here hx rfl (hb hby d6_1) rfl ?_
      rw [(by decide : (((2 : Int64) ^^^ (-1 : Int64)).toInt32) = (-3 : Int32))]
      refine XS.istoreN X0.here hx rfl (hb hby d6_2) rfl (l' := #[.val (.long ((2 : Int64) ^^^ (-1 : Int64))), .second, vI (-3)]) rfl ?_
      refine XS.iloadN X0.here hx rfl (hb hby d6_3) rfl ?_
      refine XS.ifYes X0.here hx rfl (pc0 := 4) (pc' := 21) rfl (hb hby d6_4) rfl ((if0 _ _).trans (feq (by decide : ¬ ((-3 : Int32) = (0 : Int32)))).2) (by decide) (by decide) ?_
      refine XS.iloadN X0.here hx rfl (hb hby d6_21) rfl ?_
      exact h)
  obtain ⟨_, _, ⟨T16, L16, kk16, n16⟩, -, X16, ⟨Lc16, hQ16, l16, y16, z16⟩, st16⟩ := Jvm.LawKit.callS X0 hx (y := (⟨"java/lang/Integer", "numberOfTrailingZeros", "(I)I"⟩ : MethodName)) hown (mvT hZ (hw _ (gm 42 rfl))) (mvT hZ (hw _ (gm 43 rfl))) (mvT hZ (hw _ (gm 44 rfl))) (mvT hZ (hw _ (gm 45 rfl))) (by decide) (backOf (W := 0) (rmI2 l Z a0 hw []   h0 n0 O0 ) hZ (hw _ (gm 45 rfl)) (hw _ (gm 44 rfl)) (by decide) (by decide)) (g := (mkF m 22 #[.val (.long ((2 : Int64) ^^^ (-1 : Int64))), .second, vI (-3)] [(.int (-3 : Int32))])) rfl (by rw [hml]; rfl) (argsL := [(.int (-3 : Int32))]) (rest := []) (lenOf pd_6 rfl) rfl (by show 2 * 0 + _ ≤ _; exact Nat.le_of_eq rfl) (hb hby d6_22) (fun _ _ => ⟨rfl, e0, (by decide : 0 + 0 ≤ _), (by decide : 0 + 0 ≤ _)⟩)
  dsimp only [Pt.U, Pt.locs, Pt.cells, Pt.slots] at X16 l16 y16 z16 st16 hQ16
  subst l16 y16 z16
  obtain ⟨rfl, Nq16, hh16⟩ := hQ16
  have N16 := Fr.app N0 Nq16
  have k17 : Rch p e below S0 T16 (mkF m 25 #[.val (.long ((2 : Int64) ^^^ (-1 : Int64))), .second, vI (-3)] [(.int (0 : Int32))]) := fun t h => k15 t (st16 t h)
  obtain ⟨fs, hr, hrun, hended, hW, hsame⟩ := X16.leave (v := (some (.int (0 : Int32)))) (fun h => by rw [Bd.returns] at h; cases h)
  refine ⟨_, _, ?_, hrun, hended, _, _, rfl, ?_, ⟨_, rfl⟩, hW, hsame.mono (by decide) (by decide)⟩
  · rw [← hS0]
    refine k17 _ ?_
    show Steps p.tables e below (T16.setTop (mkF m 25 #[.val (.long ((2 : Int64) ^^^ (-1 : Int64))), .second, vI (-3)] [(.int (0 : Int32))])) _
    exact retI X16 hx Bd.returns (hb hby d6_25) hr
  · show Q_rmL2 Z  h0 n0 _ T16.heap _
    rw [hh16]
    exact ⟨rfl, N16, rfl⟩
def Q_rmL3 (Z : State)  (h0 : Heap) (n0 : Nat) (v : Option Value) (h : Heap) (L : List Loc) : Prop := v = some (.int (2 : Int32)) ∧ Fr n0 L ∧ h = h0
set_option maxRecDepth 65536 in
set_option maxHeartbeats 40000000 in
theorem rmL3 (l : Launch) (Z : State) (a0 : Array Value) (hw : ∀ d ∈ tables_1, d.before a0 Z = true) (ws : List Jvm.Cond)  (h0 : Heap) (n0 : Nat) (O0 : Old Z n0 h0) :
    MetFree l (⟨"java/lang/Long", "numberOfTrailingZeros", "(J)I"⟩ : MethodName) (head1 (Jvm.Cond.code (⟨"java/lang/Long", "numberOfTrailingZeros", "(J)I"⟩ : MethodName) jdk_35_method_49_code 3 (some .int) :: ws) ({ frames := 1, cells := 0, slots := 0, locals := 24 } : Room)) (fun a U => a = #[(.long ((3 : Int64) ^^^ (-1 : Int64)))] ∧ Z.Warmed39 U.vm ∧ U.heap = h0) (fun _ _ _ _ _ => True) (fun _ U o U' => ∃ v L, o = .returned v ∧ Q_rmL3 Z  h0 n0 v U'.heap L ∧ FrameEnd U o U' L ({ frames := 1, cells := 0, slots := 0, locals := 24 } : Room).cells ({ frames := 1, cells := 0, slots := 0, locals := 24 } : Room).slots) := by
  refine MetFree.of_bodySF (plainFor_of_name pn_Long) hisR ?_
  intro p e s m args below meth c s₁ Bd hml0 hP hK
  obtain ⟨rfl, hZ, hh⟩ := hP
  have hx := Bd.exec
  have hby := Bd.bytes
  have hml : c.maxLocals = 3 := hml0
  have hown : s.vm.findClass "java/lang/Long" = some m.cls := findClass_of_methodNamed Bd.named
  have hnm := (name_of_methodNamed Bd.named Bd.method).1
  have X0 : Stand p l e ({ frames := 1, cells := 0, slots := 0, locals := 24 } : Room) s m #[(.long ((3 : Int64) ^^^ (-1 : Int64)))] below meth c s₁ [] 0 0 := Stand.of_body Bd
  have e0 : s₁.heap = h0 := by rw [← hh, Bd.state]; rfl
  have N0 := Fr.nil n0
  obtain ⟨S0, hS0⟩ : ∃ z, z = s₁.setTop (entryFrame m #[(.long ((3 : Int64) ^^^ (-1 : Int64)))] 3) := ⟨_, rfl⟩
  have k0 : Rch p e below S0 s₁ (mkF m 0 #[.val (.long ((3 : Int64) ^^^ (-1 : Int64))), .second, vU] []) := fun t kq => hS0 ▸ castTop (ef_6 m ((3 : Int64) ^^^ (-1 : Int64))) kq
  have k18 : Rch p e below S0 s₁ (mkF m 22 #[.val (.long ((3 : Int64) ^^^ (-1 : Int64))), .second, vI (-4)] [(.int (-4 : Int32))]) := fun t h => k0 t (by
      show Steps p.tables e below (s₁.setTop (mkF m 0 #[.val (.long ((3 : Int64) ^^^ (-1 : Int64))), .second, vU] [])) _
      refine XS.lloadN X0.here hx rfl (hb hby d6_0) rfl ?_
      show Steps p.tables e below (s₁.setTop (mkF m 1 #[.val (.long ((3 : Int64) ^^^ (-1 : Int64))), .second, vU] [(.long ((3 : Int64) ^^^ (-1 : Int64)))])) _
      refine XS.l2i X0.here hx rfl (hb hby d6_1) rfl ?_
      rw [(by decide : (((3 : Int64) ^^^ (-1 : Int64)).toInt32) = (-4 : Int32))]
      refine XS.istoreN X0.here hx rfl (hb hby d6_2) rfl (l' := #[.val (.long ((3 : Int64) ^^^ (-1 : Int64))), .second, vI (-4)]) rfl ?_
      refine XS.iloadN X0.here hx rfl (hb hby d6_3) rfl ?_
      refine XS.ifYes X0.here hx rfl (pc0 := 4) (pc' := 21) rfl (hb hby d6_4) rfl ((if0 _ _).trans (feq (by decide : ¬ ((-4 : Int32) = (0 : Int32)))).2) (by decide) (by decide) ?_
      refine XS.iloadN X0.here hx rfl (hb hby d6_21) rfl ?_
      exact h)
  obtain ⟨_, _, ⟨T19, L19, kk19, n19⟩, -, X19, ⟨Lc19, hQ19, l19, y19, z19⟩, st19⟩ := Jvm.LawKit.callS X0 hx (y := (⟨"java/lang/Integer", "numberOfTrailingZeros", "(I)I"⟩ : MethodName)) hown (mvT hZ (hw _ (gm 42 rfl))) (mvT hZ (hw _ (gm 43 rfl))) (mvT hZ (hw _ (gm 44 rfl))) (mvT hZ (hw _ (gm 45 rfl))) (by decide) (backOf (W := 0) (rmI3 l Z a0 hw []   h0 n0 O0 ) hZ (hw _ (gm 45 rfl)) (hw _ (gm 44 rfl)) (by decide) (by decide)) (g := (mkF m 22 #[.val (.long ((3 : Int64) ^^^ (-1 : Int64))), .second, vI (-4)] [(.int (-4 : Int32))])) rfl (by rw [hml]; rfl) (argsL := [(.int (-4 : Int32))]) (rest := []) (lenOf pd_6 rfl) rfl (by show 2 * 0 + _ ≤ _; exact Nat.le_of_eq rfl) (hb hby d6_22) (fun _ _ => ⟨rfl, e0, (by decide : 0 + 0 ≤ _), (by decide : 0 + 0 ≤ _)⟩)
  dsimp only [Pt.U, Pt.locs, Pt.cells, Pt.slots] at X19 l19 y19 z19 st19 hQ19
  subst l19 y19 z19
  obtain ⟨rfl, Nq19, hh19⟩ := hQ19
  have N19 := Fr.app N0 Nq19
  have k20 : Rch p e below S0 T19 (mkF m 25 #[.val (.long ((3 : Int64) ^^^ (-1 : Int64))), .second, vI (-4)] [(.int (2 : Int32))]) := fun t h => k18 t (st19 t h)
  obtain ⟨fs, hr, hrun, hended, hW, hsame⟩ := X19.leave (v := (some (.int (2 : Int32)))) (fun h => by rw [Bd.returns] at h; cases h)
  refine ⟨_, _, ?_, hrun, hended, _, _, rfl, ?_, ⟨_, rfl⟩, hW, hsame.mono (by decide) (by decide)⟩
  · rw [← hS0]
    refine k20 _ ?_
    show Steps p.tables e below (T19.setTop (mkF m 25 #[.val (.long ((3 : Int64) ^^^ (-1 : Int64))), .second, vI (-4)] [(.int (2 : Int32))])) _
    exact retI X19 hx Bd.returns (hb hby d6_25) hr
  · show Q_rmL3 Z  h0 n0 _ T19.heap _
    rw [hh19]
    exact ⟨rfl, N19, rfl⟩
def Q_rmL4 (Z : State)  (h0 : Heap) (n0 : Nat) (v : Option Value) (h : Heap) (L : List Loc) : Prop := v = some (.int (0 : Int32)) ∧ Fr n0 L ∧ h = h0
set_option maxRecDepth 65536 in
set_option maxHeartbeats 40000000 in
theorem rmL4 (l : Launch) (Z : State) (a0 : Array Value) (hw : ∀ d ∈ tables_1, d.before a0 Z = true) (ws : List Jvm.Cond)  (h0 : Heap) (n0 : Nat) (O0 : Old Z n0 h0) :
    MetFree l (⟨"java/lang/Long", "numberOfTrailingZeros", "(J)I"⟩ : MethodName) (head1 (Jvm.Cond.code (⟨"java/lang/Long", "numberOfTrailingZeros", "(J)I"⟩ : MethodName) jdk_35_method_49_code 3 (some .int) :: ws) ({ frames := 1, cells := 0, slots := 0, locals := 24 } : Room)) (fun a U => a = #[(.long ((4 : Int64) ^^^ (-1 : Int64)))] ∧ Z.Warmed39 U.vm ∧ U.heap = h0) (fun _ _ _ _ _ => True) (fun _ U o U' => ∃ v L, o = .returned v ∧ Q_rmL4 Z  h0 n0 v U'.heap L ∧ FrameEnd U o U' L ({ frames := 1, cells := 0, slots := 0, locals := 24 } : Room).cells ({ frames := 1, cells := 0, slots := 0, locals := 24 } : Room).slots) := by
  refine MetFree.of_bodySF (plainFor_of_name pn_Long) hisR ?_
  intro p e s m args below meth c s₁ Bd hml0 hP hK
  obtain ⟨rfl, hZ, hh⟩ := hP
  have hx := Bd.exec
  have hby := Bd.bytes
  have hml : c.maxLocals = 3 := hml0
  have hown : s.vm.findClass "java/lang/Long" = some m.cls := findClass_of_methodNamed Bd.named
  have hnm := (name_of_methodNamed Bd.named Bd.method).1
  have X0 : Stand p l e ({ frames := 1, cells := 0, slots := 0, locals := 24 } : Room) s m #[(.long ((4 : Int64) ^^^ (-1 : Int64)))] below meth c s₁ [] 0 0 := Stand.of_body Bd
  have e0 : s₁.heap = h0 := by rw [← hh, Bd.state]; rfl
  have N0 := Fr.nil n0
  obtain ⟨S0, hS0⟩ : ∃ z, z = s₁.setTop (entryFrame m #[(.long ((4 : Int64) ^^^ (-1 : Int64)))] 3) := ⟨_, rfl⟩
  have k0 : Rch p e below S0 s₁ (mkF m 0 #[.val (.long ((4 : Int64) ^^^ (-1 : Int64))), .second, vU] []) := fun t kq => hS0 ▸ castTop (ef_6 m ((4 : Int64) ^^^ (-1 : Int64))) kq
  have k21 : Rch p e below S0 s₁ (mkF m 22 #[.val (.long ((4 : Int64) ^^^ (-1 : Int64))), .second, vI (-5)] [(.int (-5 : Int32))]) := fun t h => k0 t (by
      show Steps p.tables e below (s₁.setTop (mkF m 0 #[.val (.long ((4 : Int64) ^^^ (-1 : Int64))), .second, vU] [])) _
      refine XS.lloadN X0.here hx rfl (hb hby d6_0) rfl ?_
      show Steps p.tables e below (s₁.setTop (mkF m 1 #[.val (.long ((4 : Int64) ^^^ (-1 : Int64))), .second, vU] [(.long ((4 : Int64) ^^^ (-1 : Int64)))])) _
      refine XS.l2i X0.here hx rfl (hb hby d6_1) rfl ?_
      rw [(by decide : (((4 : Int64) ^^^ (-1 : Int64)).toInt32) = (-5 : Int32))]
      refine XS.istoreN X0.here hx rfl (hb hby d6_2) rfl (l' := #[.val (.long ((4 : Int64) ^^^ (-1 : Int64))), .second, vI (-5)]) rfl ?_
      refine XS.iloadN X0.here hx rfl (hb hby d6_3) rfl ?_
      refine XS.ifYes X0.here hx rfl (pc0 := 4) (pc' := 21) rfl (hb hby d6_4) rfl ((if0 _ _).trans (feq (by decide : ¬ ((-5 : Int32) = (0 : Int32)))).2) (by decide) (by decide) ?_
      refine XS.iloadN X0.here hx rfl (hb hby d6_21) rfl ?_
      exact h)
  obtain ⟨_, _, ⟨T22, L22, kk22, n22⟩, -, X22, ⟨Lc22, hQ22, l22, y22, z22⟩, st22⟩ := Jvm.LawKit.callS X0 hx (y := (⟨"java/lang/Integer", "numberOfTrailingZeros", "(I)I"⟩ : MethodName)) hown (mvT hZ (hw _ (gm 42 rfl))) (mvT hZ (hw _ (gm 43 rfl))) (mvT hZ (hw _ (gm 44 rfl))) (mvT hZ (hw _ (gm 45 rfl))) (by decide) (backOf (W := 0) (rmI4 l Z a0 hw []   h0 n0 O0 ) hZ (hw _ (gm 45 rfl)) (hw _ (gm 44 rfl)) (by decide) (by decide)) (g := (mkF m 22 #[.val (.long ((4 : Int64) ^^^ (-1 : Int64))), .second, vI (-5)] [(.int (-5 : Int32))])) rfl (by rw [hml]; rfl) (argsL := [(.int (-5 : Int32))]) (rest := []) (lenOf pd_6 rfl) rfl (by show 2 * 0 + _ ≤ _; exact Nat.le_of_eq rfl) (hb hby d6_22) (fun _ _ => ⟨rfl, e0, (by decide : 0 + 0 ≤ _), (by decide : 0 + 0 ≤ _)⟩)
  dsimp only [Pt.U, Pt.locs, Pt.cells, Pt.slots] at X22 l22 y22 z22 st22 hQ22
  subst l22 y22 z22
  obtain ⟨rfl, Nq22, hh22⟩ := hQ22
  have N22 := Fr.app N0 Nq22
  have k23 : Rch p e below S0 T22 (mkF m 25 #[.val (.long ((4 : Int64) ^^^ (-1 : Int64))), .second, vI (-5)] [(.int (0 : Int32))]) := fun t h => k21 t (st22 t h)
  obtain ⟨fs, hr, hrun, hended, hW, hsame⟩ := X22.leave (v := (some (.int (0 : Int32)))) (fun h => by rw [Bd.returns] at h; cases h)
  refine ⟨_, _, ?_, hrun, hended, _, _, rfl, ?_, ⟨_, rfl⟩, hW, hsame.mono (by decide) (by decide)⟩
  · rw [← hS0]
    refine k23 _ ?_
    show Steps p.tables e below (T22.setTop (mkF m 25 #[.val (.long ((4 : Int64) ^^^ (-1 : Int64))), .second, vI (-5)] [(.int (0 : Int32))])) _
    exact retI X22 hx Bd.returns (hb hby d6_25) hr
  · show Q_rmL4 Z  h0 n0 _ T22.heap _
    rw [hh22]
    exact ⟨rfl, N22, rfl⟩
def Q_rmL5 (Z : State)  (h0 : Heap) (n0 : Nat) (v : Option Value) (h : Heap) (L : List Loc) : Prop := v = some (.int (1 : Int32)) ∧ Fr n0 L ∧ h = h0
set_option maxRecDepth 65536 in
set_option maxHeartbeats 40000000 in
theorem rmL5 (l : Launch) (Z : State) (a0 : Array Value) (hw : ∀ d ∈ tables_1, d.before a0 Z = true) (ws : List Jvm.Cond)  (h0 : Heap) (n0 : Nat) (O0 : Old Z n0 h0) :
    MetFree l (⟨"java/lang/Long", "numberOfTrailingZeros", "(J)I"⟩ : MethodName) (head1 (Jvm.Cond.code (⟨"java/lang/Long", "numberOfTrailingZeros", "(J)I"⟩ : MethodName) jdk_35_method_49_code 3 (some .int) :: ws) ({ frames := 1, cells := 0, slots := 0, locals := 24 } : Room)) (fun a U => a = #[(.long ((5 : Int64) ^^^ (-1 : Int64)))] ∧ Z.Warmed39 U.vm ∧ U.heap = h0) (fun _ _ _ _ _ => True) (fun _ U o U' => ∃ v L, o = .returned v ∧ Q_rmL5 Z  h0 n0 v U'.heap L ∧ FrameEnd U o U' L ({ frames := 1, cells := 0, slots := 0, locals := 24 } : Room).cells ({ frames := 1, cells := 0, slots := 0, locals := 24 } : Room).slots) := by
  refine MetFree.of_bodySF (plainFor_of_name pn_Long) hisR ?_
  intro p e s m args below meth c s₁ Bd hml0 hP hK
  obtain ⟨rfl, hZ, hh⟩ := hP
  have hx := Bd.exec
  have hby := Bd.bytes
  have hml : c.maxLocals = 3 := hml0
  have hown : s.vm.findClass "java/lang/Long" = some m.cls := findClass_of_methodNamed Bd.named
  have hnm := (name_of_methodNamed Bd.named Bd.method).1
  have X0 : Stand p l e ({ frames := 1, cells := 0, slots := 0, locals := 24 } : Room) s m #[(.long ((5 : Int64) ^^^ (-1 : Int64)))] below meth c s₁ [] 0 0 := Stand.of_body Bd
  have e0 : s₁.heap = h0 := by rw [← hh, Bd.state]; rfl
  have N0 := Fr.nil n0
  obtain ⟨S0, hS0⟩ : ∃ z, z = s₁.setTop (entryFrame m #[(.long ((5 : Int64) ^^^ (-1 : Int64)))] 3) := ⟨_, rfl⟩
  have k0 : Rch p e below S0 s₁ (mkF m 0 #[.val (.long ((5 : Int64) ^^^ (-1 : Int64))), .second, vU] []) := fun t kq => hS0 ▸ castTop (ef_6 m ((5 : Int64) ^^^ (-1 : Int64))) kq
  have k24 : Rch p e below S0 s₁ (mkF m 22 #[.val (.long ((5 : Int64) ^^^ (-1 : Int64))), .second, vI (-6)] [(.int (-6 : Int32))]) := fun t h => k0 t (by
      show Steps p.tables e below (s₁.setTop (mkF m 0 #[.val (.long ((5 : Int64) ^^^ (-1 : Int64))), .second, vU] [])) _
      refine XS.lloadN X0.here hx rfl (hb hby d6_0) rfl ?_
      show Steps p.tables e below (s₁.setTop (mkF m 1 #[.val (.long ((5 : Int64) ^^^ (-1 : Int64))), .second, vU] [(.long ((5 : Int64) ^^^ (-1 : Int64)))])) _
      refine XS.l2i X0.here hx rfl (hb hby d6_1) rfl ?_
      rw [(by decide : (((5 : Int64) ^^^ (-1 : Int64)).toInt32) = (-6 : Int32))]
      refine XS.istoreN X0.here hx rfl (hb hby d6_2) rfl (l' := #[.val (.long ((5 : Int64) ^^^ (-1 : Int64))), .second, vI (-6)]) rfl ?_
      refine XS.iloadN X0.here hx rfl (hb hby d6_3) rfl ?_
      refine XS.ifYes X0.here hx rfl (pc0 := 4) (pc' := 21) rfl (hb hby d6_4) rfl ((if0 _ _).trans (feq (by decide : ¬ ((-6 : Int32) = (0 : Int32)))).2) (by decide) (by decide) ?_
      refine XS.iloadN X0.here hx rfl (hb hby d6_21) rfl ?_
      exact h)
  obtain ⟨_, _, ⟨T25, L25, kk25, n25⟩, -, X25, ⟨Lc25, hQ25, l25, y25, z25⟩, st25⟩ := Jvm.LawKit.callS X0 hx (y := (⟨"java/lang/Integer", "numberOfTrailingZeros", "(I)I"⟩ : MethodName)) hown (mvT hZ (hw _ (gm 42 rfl))) (mvT hZ (hw _ (gm 43 rfl))) (mvT hZ (hw _ (gm 44 rfl))) (mvT hZ (hw _ (gm 45 rfl))) (by decide) (backOf (W := 0) (rmI5 l Z a0 hw []   h0 n0 O0 ) hZ (hw _ (gm 45 rfl)) (hw _ (gm 44 rfl)) (by decide) (by decide)) (g := (mkF m 22 #[.val (.long ((5 : Int64) ^^^ (-1 : Int64))), .second, vI (-6)] [(.int (-6 : Int32))])) rfl (by rw [hml]; rfl) (argsL := [(.int (-6 : Int32))]) (rest := []) (lenOf pd_6 rfl) rfl (by show 2 * 0 + _ ≤ _; exact Nat.le_of_eq rfl) (hb hby d6_22) (fun _ _ => ⟨rfl, e0, (by decide : 0 + 0 ≤ _), (by decide : 0 + 0 ≤ _)⟩)
  dsimp only [Pt.U, Pt.locs, Pt.cells, Pt.slots] at X25 l25 y25 z25 st25 hQ25
  subst l25 y25 z25
  obtain ⟨rfl, Nq25, hh25⟩ := hQ25
  have N25 := Fr.app N0 Nq25
  have k26 : Rch p e below S0 T25 (mkF m 25 #[.val (.long ((5 : Int64) ^^^ (-1 : Int64))), .second, vI (-6)] [(.int (1 : Int32))]) := fun t h => k24 t (st25 t h)
  obtain ⟨fs, hr, hrun, hended, hW, hsame⟩ := X25.leave (v := (some (.int (1 : Int32)))) (fun h => by rw [Bd.returns] at h; cases h)
  refine ⟨_, _, ?_, hrun, hended, _, _, rfl, ?_, ⟨_, rfl⟩, hW, hsame.mono (by decide) (by decide)⟩
  · rw [← hS0]
    refine k26 _ ?_
    show Steps p.tables e below (T25.setTop (mkF m 25 #[.val (.long ((5 : Int64) ^^^ (-1 : Int64))), .second, vI (-6)] [(.int (1 : Int32))])) _
    exact retI X25 hx Bd.returns (hb hby d6_25) hr
  · show Q_rmL5 Z  h0 n0 _ T25.heap _
    rw [hh25]
    exact ⟨rfl, N25, rfl⟩
def Q_rmL6 (Z : State)  (h0 : Heap) (n0 : Nat) (v : Option Value) (h : Heap) (L : List Loc) : Prop := v = some (.int (0 : Int32)) ∧ Fr n0 L ∧ h = h0
set_option maxRecDepth 65536 in
set_option maxHeartbeats 40000000 in
theorem rmL6 (l : Launch) (Z : State) (a0 : Array Value) (hw : ∀ d ∈ tables_1, d.before a0 Z = true) (ws : List Jvm.Cond)  (h0 : Heap) (n0 : Nat) (O0 : Old Z n0 h0) :
    MetFree l (⟨"java/lang/Long", "numberOfTrailingZeros", "(J)I"⟩ : MethodName) (head1 (Jvm.Cond.code (⟨"java/lang/Long", "numberOfTrailingZeros", "(J)I"⟩ : MethodName) jdk_35_method_49_code 3 (some .int) :: ws) ({ frames := 1, cells := 0, slots := 0, locals := 24 } : Room)) (fun a U => a = #[(.long ((6 : Int64) ^^^ (-1 : Int64)))] ∧ Z.Warmed39 U.vm ∧ U.heap = h0) (fun _ _ _ _ _ => True) (fun _ U o U' => ∃ v L, o = .returned v ∧ Q_rmL6 Z  h0 n0 v U'.heap L ∧ FrameEnd U o U' L ({ frames := 1, cells := 0, slots := 0, locals := 24 } : Room).cells ({ frames := 1, cells := 0, slots := 0, locals := 24 } : Room).slots) := by
  refine MetFree.of_bodySF (plainFor_of_name pn_Long) hisR ?_
  intro p e s m args below meth c s₁ Bd hml0 hP hK
  obtain ⟨rfl, hZ, hh⟩ := hP
  have hx := Bd.exec
  have hby := Bd.bytes
  have hml : c.maxLocals = 3 := hml0
  have hown : s.vm.findClass "java/lang/Long" = some m.cls := findClass_of_methodNamed Bd.named
  have hnm := (name_of_methodNamed Bd.named Bd.method).1
  have X0 : Stand p l e ({ frames := 1, cells := 0, slots := 0, locals := 24 } : Room) s m #[(.long ((6 : Int64) ^^^ (-1 : Int64)))] below meth c s₁ [] 0 0 := Stand.of_body Bd
  have e0 : s₁.heap = h0 := by rw [← hh, Bd.state]; rfl
  have N0 := Fr.nil n0
  obtain ⟨S0, hS0⟩ : ∃ z, z = s₁.setTop (entryFrame m #[(.long ((6 : Int64) ^^^ (-1 : Int64)))] 3) := ⟨_, rfl⟩
  have k0 : Rch p e below S0 s₁ (mkF m 0 #[.val (.long ((6 : Int64) ^^^ (-1 : Int64))), .second, vU] []) := fun t kq => hS0 ▸ castTop (ef_6 m ((6 : Int64) ^^^ (-1 : Int64))) kq
  have k27 : Rch p e below S0 s₁ (mkF m 22 #[.val (.long ((6 : Int64) ^^^ (-1 : Int64))), .second, vI (-7)] [(.int (-7 : Int32))]) := fun t h => k0 t (by
      show Steps p.tables e below (s₁.setTop (mkF m 0 #[.val (.long ((6 : Int64) ^^^ (-1 : Int64))), .second, vU] [])) _
      refine XS.lloadN X0.here hx rfl (hb hby d6_0) rfl ?_
      show Steps p.tables e below (s₁.setTop (mkF m 1 #[.val (.long ((6 : Int64) ^^^ (-1 : Int64))), .second, vU] [(.long ((6 : Int64) ^^^ (-1 : Int64)))])) _
      refine XS.l2i X0.here hx rfl (hb hby d6_1) rfl ?_
      rw [(by decide : (((6 : Int64) ^^^ (-1 : Int64)).toInt32) = (-7 : Int32))]
      refine XS.istoreN X0.here hx rfl (hb hby d6_2) rfl (l' := #[.val (.long ((6 : Int64) ^^^ (-1 : Int64))), .second, vI (-7)]) rfl ?_
      refine XS.iloadN X0.here hx rfl (hb hby d6_3) rfl ?_
      refine XS.ifYes X0.here hx rfl (pc0 := 4) (pc' := 21) rfl (hb hby d6_4) rfl ((if0 _ _).trans (feq (by decide : ¬ ((-7 : Int32) = (0 : Int32)))).2) (by decide) (by decide) ?_
      refine XS.iloadN X0.here hx rfl (hb hby d6_21) rfl ?_
      exact h)
  obtain ⟨_, _, ⟨T28, L28, kk28, n28⟩, -, X28, ⟨Lc28, hQ28, l28, y28, z28⟩, st28⟩ := Jvm.LawKit.callS X0 hx (y := (⟨"java/lang/Integer", "numberOfTrailingZeros", "(I)I"⟩ : MethodName)) hown (mvT hZ (hw _ (gm 42 rfl))) (mvT hZ (hw _ (gm 43 rfl))) (mvT hZ (hw _ (gm 44 rfl))) (mvT hZ (hw _ (gm 45 rfl))) (by decide) (backOf (W := 0) (rmI6 l Z a0 hw []   h0 n0 O0 ) hZ (hw _ (gm 45 rfl)) (hw _ (gm 44 rfl)) (by decide) (by decide)) (g := (mkF m 22 #[.val (.long ((6 : Int64) ^^^ (-1 : Int64))), .second, vI (-7)] [(.int (-7 : Int32))])) rfl (by rw [hml]; rfl) (argsL := [(.int (-7 : Int32))]) (rest := []) (lenOf pd_6 rfl) rfl (by show 2 * 0 + _ ≤ _; exact Nat.le_of_eq rfl) (hb hby d6_22) (fun _ _ => ⟨rfl, e0, (by decide : 0 + 0 ≤ _), (by decide : 0 + 0 ≤ _)⟩)
  dsimp only [Pt.U, Pt.locs, Pt.cells, Pt.slots] at X28 l28 y28 z28 st28 hQ28
  subst l28 y28 z28
  obtain ⟨rfl, Nq28, hh28⟩ := hQ28
  have N28 := Fr.app N0 Nq28
  have k29 : Rch p e below S0 T28 (mkF m 25 #[.val (.long ((6 : Int64) ^^^ (-1 : Int64))), .second, vI (-7)] [(.int (0 : Int32))]) := fun t h => k27 t (st28 t h)
  obtain ⟨fs, hr, hrun, hended, hW, hsame⟩ := X28.leave (v := (some (.int (0 : Int32)))) (fun h => by rw [Bd.returns] at h; cases h)
  refine ⟨_, _, ?_, hrun, hended, _, _, rfl, ?_, ⟨_, rfl⟩, hW, hsame.mono (by decide) (by decide)⟩
  · rw [← hS0]
    refine k29 _ ?_
    show Steps p.tables e below (T28.setTop (mkF m 25 #[.val (.long ((6 : Int64) ^^^ (-1 : Int64))), .second, vI (-7)] [(.int (0 : Int32))])) _
    exact retI X28 hx Bd.returns (hb hby d6_25) hr
  · show Q_rmL6 Z  h0 n0 _ T28.heap _
    rw [hh28]
    exact ⟨rfl, N28, rfl⟩
def Q_rmL7 (Z : State)  (h0 : Heap) (n0 : Nat) (v : Option Value) (h : Heap) (L : List Loc) : Prop := v = some (.int (3 : Int32)) ∧ Fr n0 L ∧ h = h0
set_option maxRecDepth 65536 in
set_option maxHeartbeats 40000000 in
theorem rmL7 (l : Launch) (Z : State) (a0 : Array Value) (hw : ∀ d ∈ tables_1, d.before a0 Z = true) (ws : List Jvm.Cond)  (h0 : Heap) (n0 : Nat) (O0 : Old Z n0 h0) :
    MetFree l (⟨"java/lang/Long", "numberOfTrailingZeros", "(J)I"⟩ : MethodName) (head1 (Jvm.Cond.code (⟨"java/lang/Long", "numberOfTrailingZeros", "(J)I"⟩ : MethodName) jdk_35_method_49_code 3 (some .int) :: ws) ({ frames := 1, cells := 0, slots := 0, locals := 24 } : Room)) (fun a U => a = #[(.long ((7 : Int64) ^^^ (-1 : Int64)))] ∧ Z.Warmed39 U.vm ∧ U.heap = h0) (fun _ _ _ _ _ => True) (fun _ U o U' => ∃ v L, o = .returned v ∧ Q_rmL7 Z  h0 n0 v U'.heap L ∧ FrameEnd U o U' L ({ frames := 1, cells := 0, slots := 0, locals := 24 } : Room).cells ({ frames := 1, cells := 0, slots := 0, locals := 24 } : Room).slots) := by
  refine MetFree.of_bodySF (plainFor_of_name pn_Long) hisR ?_
  intro p e s m args below meth c s₁ Bd hml0 hP hK
  obtain ⟨rfl, hZ, hh⟩ := hP
  have hx := Bd.exec
  have hby := Bd.bytes
  have hml : c.maxLocals = 3 := hml0
  have hown : s.vm.findClass "java/lang/Long" = some m.cls := findClass_of_methodNamed Bd.named
  have hnm := (name_of_methodNamed Bd.named Bd.method).1
  have X0 : Stand p l e ({ frames := 1, cells := 0, slots := 0, locals := 24 } : Room) s m #[(.long ((7 : Int64) ^^^ (-1 : Int64)))] below meth c s₁ [] 0 0 := Stand.of_body Bd
  have e0 : s₁.heap = h0 := by rw [← hh, Bd.state]; rfl
  have N0 := Fr.nil n0
  obtain ⟨S0, hS0⟩ : ∃ z, z = s₁.setTop (entryFrame m #[(.long ((7 : Int64) ^^^ (-1 : Int64)))] 3) := ⟨_, rfl⟩
  have k0 : Rch p e below S0 s₁ (mkF m 0 #[.val (.long ((7 : Int64) ^^^ (-1 : Int64))), .second, vU] []) := fun t kq => hS0 ▸ castTop (ef_6 m ((7 : Int64) ^^^ (-1 : Int64))) kq
  have k30 : Rch p e below S0 s₁ (mkF m 22 #[.val (.long ((7 : Int64) ^^^ (-1 : Int64))), .second, vI (-8)] [(.int (-8 : Int32))]) := fun t h => k0 t (by
      show Steps p.tables e below (s₁.setTop (mkF m 0 #[.val (.long ((7 : Int64) ^^^ (-1 : Int64))), .second, vU] [])) _
      refine XS.lloadN X0.here hx rfl (hb hby d6_0) rfl ?_
      show Steps p.tables e below (s₁.setTop (mkF m 1 #[.val (.long ((7 : Int64) ^^^ (-1 : Int64))), .second, vU] [(.long ((7 : Int64) ^^^ (-1 : Int64)))])) _
      refine XS.l2i X0.here hx rfl (hb hby d6_1) rfl ?_
      rw [(by decide : (((7 : Int64) ^^^ (-1 : Int64)).toInt32) = (-8 : Int32))]
      refine XS.istoreN X0.here hx rfl (hb hby d6_2) rfl (l' := #[.val (.long ((7 : Int64) ^^^ (-1 : Int64))), .second, vI (-8)]) rfl ?_
      refine XS.iloadN X0.here hx rfl (hb hby d6_3) rfl ?_
      refine XS.ifYes X0.here hx rfl (pc0 := 4) (pc' := 21) rfl (hb hby d6_4) rfl ((if0 _ _).trans (feq (by decide : ¬ ((-8 : Int32) = (0 : Int32)))).2) (by decide) (by decide) ?_
      refine XS.iloadN X0.here hx rfl (hb hby d6_21) rfl ?_
      exact h)
  obtain ⟨_, _, ⟨T31, L31, kk31, n31⟩, -, X31, ⟨Lc31, hQ31, l31, y31, z31⟩, st31⟩ := Jvm.LawKit.callS X0 hx (y := (⟨"java/lang/Integer", "numberOfTrailingZeros", "(I)I"⟩ : MethodName)) hown (mvT hZ (hw _ (gm 42 rfl))) (mvT hZ (hw _ (gm 43 rfl))) (mvT hZ (hw _ (gm 44 rfl))) (mvT hZ (hw _ (gm 45 rfl))) (by decide) (backOf (W := 0) (rmI7 l Z a0 hw []   h0 n0 O0 ) hZ (hw _ (gm 45 rfl)) (hw _ (gm 44 rfl)) (by decide) (by decide)) (g := (mkF m 22 #[.val (.long ((7 : Int64) ^^^ (-1 : Int64))), .second, vI (-8)] [(.int (-8 : Int32))])) rfl (by rw [hml]; rfl) (argsL := [(.int (-8 : Int32))]) (rest := []) (lenOf pd_6 rfl) rfl (by show 2 * 0 + _ ≤ _; exact Nat.le_of_eq rfl) (hb hby d6_22) (fun _ _ => ⟨rfl, e0, (by decide : 0 + 0 ≤ _), (by decide : 0 + 0 ≤ _)⟩)
  dsimp only [Pt.U, Pt.locs, Pt.cells, Pt.slots] at X31 l31 y31 z31 st31 hQ31
  subst l31 y31 z31
  obtain ⟨rfl, Nq31, hh31⟩ := hQ31
  have N31 := Fr.app N0 Nq31
  have k32 : Rch p e below S0 T31 (mkF m 25 #[.val (.long ((7 : Int64) ^^^ (-1 : Int64))), .second, vI (-8)] [(.int (3 : Int32))]) := fun t h => k30 t (st31 t h)
  obtain ⟨fs, hr, hrun, hended, hW, hsame⟩ := X31.leave (v := (some (.int (3 : Int32)))) (fun h => by rw [Bd.returns] at h; cases h)
  refine ⟨_, _, ?_, hrun, hended, _, _, rfl, ?_, ⟨_, rfl⟩, hW, hsame.mono (by decide) (by decide)⟩
  · rw [← hS0]
    refine k32 _ ?_
    show Steps p.tables e below (T31.setTop (mkF m 25 #[.val (.long ((7 : Int64) ^^^ (-1 : Int64))), .second, vI (-8)] [(.int (3 : Int32))])) _
    exact retI X31 hx Bd.returns (hb hby d6_25) hr
  · show Q_rmL7 Z  h0 n0 _ T31.heap _
    rw [hh31]
    exact ⟨rfl, N31, rfl⟩
def Q_rmNT (Z : State) (r : Int32) (h0 : Heap) (n0 : Nat) (v : Option Value) (h : Heap) (L : List Loc) : Prop := v = some (.int r) ∧ Fr n0 L ∧ h = h0
theorem rmNT (l : Launch) (Z : State) (a0 : Array Value) (hw : ∀ d ∈ tables_1, d.before a0 Z = true) (ws : List Jvm.Cond) (u : Int64) (r : Int32) (h0 : Heap) (n0 : Nat) (O0 : Old Z n0 h0) (hN : NT u r) :
    MetFree l (⟨"java/lang/Long", "numberOfTrailingZeros", "(J)I"⟩ : MethodName) (head1 (Jvm.Cond.code (⟨"java/lang/Long", "numberOfTrailingZeros", "(J)I"⟩ : MethodName) jdk_35_method_49_code 3 (some .int) :: ws) ({ frames := 1, cells := 0, slots := 0, locals := 24 } : Room)) (fun a U => a = #[(.long (u ^^^ (-1 : Int64)))] ∧ Z.Warmed39 U.vm ∧ U.heap = h0) (fun _ _ _ _ _ => True) (fun _ U o U' => ∃ v L, o = .returned v ∧ Q_rmNT Z r h0 n0 v U'.heap L ∧ FrameEnd U o U' L ({ frames := 1, cells := 0, slots := 0, locals := 24 } : Room).cells ({ frames := 1, cells := 0, slots := 0, locals := 24 } : Room).slots) := by
  rcases hN with ⟨rfl, rfl⟩ | ⟨rfl, rfl⟩ | ⟨rfl, rfl⟩ | ⟨rfl, rfl⟩ | ⟨rfl, rfl⟩ | ⟨rfl, rfl⟩ | ⟨rfl, rfl⟩ | ⟨rfl, rfl⟩
  · exact rmL0 l Z a0 hw ws h0 n0 O0
  · exact rmL1 l Z a0 hw ws h0 n0 O0
  · exact rmL2 l Z a0 hw ws h0 n0 O0
  · exact rmL3 l Z a0 hw ws h0 n0 O0
  · exact rmL4 l Z a0 hw ws h0 n0 O0
  · exact rmL5 l Z a0 hw ws h0 n0 O0
  · exact rmL6 l Z a0 hw ws h0 n0 O0
  · exact rmL7 l Z a0 hw ws h0 n0 O0
def Q_rmF_A1 (Z : State) (lo : Int32) (h0 : Heap) (n0 : Nat) (v : Option Value) (h : Heap) (L : List Loc) : Prop := v = some (.int lo) ∧ Fr n0 L ∧ h = h0
theorem ef_5 (m : MethodId) (x0 : Addr) (x1 : Addr) (x2 : Int32) (x3 : Int32) : entryFrame m #[(.ref x0), (.ref x1), (.int x2), (.int x3)] 9 = mkF m 0 #[.val (.ref x0), .val (.ref x1), .val (.int x2), .val (.int x3), .unset, .unset, .unset, .unset, .unset] [] := by first | (simp [entryFrame, mkF, argsToLocals, Value.category]; done) | rfl
theorem pn_Wavelengths : plainName "com/example/lumenplan/lumenplan/simulation/Wavelengths" = true := by first | (simp [plainName, overriddenIn]; done) | decide +kernel
theorem d5_0 : decode prog_37_method_4_code 0 = .ok (.iconst 0, 1) := by decide +kernel
theorem d5_1 : decode prog_37_method_4_code 1 = .ok (.istore 4, 2) := by decide +kernel
theorem d5_3 : decode prog_37_method_4_code 3 = .ok (.iload 4, 2) := by decide +kernel
theorem d5_5 : decode prog_37_method_4_code 5 = .ok (.aload_n 0, 1) := by decide +kernel
theorem d5_6 : decode prog_37_method_4_code 6 = .ok (.getfield 17, 3) := by decide +kernel
theorem d5_9 : decode prog_37_method_4_code 9 = .ok (.if_icmp .ge 102, 3) := by decide +kernel
theorem d5_12 : decode prog_37_method_4_code 12 = .ok (.lconst 0, 1) := by decide +kernel
theorem d5_13 : decode prog_37_method_4_code 13 = .ok (.lstore 5, 2) := by decide +kernel
theorem d5_15 : decode prog_37_method_4_code 15 = .ok (.iload_n 2, 1) := by decide +kernel
theorem d5_16 : decode prog_37_method_4_code 16 = .ok (.istore 7, 2) := by decide +kernel
theorem d5_18 : decode prog_37_method_4_code 18 = .ok (.iload 7, 2) := by decide +kernel
theorem d5_20 : decode prog_37_method_4_code 20 = .ok (.iload_n 3, 1) := by decide +kernel
theorem d5_21 : decode prog_37_method_4_code 21 = .ok (.if_icmp .ge 42, 3) := by decide +kernel
theorem d5_24 : decode prog_37_method_4_code 24 = .ok (.aload_n 0, 1) := by decide +kernel
theorem d5_25 : decode prog_37_method_4_code 25 = .ok (.getfield 22, 3) := by decide +kernel
theorem d5_28 : decode prog_37_method_4_code 28 = .ok (.aload_n 1, 1) := by decide +kernel
theorem d5_29 : decode prog_37_method_4_code 29 = .ok (.iload 7, 2) := by decide +kernel
theorem d5_31 : decode prog_37_method_4_code 31 = .ok (.iaload, 1) := by decide +kernel
theorem d5_32 : decode prog_37_method_4_code 32 = .ok (.aaload, 1) := by decide +kernel
theorem d5_33 : decode prog_37_method_4_code 33 = .ok (.astore 8, 2) := by decide +kernel
theorem d5_35 : decode prog_37_method_4_code 35 = .ok (.lload 5, 2) := by decide +kernel
theorem d5_37 : decode prog_37_method_4_code 37 = .ok (.iload 4, 2) := by decide +kernel
theorem d5_39 : decode prog_37_method_4_code 39 = .ok (.aload 8, 2) := by decide +kernel
theorem d5_41 : decode prog_37_method_4_code 41 = .ok (.arraylength, 1) := by decide +kernel
theorem d5_42 : decode prog_37_method_4_code 42 = .ok (.if_icmp .ge 11, 3) := by decide +kernel
theorem d5_45 : decode prog_37_method_4_code 45 = .ok (.aload 8, 2) := by decide +kernel
theorem d5_47 : decode prog_37_method_4_code 47 = .ok (.iload 4, 2) := by decide +kernel
theorem d5_49 : decode prog_37_method_4_code 49 = .ok (.laload, 1) := by decide +kernel
theorem d5_50 : decode prog_37_method_4_code 50 = .ok (.goto 4, 3) := by decide +kernel
theorem d5_54 : decode prog_37_method_4_code 54 = .ok (.lor, 1) := by decide +kernel
theorem d5_55 : decode prog_37_method_4_code 55 = .ok (.lstore 5, 2) := by decide +kernel
theorem d5_57 : decode prog_37_method_4_code 57 = .ok (.iinc 7 1, 3) := by decide +kernel
theorem d5_60 : decode prog_37_method_4_code 60 = .ok (.goto (-42), 3) := by decide +kernel
theorem d5_63 : decode prog_37_method_4_code 63 = .ok (.lload 5, 2) := by decide +kernel
theorem d5_65 : decode prog_37_method_4_code 65 = .ok (.ldc2_w 45, 3) := by decide +kernel
theorem d5_68 : decode prog_37_method_4_code 68 = .ok (.lcmp, 1) := by decide +kernel
theorem d5_69 : decode prog_37_method_4_code 69 = .ok (.ifCond .eq 36, 3) := by decide +kernel
theorem d5_72 : decode prog_37_method_4_code 72 = .ok (.iload 4, 2) := by decide +kernel
theorem d5_74 : decode prog_37_method_4_code 74 = .ok (.bipush 64, 2) := by decide +kernel
theorem d5_76 : decode prog_37_method_4_code 76 = .ok (.imul, 1) := by decide +kernel
theorem d5_77 : decode prog_37_method_4_code 77 = .ok (.lload 5, 2) := by decide +kernel
theorem d5_79 : decode prog_37_method_4_code 79 = .ok (.ldc2_w 45, 3) := by decide +kernel
theorem d5_82 : decode prog_37_method_4_code 82 = .ok (.lxor, 1) := by decide +kernel
theorem pd_5 : parseMethodDescriptor "(J)I" = some ⟨[.long], some .int⟩ := by decide +kernel
theorem d5_83 : decode prog_37_method_4_code 83 = .ok (.invokestatic 47, 3) := by decide +kernel
theorem d5_86 : decode prog_37_method_4_code 86 = .ok (.iadd, 1) := by decide +kernel
theorem d5_87 : decode prog_37_method_4_code 87 = .ok (.istore 7, 2) := by decide +kernel
theorem d5_89 : decode prog_37_method_4_code 89 = .ok (.iload 7, 2) := by decide +kernel
theorem d5_91 : decode prog_37_method_4_code 91 = .ok (.aload_n 0, 1) := by decide +kernel
theorem d5_92 : decode prog_37_method_4_code 92 = .ok (.getfield 7, 3) := by decide +kernel
theorem d5_95 : decode prog_37_method_4_code 95 = .ok (.if_icmp .ge 8, 3) := by decide +kernel
theorem d5_98 : decode prog_37_method_4_code 98 = .ok (.iload 7, 2) := by decide +kernel
theorem d5_100 : decode prog_37_method_4_code 100 = .ok (.goto 4, 3) := by decide +kernel
theorem d5_104 : decode prog_37_method_4_code 104 = .ok (.ireturn, 1) := by decide +kernel
theorem d5_103 : decode prog_37_method_4_code 103 = .ok (.iconst (-1), 1) := by decide +kernel
set_option maxRecDepth 65536 in
set_option maxHeartbeats 40000000 in
theorem rmF_A1 (l : Launch) (Z : State) (a0 : Array Value) (hw : ∀ d ∈ tables_1, d.before a0 Z = true) (ws : List Jvm.Cond) (a1 : Addr) (aH : Addr) (rA : Addr) (rB : Addr) (kH : ClassId) (kL : ClassId) (cn : Int32) (wd : Int32) (u : Int64) (vv : Int64) (ra : Addr) (kR : ClassId) (r : Int32) (lo : Int32) (h0 : Heap) (n0 : Nat) (O0 : Old Z n0 h0) (Fh : Fld Z h0 a1 "com/example/lumenplan/lumenplan/simulation/Wavelengths" "held" "[[J" (.ref aH)) (VH : Arv Z h0 aH kH (.array .long) (2 : Int32) [(.ref rA), (.ref rB)] .null) (VA : Arv Z h0 rA kL .long (1 : Int32) [(.long u)] (.long (0 : Int64))) (VB : Arv Z h0 rB kL .long (1 : Int32) [(.long vv)] (.long (0 : Int64))) (Fc : Fld Z h0 a1 "com/example/lumenplan/lumenplan/simulation/Wavelengths" "count" "I" (.int cn)) (Fw : Fld Z h0 a1 "com/example/lumenplan/lumenplan/simulation/Wavelengths" "words" "I" (.int wd)) (VR : Arv Z h0 ra kR .int (1 : Int32) [(.int (0 : Int32))] (.int (0 : Int32))) (hN : NT u r) (hw0 : (0 : Int32) < wd) (hl : (r < cn ∧ lo = r) ∨ (¬ r < cn ∧ lo = (-1 : Int32))) :
    MetFree l (⟨"com/example/lumenplan/lumenplan/simulation/Wavelengths", "lowestFree", "([III)I"⟩ : MethodName) (head1 (Jvm.Cond.code (⟨"com/example/lumenplan/lumenplan/simulation/Wavelengths", "lowestFree", "([III)I"⟩ : MethodName) prog_37_method_4_code 9 (some .int) :: ws) ({ frames := 2, cells := 0, slots := 0, locals := 64 } : Room)) (fun a U => a = #[(.ref a1), (.ref ra), (.int (0 : Int32)), (.int (1 : Int32))] ∧ Z.Warmed39 U.vm ∧ U.heap = h0) (fun _ _ _ _ _ => True) (fun _ U o U' => ∃ v L, o = .returned v ∧ Q_rmF_A1 Z lo h0 n0 v U'.heap L ∧ FrameEnd U o U' L ({ frames := 2, cells := 0, slots := 0, locals := 64 } : Room).cells ({ frames := 2, cells := 0, slots := 0, locals := 64 } : Room).slots) := by
  refine MetFree.of_bodySF (plainFor_of_name pn_Wavelengths) hisR ?_
  intro p e s m args below meth c s₁ Bd hml0 hP hK
  obtain ⟨rfl, hZ, hh⟩ := hP
  have hx := Bd.exec
  have hby := Bd.bytes
  have hml : c.maxLocals = 9 := hml0
  have hown : s.vm.findClass "com/example/lumenplan/lumenplan/simulation/Wavelengths" = some m.cls := findClass_of_methodNamed Bd.named
  have hnm := (name_of_methodNamed Bd.named Bd.method).1
  have X0 : Stand p l e ({ frames := 2, cells := 0, slots := 0, locals := 64 } : Room) s m #[(.ref a1), (.ref ra), (.int (0 : Int32)), (.int (1 : Int32))] below meth c s₁ [] 0 0 := Stand.of_body Bd
  have e0 : s₁.heap = h0 := by rw [← hh, Bd.state]; rfl
  have N0 := Fr.nil n0
  obtain ⟨S0, hS0⟩ : ∃ z, z = s₁.setTop (entryFrame m #[(.ref a1), (.ref ra), (.int (0 : Int32)), (.int (1 : Int32))] 9) := ⟨_, rfl⟩
  have k0 : Rch p e below S0 s₁ (mkF m 0 #[vR a1, vR ra, vI 0, vI 1, vU, vU, vU, vU, vU] []) := fun t kq => hS0 ▸ castTop (ef_5 m a1 ra (0 : Int32) (1 : Int32)) kq
  have k34 : Rch p e below S0 s₁ (mkF m 6 #[vR a1, vR ra, vI 0, vI 1, vI 0, vU, vU, vU, vU] [(.ref a1), (.int (0 : Int32))]) := fun t h => k0 t (by
      show Steps p.tables e below (s₁.setTop (mkF m 0 #[vR a1, vR ra, vI 0, vI 1, vU, vU, vU, vU, vU] [])) _
      refine XS.iconst X0.here hx rfl (hb hby d5_0) ?_
      refine XS.istore X0.here hx rfl (hb hby d5_1) rfl (l' := #[vR a1, vR ra, vI 0, vI 1, vI 0, vU, vU, vU, vU]) rfl ?_
      refine XS.iload X0.here hx rfl (hb hby d5_3) rfl ?_
      refine XS.aloadN X0.here hx rfl (hb hby d5_5) rfl rfl ?_
      exact h)
  obtain ⟨T33, X33, e33, st33⟩ := getF X0 hx hZ hown (host := "") (Or.inl (hw _ (gm 17 rfl))) Via.refl e0 Fw (g := (mkF m 6 #[vR a1, vR ra, vI 0, vI 1, vI 0, vU, vU, vU, vU] [(.ref a1), (.int (0 : Int32))])) rfl rfl (hb hby d5_6)
  have k35 : Rch p e below S0 T33 (mkF m 9 #[vR a1, vR ra, vI 0, vI 1, vI 0, vU, vU, vU, vU] [(.int wd), (.int (0 : Int32))]) := fun t h => k34 t (st33 t h)
  have k37 : Rch p e below S0 T33 (mkF m 25 #[vR a1, vR ra, vI 0, vI 1, vI 0, .val (.long (0 : Int64)), .second, vI 0, vU] [(.ref a1)]) := fun t h => k35 t (by
      show Steps p.tables e below (T33.setTop (mkF m 9 #[vR a1, vR ra, vI 0, vI 1, vI 0, vU, vU, vU, vU] [(.int wd), (.int (0 : Int32))])) _
      refine XS.icmpNo X33.here hx rfl (hb hby d5_9) rfl (tlt (hw0 : (0 : Int32) < wd)).2.1 ?_
      refine XS.lconst X33.here hx rfl (hb hby d5_12) ?_
      refine XS.lstore X33.here hx rfl (hb hby d5_13) rfl (l' := #[vR a1, vR ra, vI 0, vI 1, vI 0, .val (.long (0 : Int64)), .second, vU, vU]) rfl ?_
      refine XS.iloadN X33.here hx rfl (hb hby d5_15) rfl ?_
      refine XS.istore X33.here hx rfl (hb hby d5_16) rfl (l' := #[vR a1, vR ra, vI 0, vI 1, vI 0, .val (.long (0 : Int64)), .second, vI 0, vU]) rfl ?_
      refine XS.iload X33.here hx rfl (hb hby d5_18) rfl ?_
      refine XS.iloadN X33.here hx rfl (hb hby d5_20) rfl ?_
      refine XS.icmpNo X33.here hx rfl (hb hby d5_21) rfl (tlt (by decide : (0 : Int32) < (1 : Int32))).2.1 ?_
      refine XS.aloadN X33.here hx rfl (hb hby d5_24) rfl rfl ?_
      exact h)
  obtain ⟨T36, X36, e36, st36⟩ := getF X33 hx hZ hown (host := "") (Or.inl (hw _ (gm 22 rfl))) Via.refl e33 Fh (g := (mkF m 25 #[vR a1, vR ra, vI 0, vI 1, vI 0, .val (.long (0 : Int64)), .second, vI 0, vU] [(.ref a1)])) rfl rfl (hb hby d5_25)
  have k38 : Rch p e below S0 T36 (mkF m 28 #[vR a1, vR ra, vI 0, vI 1, vI 0, .val (.long (0 : Int64)), .second, vI 0, vU] [(.ref aH)]) := fun t h => k37 t (st36 t h)
  have k40 : Rch p e below S0 T36 (mkF m 31 #[vR a1, vR ra, vI 0, vI 1, vI 0, .val (.long (0 : Int64)), .second, vI 0, vU] [(.int (0 : Int32)), (.ref ra), (.ref aH)]) := fun t h => k38 t (by
      show Steps p.tables e below (T36.setTop (mkF m 28 #[vR a1, vR ra, vI 0, vI 1, vI 0, .val (.long (0 : Int64)), .second, vI 0, vU] [(.ref aH)])) _
      refine XS.aloadN X36.here hx rfl (hb hby d5_28) rfl rfl ?_
      refine XS.iload X36.here hx rfl (hb hby d5_29) rfl ?_
      exact h)
  obtain ⟨cl39, Ar39, q39, Sz39, Ng39, Hs39, G39⟩ := id VR
  have hin39 : ¬ ((0 : Int32) < 0 ∨ cl39.slots.size ≤ ((0 : Int32)).toNatClampNeg) := inb_of Sz39 ⟨by decide, by decide⟩
  have hat39 : cl39.slots[((0 : Int32)).toNatClampNeg]? = some (.int (0 : Int32)) := Hs39.at hin39 (rfl)
  have k42 : Rch p e below S0 T36 (mkF m 32 #[vR a1, vR ra, vI 0, vI 1, vI 0, .val (.long (0 : Int64)), .second, vI 0, vU] [(.int (0 : Int32)), (.ref aH)]) := fun t h => k40 t (by
      show Steps p.tables e below (T36.setTop (mkF m 31 #[vR a1, vR ra, vI 0, vI 1, vI 0, .val (.long (0 : Int64)), .second, vI 0, vU] [(.int (0 : Int32)), (.ref ra), (.ref aH)])) _
      refine X36.iaload hx (j := (0 : Int32)) (v := (.int (0 : Int32))) (by rw [e36]; exact Ar39.1) (State.isArrayOf_alike hZ.alike Ar39.2.1) Ar39.2.2 hin39 hat39 (g := (mkF m 31 #[vR a1, vR ra, vI 0, vI 1, vI 0, .val (.long (0 : Int64)), .second, vI 0, vU] [(.int (0 : Int32)), (.ref ra), (.ref aH)])) rfl rfl (hb hby d5_31) _ ?_
      exact h)
  obtain ⟨cl41, Ar41, q41, Sz41, Ng41, Hs41, G41⟩ := id VH
  have hin41 : ¬ ((0 : Int32) < 0 ∨ cl41.slots.size ≤ ((0 : Int32)).toNatClampNeg) := inb_of Sz41 ⟨by decide, by decide⟩
  have hat41 : cl41.slots[((0 : Int32)).toNatClampNeg]? = some (.ref rA) := Hs41.at hin41 (rfl)
  have k44 : Rch p e below S0 T36 (mkF m 41 #[vR a1, vR ra, vI 0, vI 1, vI 0, .val (.long (0 : Int64)), .second, vI 0, vR rA] [(.ref rA), (.int (0 : Int32)), (.long (0 : Int64))]) := fun t h => k42 t (by
      show Steps p.tables e below (T36.setTop (mkF m 32 #[vR a1, vR ra, vI 0, vI 1, vI 0, .val (.long (0 : Int64)), .second, vI 0, vU] [(.int (0 : Int32)), (.ref aH)])) _
      refine X36.aaload hx (j := (0 : Int32)) (v := (.ref rA)) (by rw [e36]; exact Ar41.1) (State.isArrayOf_alike hZ.alike Ar41.2.1) rfl Ar41.2.2 hin41 hat41 (g := (mkF m 32 #[vR a1, vR ra, vI 0, vI 1, vI 0, .val (.long (0 : Int64)), .second, vI 0, vU] [(.int (0 : Int32)), (.ref aH)])) rfl rfl (hb hby d5_32) _ ?_
      refine XS.astore X36.here hx rfl (hb hby d5_33) rfl rfl (l' := #[vR a1, vR ra, vI 0, vI 1, vI 0, .val (.long (0 : Int64)), .second, vI 0, vR rA]) rfl ?_
      refine XS.lload X36.here hx rfl (hb hby d5_35) rfl ?_
      refine XS.iload X36.here hx rfl (hb hby d5_37) rfl ?_
      refine XS.aload X36.here hx rfl (hb hby d5_39) rfl rfl ?_
      exact h)
  obtain ⟨cl43, Ar43, q43, Sz43, Ng43, Hs43, G43⟩ := id VA
  have k46 : Rch p e below S0 T36 (mkF m 49 #[vR a1, vR ra, vI 0, vI 1, vI 0, .val (.long (0 : Int64)), .second, vI 0, vR rA] [(.int (0 : Int32)), (.ref rA), (.long (0 : Int64))]) := fun t h => k44 t (by
      show Steps p.tables e below (T36.setTop (mkF m 41 #[vR a1, vR ra, vI 0, vI 1, vI 0, .val (.long (0 : Int64)), .second, vI 0, vR rA] [(.ref rA), (.int (0 : Int32)), (.long (0 : Int64))])) _
      refine X36.arraylength hx (by rw [e36]; exact Ar43.1) (State.isArrayOf_alike hZ.alike Ar43.2.1) (g := (mkF m 41 #[vR a1, vR ra, vI 0, vI 1, vI 0, .val (.long (0 : Int64)), .second, vI 0, vR rA] [(.ref rA), (.int (0 : Int32)), (.long (0 : Int64))])) rfl rfl (hb hby d5_41) _ ?_
      rw [len_of Sz43 Ng43]
      refine XS.icmpNo X36.here hx rfl (hb hby d5_42) rfl (tlt (by decide : (0 : Int32) < (1 : Int32))).2.1 ?_
      refine XS.aload X36.here hx rfl (hb hby d5_45) rfl rfl ?_
      refine XS.iload X36.here hx rfl (hb hby d5_47) rfl ?_
      exact h)
  obtain ⟨cl45, Ar45, q45, Sz45, Ng45, Hs45, G45⟩ := id VA
  have hin45 : ¬ ((0 : Int32) < 0 ∨ cl45.slots.size ≤ ((0 : Int32)).toNatClampNeg) := inb_of Sz45 ⟨by decide, by decide⟩
  have hat45 : cl45.slots[((0 : Int32)).toNatClampNeg]? = some (.long u) := Hs45.at hin45 (rfl)
  have k47 : Rch p e below S0 T36 (mkF m 83 #[vR a1, vR ra, vI 0, vI 1, vI 0, .val (.long u), .second, vI 1, vR rA] [(.long (u ^^^ (-1 : Int64))), (.int (0 : Int32))]) := fun t h => k46 t (by
      show Steps p.tables e below (T36.setTop (mkF m 49 #[vR a1, vR ra, vI 0, vI 1, vI 0, .val (.long (0 : Int64)), .second, vI 0, vR rA] [(.int (0 : Int32)), (.ref rA), (.long (0 : Int64))])) _
      refine X36.laload hx (j := (0 : Int32)) (v := (.long u)) (by rw [e36]; exact Ar45.1) (State.isArrayOf_alike hZ.alike Ar45.2.1) Ar45.2.2 hin45 hat45 (g := (mkF m 49 #[vR a1, vR ra, vI 0, vI 1, vI 0, .val (.long (0 : Int64)), .second, vI 0, vR rA] [(.int (0 : Int32)), (.ref rA), (.long (0 : Int64))])) rfl rfl (hb hby d5_49) _ ?_
      refine XS.goto X36.here hx rfl (pc0 := 50) (pc' := 54) rfl (hb hby d5_50) (by decide) (by decide) ?_
      show Steps p.tables e below (T36.setTop (mkF m 54 #[vR a1, vR ra, vI 0, vI 1, vI 0, .val (.long (0 : Int64)), .second, vI 0, vR rA] [(.long u), (.long (0 : Int64))])) _
      refine XS.lor X36.here hx rfl (hb hby d5_54) rfl ?_
      rw [own_or0 u]
      refine XS.lstore X36.here hx rfl (hb hby d5_55) rfl (l' := #[vR a1, vR ra, vI 0, vI 1, vI 0, .val (.long u), .second, vI 0, vR rA]) rfl ?_
      show Steps p.tables e below (T36.setTop (mkF m 57 #[vR a1, vR ra, vI 0, vI 1, vI 0, .val (.long u), .second, vI 0, vR rA] [])) _
      refine XS.iinc X36.here hx rfl (hb hby d5_57) rfl (l' := #[vR a1, vR ra, vI 0, vI 1, vI 0, .val (.long u), .second, vI ((0 : Int32) + (1 : Int32)), vR rA]) rfl ?_
      rw [(by decide : ((0 : Int32) + (1 : Int32)) = (1 : Int32))]
      refine XS.goto X36.here hx rfl (pc0 := 60) (pc' := 18) rfl (hb hby d5_60) (by decide) (by decide) ?_
      refine XS.iload X36.here hx rfl (hb hby d5_18) rfl ?_
      refine XS.iloadN X36.here hx rfl (hb hby d5_20) rfl ?_
      refine XS.icmpYes X36.here hx rfl (pc0 := 21) (pc' := 63) rfl (hb hby d5_21) rfl (flt (by decide : ¬ ((1 : Int32) < (1 : Int32)))).2.1 (by decide) (by decide) ?_
      refine XS.lload X36.here hx rfl (hb hby d5_63) rfl ?_
      refine X36.ldc2Long hx hown (mvT hZ (hw _ (gm 37 rfl))) (g := (mkF m 65 #[vR a1, vR ra, vI 0, vI 1, vI 0, .val (.long u), .second, vI 1, vR rA] [(.long u)])) rfl (hb hby d5_65) _ ?_
      refine XS.lcmp X36.here hx rfl (hb hby d5_68) rfl ?_
      show Steps p.tables e below (T36.setTop (mkF m 69 #[vR a1, vR ra, vI 0, vI 1, vI 0, .val (.long u), .second, vI 1, vR rA] [(.int (lcmpW u (-1 : Int64)))])) _
      rw [own_lc hN]
      refine XS.ifNo X36.here hx rfl (hb hby d5_69) rfl ((if0 _ _).trans (feq (by decide : ¬ ((1 : Int32) = (0 : Int32)))).1) ?_
      refine XS.iload X36.here hx rfl (hb hby d5_72) rfl ?_
      refine XS.bipush X36.here hx rfl (hb hby d5_74) ?_
      show Steps p.tables e below (T36.setTop (mkF m 76 #[vR a1, vR ra, vI 0, vI 1, vI 0, .val (.long u), .second, vI 1, vR rA] [(.int (64 : Int32)), (.int (0 : Int32))])) _
      refine XS.imul X36.here hx rfl (hb hby d5_76) rfl ?_
      rw [(by decide : ((0 : Int32) * (64 : Int32)) = (0 : Int32))]
      refine XS.lload X36.here hx rfl (hb hby d5_77) rfl ?_
      refine X36.ldc2Long hx hown (mvT hZ (hw _ (gm 37 rfl))) (g := (mkF m 79 #[vR a1, vR ra, vI 0, vI 1, vI 0, .val (.long u), .second, vI 1, vR rA] [(.long u), (.int (0 : Int32))])) rfl (hb hby d5_79) _ ?_
      refine XS.lxor X36.here hx rfl (hb hby d5_82) rfl ?_
      exact h)
  obtain ⟨_, _, ⟨T48, L48, kk48, n48⟩, -, X48, ⟨Lc48, hQ48, l48, y48, z48⟩, st48⟩ := Jvm.LawKit.callS X36 hx (y := (⟨"java/lang/Long", "numberOfTrailingZeros", "(J)I"⟩ : MethodName)) hown (mvT hZ (hw _ (gm 38 rfl))) (mvT hZ (hw _ (gm 39 rfl))) (mvT hZ (hw _ (gm 40 rfl))) (mvT hZ (hw _ (gm 41 rfl))) (by decide) (backOf (W := 1) (rmNT l Z a0 hw []  u r h0 n0 O0 hN) hZ (hw _ (gm 41 rfl)) (hw _ (gm 40 rfl)) (by decide) (by decide)) (g := (mkF m 83 #[vR a1, vR ra, vI 0, vI 1, vI 0, .val (.long u), .second, vI 1, vR rA] [(.long (u ^^^ (-1 : Int64))), (.int (0 : Int32))])) rfl (by rw [hml]; rfl) (argsL := [(.long (u ^^^ (-1 : Int64)))]) (rest := [(.int (0 : Int32))]) (lenOf pd_5 rfl) rfl (by show 2 * 0 + _ ≤ _; exact Nat.le_of_eq rfl) (hb hby d5_83) (fun _ _ => ⟨rfl, e36, (by decide : 0 + 0 ≤ _), (by decide : 0 + 0 ≤ _)⟩)
  dsimp only [Pt.U, Pt.locs, Pt.cells, Pt.slots] at X48 l48 y48 z48 st48 hQ48
  subst l48 y48 z48
  obtain ⟨rfl, Nq48, hh48⟩ := hQ48
  have N48 := Fr.app N0 Nq48
  have k49 : Rch p e below S0 T48 (mkF m 86 #[vR a1, vR ra, vI 0, vI 1, vI 0, .val (.long u), .second, vI 1, vR rA] [(.int r), (.int (0 : Int32))]) := fun t h => k47 t (st48 t h)
  have k50 : Rch p e below S0 T48 (mkF m 89 #[vR a1, vR ra, vI 0, vI 1, vI 0, .val (.long u), .second, vI r, vR rA] []) := fun t h => k49 t (by
      show Steps p.tables e below (T48.setTop (mkF m 86 #[vR a1, vR ra, vI 0, vI 1, vI 0, .val (.long u), .second, vI 1, vR rA] [(.int r), (.int (0 : Int32))])) _
      refine XS.iadd X48.here hx rfl (hb hby d5_86) rfl ?_
      rw [own_0add r]
      refine XS.istore X48.here hx rfl (hb hby d5_87) rfl (l' := #[vR a1, vR ra, vI 0, vI 1, vI 0, .val (.long u), .second, vI r, vR rA]) rfl ?_
      exact h)
  rcases hl with hl | hl
  · have k52 : Rch p e below S0 T48 (mkF m 92 #[vR a1, vR ra, vI 0, vI 1, vI 0, .val (.long u), .second, vI r, vR rA] [(.ref a1), (.int r)]) := fun t h => k50 t (by
        show Steps p.tables e below (T48.setTop (mkF m 89 #[vR a1, vR ra, vI 0, vI 1, vI 0, .val (.long u), .second, vI r, vR rA] [])) _
        refine XS.iload X48.here hx rfl (hb hby d5_89) rfl ?_
        refine XS.aloadN X48.here hx rfl (hb hby d5_91) rfl rfl ?_
        exact h)
    obtain ⟨T51, X51, e51, st51⟩ := getF X48 hx hZ hown (host := "") (Or.inl (hw _ (gm 14 rfl))) Via.refl hh48 Fc (g := (mkF m 92 #[vR a1, vR ra, vI 0, vI 1, vI 0, .val (.long u), .second, vI r, vR rA] [(.ref a1), (.int r)])) rfl rfl (hb hby d5_92)
    have k53 : Rch p e below S0 T51 (mkF m 95 #[vR a1, vR ra, vI 0, vI 1, vI 0, .val (.long u), .second, vI r, vR rA] [(.int cn), (.int r)]) := fun t h => k52 t (st51 t h)
    have k54 : Rch p e below S0 T51 (mkF m 104 #[vR a1, vR ra, vI 0, vI 1, vI 0, .val (.long u), .second, vI r, vR rA] [(.int r)]) := fun t h => k53 t (by
        show Steps p.tables e below (T51.setTop (mkF m 95 #[vR a1, vR ra, vI 0, vI 1, vI 0, .val (.long u), .second, vI r, vR rA] [(.int cn), (.int r)])) _
        refine XS.icmpNo X51.here hx rfl (hb hby d5_95) rfl (tlt (hl.1 : r < cn)).2.1 ?_
        refine XS.iload X51.here hx rfl (hb hby d5_98) rfl ?_
        refine XS.goto X51.here hx rfl (pc0 := 100) (pc' := 104) rfl (hb hby d5_100) (by decide) (by decide) ?_
        exact h)
    obtain ⟨fs, hr, hrun, hended, hW, hsame⟩ := X51.leave (v := (some (.int r))) (fun h => by rw [Bd.returns] at h; cases h)
    refine ⟨_, _, ?_, hrun, hended, _, _, rfl, ?_, ⟨_, rfl⟩, hW, hsame.mono (by decide) (by decide)⟩
    · rw [← hS0]
      refine k54 _ ?_
      show Steps p.tables e below (T51.setTop (mkF m 104 #[vR a1, vR ra, vI 0, vI 1, vI 0, .val (.long u), .second, vI r, vR rA] [(.int r)])) _
      exact retI X51 hx Bd.returns (hb hby d5_104) hr
    · show Q_rmF_A1 Z lo h0 n0 _ T51.heap _
      rw [e51]
      exact ⟨by rw [hl.2], N48, rfl⟩
  · have k56 : Rch p e below S0 T48 (mkF m 92 #[vR a1, vR ra, vI 0, vI 1, vI 0, .val (.long u), .second, vI r, vR rA] [(.ref a1), (.int r)]) := fun t h => k50 t (by
        show Steps p.tables e below (T48.setTop (mkF m 89 #[vR a1, vR ra, vI 0, vI 1, vI 0, .val (.long u), .second, vI r, vR rA] [])) _
        refine XS.iload X48.here hx rfl (hb hby d5_89) rfl ?_
        refine XS.aloadN X48.here hx rfl (hb hby d5_91) rfl rfl ?_
        exact h)
    obtain ⟨T55, X55, e55, st55⟩ := getF X48 hx hZ hown (host := "") (Or.inl (hw _ (gm 14 rfl))) Via.refl hh48 Fc (g := (mkF m 92 #[vR a1, vR ra, vI 0, vI 1, vI 0, .val (.long u), .second, vI r, vR rA] [(.ref a1), (.int r)])) rfl rfl (hb hby d5_92)
    have k57 : Rch p e below S0 T55 (mkF m 95 #[vR a1, vR ra, vI 0, vI 1, vI 0, .val (.long u), .second, vI r, vR rA] [(.int cn), (.int r)]) := fun t h => k56 t (st55 t h)
    have k58 : Rch p e below S0 T55 (mkF m 104 #[vR a1, vR ra, vI 0, vI 1, vI 0, .val (.long u), .second, vI r, vR rA] [(.int (-1 : Int32))]) := fun t h => k57 t (by
        show Steps p.tables e below (T55.setTop (mkF m 95 #[vR a1, vR ra, vI 0, vI 1, vI 0, .val (.long u), .second, vI r, vR rA] [(.int cn), (.int r)])) _
        refine XS.icmpYes X55.here hx rfl (pc0 := 95) (pc' := 103) rfl (hb hby d5_95) rfl (flt (hl.1 : ¬ (r < cn))).2.1 (by decide) (by decide) ?_
        refine XS.iconst X55.here hx rfl (hb hby d5_103) ?_
        exact h)
    obtain ⟨fs, hr, hrun, hended, hW, hsame⟩ := X55.leave (v := (some (.int (-1 : Int32)))) (fun h => by rw [Bd.returns] at h; cases h)
    refine ⟨_, _, ?_, hrun, hended, _, _, rfl, ?_, ⟨_, rfl⟩, hW, hsame.mono (by decide) (by decide)⟩
    · rw [← hS0]
      refine k58 _ ?_
      show Steps p.tables e below (T55.setTop (mkF m 104 #[vR a1, vR ra, vI 0, vI 1, vI 0, .val (.long u), .second, vI r, vR rA] [(.int (-1 : Int32))])) _
      exact retI X55 hx Bd.returns (hb hby d5_104) hr
    · show Q_rmF_A1 Z lo h0 n0 _ T55.heap _
      rw [e55]
      exact ⟨by rw [hl.2], N48, rfl⟩
def Q_rmF_B1 (Z : State) (lo : Int32) (h0 : Heap) (n0 : Nat) (v : Option Value) (h : Heap) (L : List Loc) : Prop := v = some (.int lo) ∧ Fr n0 L ∧ h = h0
set_option maxRecDepth 65536 in
set_option maxHeartbeats 40000000 in
theorem rmF_B1 (l : Launch) (Z : State) (a0 : Array Value) (hw : ∀ d ∈ tables_1, d.before a0 Z = true) (ws : List Jvm.Cond) (a1 : Addr) (aH : Addr) (rA : Addr) (rB : Addr) (kH : ClassId) (kL : ClassId) (cn : Int32) (wd : Int32) (u : Int64) (vv : Int64) (ra : Addr) (kR : ClassId) (r : Int32) (lo : Int32) (h0 : Heap) (n0 : Nat) (O0 : Old Z n0 h0) (Fh : Fld Z h0 a1 "com/example/lumenplan/lumenplan/simulation/Wavelengths" "held" "[[J" (.ref aH)) (VH : Arv Z h0 aH kH (.array .long) (2 : Int32) [(.ref rA), (.ref rB)] .null) (VA : Arv Z h0 rA kL .long (1 : Int32) [(.long u)] (.long (0 : Int64))) (VB : Arv Z h0 rB kL .long (1 : Int32) [(.long vv)] (.long (0 : Int64))) (Fc : Fld Z h0 a1 "com/example/lumenplan/lumenplan/simulation/Wavelengths" "count" "I" (.int cn)) (Fw : Fld Z h0 a1 "com/example/lumenplan/lumenplan/simulation/Wavelengths" "words" "I" (.int wd)) (VR : Arv Z h0 ra kR .int (1 : Int32) [(.int (1 : Int32))] (.int (0 : Int32))) (hN : NT vv r) (hw0 : (0 : Int32) < wd) (hl : (r < cn ∧ lo = r) ∨ (¬ r < cn ∧ lo = (-1 : Int32))) :
    MetFree l (⟨"com/example/lumenplan/lumenplan/simulation/Wavelengths", "lowestFree", "([III)I"⟩ : MethodName) (head1 (Jvm.Cond.code (⟨"com/example/lumenplan/lumenplan/simulation/Wavelengths", "lowestFree", "([III)I"⟩ : MethodName) prog_37_method_4_code 9 (some .int) :: ws) ({ frames := 2, cells := 0, slots := 0, locals := 64 } : Room)) (fun a U => a = #[(.ref a1), (.ref ra), (.int (0 : Int32)), (.int (1 : Int32))] ∧ Z.Warmed39 U.vm ∧ U.heap = h0) (fun _ _ _ _ _ => True) (fun _ U o U' => ∃ v L, o = .returned v ∧ Q_rmF_B1 Z lo h0 n0 v U'.heap L ∧ FrameEnd U o U' L ({ frames := 2, cells := 0, slots := 0, locals := 64 } : Room).cells ({ frames := 2, cells := 0, slots := 0, locals := 64 } : Room).slots) := by
  refine MetFree.of_bodySF (plainFor_of_name pn_Wavelengths) hisR ?_
  intro p e s m args below meth c s₁ Bd hml0 hP hK
  obtain ⟨rfl, hZ, hh⟩ := hP
  have hx := Bd.exec
  have hby := Bd.bytes
  have hml : c.maxLocals = 9 := hml0
  have hown : s.vm.findClass "com/example/lumenplan/lumenplan/simulation/Wavelengths" = some m.cls := findClass_of_methodNamed Bd.named
  have hnm := (name_of_methodNamed Bd.named Bd.method).1
  have X0 : Stand p l e ({ frames := 2, cells := 0, slots := 0, locals := 64 } : Room) s m #[(.ref a1), (.ref ra), (.int (0 : Int32)), (.int (1 : Int32))] below meth c s₁ [] 0 0 := Stand.of_body Bd
  have e0 : s₁.heap = h0 := by rw [← hh, Bd.state]; rfl
  have N0 := Fr.nil n0
  obtain ⟨S0, hS0⟩ : ∃ z, z = s₁.setTop (entryFrame m #[(.ref a1), (.ref ra), (.int (0 : Int32)), (.int (1 : Int32))] 9) := ⟨_, rfl⟩
  have k0 : Rch p e below S0 s₁ (mkF m 0 #[vR a1, vR ra, vI 0, vI 1, vU, vU, vU, vU, vU] []) := fun t kq => hS0 ▸ castTop (ef_5 m a1 ra (0 : Int32) (1 : Int32)) kq
  have k60 : Rch p e below S0 s₁ (mkF m 6 #[vR a1, vR ra, vI 0, vI 1, vI 0, vU, vU, vU, vU] [(.ref a1), (.int (0 : Int32))]) := fun t h => k0 t (by
      show Steps p.tables e below (s₁.setTop (mkF m 0 #[vR a1, vR ra, vI 0, vI 1, vU, vU, vU, vU, vU] [])) _
      refine XS.iconst X0.here hx rfl (hb hby d5_0) ?_
      refine XS.istore X0.here hx rfl (hb hby d5_1) rfl (l' := #[vR a1, vR ra, vI 0, vI 1, vI 0, vU, vU, vU, vU]) rfl ?_
      refine XS.iload X0.here hx rfl (hb hby d5_3) rfl ?_
      refine XS.aloadN X0.here hx rfl (hb hby d5_5) rfl rfl ?_
      exact h)
  obtain ⟨T59, X59, e59, st59⟩ := getF X0 hx hZ hown (host := "") (Or.inl (hw _ (gm 17 rfl))) Via.refl e0 Fw (g := (mkF m 6 #[vR a1, vR ra, vI 0, vI 1, vI 0, vU, vU, vU, vU] [(.ref a1), (.int (0 : Int32))])) rfl rfl (hb hby d5_6)
  have k61 : Rch p e below S0 T59 (mkF m 9 #[vR a1, vR ra, vI 0, vI 1, vI 0, vU, vU, vU, vU] [(.int wd), (.int (0 : Int32))]) := fun t h => k60 t (st59 t h)
  have k63 : Rch p e below S0 T59 (mkF m 25 #[vR a1, vR ra, vI 0, vI 1, vI 0, .val (.long (0 : Int64)), .second, vI 0, vU] [(.ref a1)]) := fun t h => k61 t (by
      show Steps p.tables e below (T59.setTop (mkF m 9 #[vR a1, vR ra, vI 0, vI 1, vI 0, vU, vU, vU, vU] [(.int wd), (.int (0 : Int32))])) _
      refine XS.icmpNo X59.here hx rfl (hb hby d5_9) rfl (tlt (hw0 : (0 : Int32) < wd)).2.1 ?_
      refine XS.lconst X59.here hx rfl (hb hby d5_12) ?_
      refine XS.lstore X59.here hx rfl (hb hby d5_13) rfl (l' := #[vR a1, vR ra, vI 0, vI 1, vI 0, .val (.long (0 : Int64)), .second, vU, vU]) rfl ?_
      refine XS.iloadN X59.here hx rfl (hb hby d5_15) rfl ?_
      refine XS.istore X59.here hx rfl (hb hby d5_16) rfl (l' := #[vR a1, vR ra, vI 0, vI 1, vI 0, .val (.long (0 : Int64)), .second, vI 0, vU]) rfl ?_
      refine XS.iload X59.here hx rfl (hb hby d5_18) rfl ?_
      refine XS.iloadN X59.here hx rfl (hb hby d5_20) rfl ?_
      refine XS.icmpNo X59.here hx rfl (hb hby d5_21) rfl (tlt (by decide : (0 : Int32) < (1 : Int32))).2.1 ?_
      refine XS.aloadN X59.here hx rfl (hb hby d5_24) rfl rfl ?_
      exact h)
  obtain ⟨T62, X62, e62, st62⟩ := getF X59 hx hZ hown (host := "") (Or.inl (hw _ (gm 22 rfl))) Via.refl e59 Fh (g := (mkF m 25 #[vR a1, vR ra, vI 0, vI 1, vI 0, .val (.long (0 : Int64)), .second, vI 0, vU] [(.ref a1)])) rfl rfl (hb hby d5_25)
  have k64 : Rch p e below S0 T62 (mkF m 28 #[vR a1, vR ra, vI 0, vI 1, vI 0, .val (.long (0 : Int64)), .second, vI 0, vU] [(.ref aH)]) := fun t h => k63 t (st62 t h)
  have k66 : Rch p e below S0 T62 (mkF m 31 #[vR a1, vR ra, vI 0, vI 1, vI 0, .val (.long (0 : Int64)), .second, vI 0, vU] [(.int (0 : Int32)), (.ref ra), (.ref aH)]) := fun t h => k64 t (by
      show Steps p.tables e below (T62.setTop (mkF m 28 #[vR a1, vR ra, vI 0, vI 1, vI 0, .val (.long (0 : Int64)), .second, vI 0, vU] [(.ref aH)])) _
      refine XS.aloadN X62.here hx rfl (hb hby d5_28) rfl rfl ?_
      refine XS.iload X62.here hx rfl (hb hby d5_29) rfl ?_
      exact h)
  obtain ⟨cl65, Ar65, q65, Sz65, Ng65, Hs65, G65⟩ := id VR
  have hin65 : ¬ ((0 : Int32) < 0 ∨ cl65.slots.size ≤ ((0 : Int32)).toNatClampNeg) := inb_of Sz65 ⟨by decide, by decide⟩
  have hat65 : cl65.slots[((0 : Int32)).toNatClampNeg]? = some (.int (1 : Int32)) := Hs65.at hin65 (rfl)
  have k68 : Rch p e below S0 T62 (mkF m 32 #[vR a1, vR ra, vI 0, vI 1, vI 0, .val (.long (0 : Int64)), .second, vI 0, vU] [(.int (1 : Int32)), (.ref aH)]) := fun t h => k66 t (by
      show Steps p.tables e below (T62.setTop (mkF m 31 #[vR a1, vR ra, vI 0, vI 1, vI 0, .val (.long (0 : Int64)), .second, vI 0, vU] [(.int (0 : Int32)), (.ref ra), (.ref aH)])) _
      refine X62.iaload hx (j := (0 : Int32)) (v := (.int (1 : Int32))) (by rw [e62]; exact Ar65.1) (State.isArrayOf_alike hZ.alike Ar65.2.1) Ar65.2.2 hin65 hat65 (g := (mkF m 31 #[vR a1, vR ra, vI 0, vI 1, vI 0, .val (.long (0 : Int64)), .second, vI 0, vU] [(.int (0 : Int32)), (.ref ra), (.ref aH)])) rfl rfl (hb hby d5_31) _ ?_
      exact h)
  obtain ⟨cl67, Ar67, q67, Sz67, Ng67, Hs67, G67⟩ := id VH
  have hin67 : ¬ ((1 : Int32) < 0 ∨ cl67.slots.size ≤ ((1 : Int32)).toNatClampNeg) := inb_of Sz67 ⟨by decide, by decide⟩
  have hat67 : cl67.slots[((1 : Int32)).toNatClampNeg]? = some (.ref rB) := Hs67.at hin67 (rfl)
  have k70 : Rch p e below S0 T62 (mkF m 41 #[vR a1, vR ra, vI 0, vI 1, vI 0, .val (.long (0 : Int64)), .second, vI 0, vR rB] [(.ref rB), (.int (0 : Int32)), (.long (0 : Int64))]) := fun t h => k68 t (by
      show Steps p.tables e below (T62.setTop (mkF m 32 #[vR a1, vR ra, vI 0, vI 1, vI 0, .val (.long (0 : Int64)), .second, vI 0, vU] [(.int (1 : Int32)), (.ref aH)])) _
      refine X62.aaload hx (j := (1 : Int32)) (v := (.ref rB)) (by rw [e62]; exact Ar67.1) (State.isArrayOf_alike hZ.alike Ar67.2.1) rfl Ar67.2.2 hin67 hat67 (g := (mkF m 32 #[vR a1, vR ra, vI 0, vI 1, vI 0, .val (.long (0 : Int64)), .second, vI 0, vU] [(.int (1 : Int32)), (.ref aH)])) rfl rfl (hb hby d5_32) _ ?_
      refine XS.astore X62.here hx rfl (hb hby d5_33) rfl rfl (l' := #[vR a1, vR ra, vI 0, vI 1, vI 0, .val (.long (0 : Int64)), .second, vI 0, vR rB]) rfl ?_
      refine XS.lload X62.here hx rfl (hb hby d5_35) rfl ?_
      refine XS.iload X62.here hx rfl (hb hby d5_37) rfl ?_
      refine XS.aload X62.here hx rfl (hb hby d5_39) rfl rfl ?_
      exact h)
  obtain ⟨cl69, Ar69, q69, Sz69, Ng69, Hs69, G69⟩ := id VB
  have k72 : Rch p e below S0 T62 (mkF m 49 #[vR a1, vR ra, vI 0, vI 1, vI 0, .val (.long (0 : Int64)), .second, vI 0, vR rB] [(.int (0 : Int32)), (.ref rB), (.long (0 : Int64))]) := fun t h => k70 t (by
      show Steps p.tables e below (T62.setTop (mkF m 41 #[vR a1, vR ra, vI 0, vI 1, vI 0, .val (.long (0 : Int64)), .second, vI 0, vR rB] [(.ref rB), (.int (0 : Int32)), (.long (0 : Int64))])) _
      refine X62.arraylength hx (by rw [e62]; exact Ar69.1) (State.isArrayOf_alike hZ.alike Ar69.2.1) (g := (mkF m 41 #[vR a1, vR ra, vI 0, vI 1, vI 0, .val (.long (0 : Int64)), .second, vI 0, vR rB] [(.ref rB), (.int (0 : Int32)), (.long (0 : Int64))])) rfl rfl (hb hby d5_41) _ ?_
      rw [len_of Sz69 Ng69]
      refine XS.icmpNo X62.here hx rfl (hb hby d5_42) rfl (tlt (by decide : (0 : Int32) < (1 : Int32))).2.1 ?_
      refine XS.aload X62.here hx rfl (hb hby d5_45) rfl rfl ?_
      refine XS.iload X62.here hx rfl (hb hby d5_47) rfl ?_
      exact h)
  obtain ⟨cl71, Ar71, q71, Sz71, Ng71, Hs71, G71⟩ := id VB
  have hin71 : ¬ ((0 : Int32) < 0 ∨ cl71.slots.size ≤ ((0 : Int32)).toNatClampNeg) := inb_of Sz71 ⟨by decide, by decide⟩
  have hat71 : cl71.slots[((0 : Int32)).toNatClampNeg]? = some (.long vv) := Hs71.at hin71 (rfl)
  have k73 : Rch p e below S0 T62 (mkF m 83 #[vR a1, vR ra, vI 0, vI 1, vI 0, .val (.long vv), .second, vI 1, vR rB] [(.long (vv ^^^ (-1 : Int64))), (.int (0 : Int32))]) := fun t h => k72 t (by
      show Steps p.tables e below (T62.setTop (mkF m 49 #[vR a1, vR ra, vI 0, vI 1, vI 0, .val (.long (0 : Int64)), .second, vI 0, vR rB] [(.int (0 : Int32)), (.ref rB), (.long (0 : Int64))])) _
      refine X62.laload hx (j := (0 : Int32)) (v := (.long vv)) (by rw [e62]; exact Ar71.1) (State.isArrayOf_alike hZ.alike Ar71.2.1) Ar71.2.2 hin71 hat71 (g := (mkF m 49 #[vR a1, vR ra, vI 0, vI 1, vI 0, .val (.long (0 : Int64)), .second, vI 0, vR rB] [(.int (0 : Int32)), (.ref rB), (.long (0 : Int64))])) rfl rfl (hb hby d5_49) _ ?_
      refine XS.goto X62.here hx rfl (pc0 := 50) (pc' := 54) rfl (hb hby d5_50) (by decide) (by decide) ?_
      show Steps p.tables e below (T62.setTop (mkF m 54 #[vR a1, vR ra, vI 0, vI 1, vI 0, .val (.long (0 : Int64)), .second, vI 0, vR rB] [(.long vv), (.long (0 : Int64))])) _
      refine XS.lor X62.here hx rfl (hb hby d5_54) rfl ?_
      rw [own_or0 vv]
      refine XS.lstore X62.here hx rfl (hb hby d5_55) rfl (l' := #[vR a1, vR ra, vI 0, vI 1, vI 0, .val (.long vv), .second, vI 0, vR rB]) rfl ?_
      show Steps p.tables e below (T62.setTop (mkF m 57 #[vR a1, vR ra, vI 0, vI 1, vI 0, .val (.long vv), .second, vI 0, vR rB] [])) _
      refine XS.iinc X62.here hx rfl (hb hby d5_57) rfl (l' := #[vR a1, vR ra, vI 0, vI 1, vI 0, .val (.long vv), .second, vI ((0 : Int32) + (1 : Int32)), vR rB]) rfl ?_
      rw [(by decide : ((0 : Int32) + (1 : Int32)) = (1 : Int32))]
      refine XS.goto X62.here hx rfl (pc0 := 60) (pc' := 18) rfl (hb hby d5_60) (by decide) (by decide) ?_
      refine XS.iload X62.here hx rfl (hb hby d5_18) rfl ?_
      refine XS.iloadN X62.here hx rfl (hb hby d5_20) rfl ?_
      refine XS.icmpYes X62.here hx rfl (pc0 := 21) (pc' := 63) rfl (hb hby d5_21) rfl (flt (by decide : ¬ ((1 : Int32) < (1 : Int32)))).2.1 (by decide) (by decide) ?_
      refine XS.lload X62.here hx rfl (hb hby d5_63) rfl ?_
      refine X62.ldc2Long hx hown (mvT hZ (hw _ (gm 37 rfl))) (g := (mkF m 65 #[vR a1, vR ra, vI 0, vI 1, vI 0, .val (.long vv), .second, vI 1, vR rB] [(.long vv)])) rfl (hb hby d5_65) _ ?_
      refine XS.lcmp X62.here hx rfl (hb hby d5_68) rfl ?_
      show Steps p.tables e below (T62.setTop (mkF m 69 #[vR a1, vR ra, vI 0, vI 1, vI 0, .val (.long vv), .second, vI 1, vR rB] [(.int (lcmpW vv (-1 : Int64)))])) _
      rw [own_lc hN]
      refine XS.ifNo X62.here hx rfl (hb hby d5_69) rfl ((if0 _ _).trans (feq (by decide : ¬ ((1 : Int32) = (0 : Int32)))).1) ?_
      refine XS.iload X62.here hx rfl (hb hby d5_72) rfl ?_
      refine XS.bipush X62.here hx rfl (hb hby d5_74) ?_
      show Steps p.tables e below (T62.setTop (mkF m 76 #[vR a1, vR ra, vI 0, vI 1, vI 0, .val (.long vv), .second, vI 1, vR rB] [(.int (64 : Int32)), (.int (0 : Int32))])) _
      refine XS.imul X62.here hx rfl (hb hby d5_76) rfl ?_
      rw [(by decide : ((0 : Int32) * (64 : Int32)) = (0 : Int32))]
      refine XS.lload X62.here hx rfl (hb hby d5_77) rfl ?_
      refine X62.ldc2Long hx hown (mvT hZ (hw _ (gm 37 rfl))) (g := (mkF m 79 #[vR a1, vR ra, vI 0, vI 1, vI 0, .val (.long vv), .second, vI 1, vR rB] [(.long vv), (.int (0 : Int32))])) rfl (hb hby d5_79) _ ?_
      refine XS.lxor X62.here hx rfl (hb hby d5_82) rfl ?_
      exact h)
  obtain ⟨_, _, ⟨T74, L74, kk74, n74⟩, -, X74, ⟨Lc74, hQ74, l74, y74, z74⟩, st74⟩ := Jvm.LawKit.callS X62 hx (y := (⟨"java/lang/Long", "numberOfTrailingZeros", "(J)I"⟩ : MethodName)) hown (mvT hZ (hw _ (gm 38 rfl))) (mvT hZ (hw _ (gm 39 rfl))) (mvT hZ (hw _ (gm 40 rfl))) (mvT hZ (hw _ (gm 41 rfl))) (by decide) (backOf (W := 1) (rmNT l Z a0 hw []  vv r h0 n0 O0 hN) hZ (hw _ (gm 41 rfl)) (hw _ (gm 40 rfl)) (by decide) (by decide)) (g := (mkF m 83 #[vR a1, vR ra, vI 0, vI 1, vI 0, .val (.long vv), .second, vI 1, vR rB] [(.long (vv ^^^ (-1 : Int64))), (.int (0 : Int32))])) rfl (by rw [hml]; rfl) (argsL := [(.long (vv ^^^ (-1 : Int64)))]) (rest := [(.int (0 : Int32))]) (lenOf pd_5 rfl) rfl (by show 2 * 0 + _ ≤ _; exact Nat.le_of_eq rfl) (hb hby d5_83) (fun _ _ => ⟨rfl, e62, (by decide : 0 + 0 ≤ _), (by decide : 0 + 0 ≤ _)⟩)
  dsimp only [Pt.U, Pt.locs, Pt.cells, Pt.slots] at X74 l74 y74 z74 st74 hQ74
  subst l74 y74 z74
  obtain ⟨rfl, Nq74, hh74⟩ := hQ74
  have N74 := Fr.app N0 Nq74
  have k75 : Rch p e below S0 T74 (mkF m 86 #[vR a1, vR ra, vI 0, vI 1, vI 0, .val (.long vv), .second, vI 1, vR rB] [(.int r), (.int (0 : Int32))]) := fun t h => k73 t (st74 t h)
  have k76 : Rch p e below S0 T74 (mkF m 89 #[vR a1, vR ra, vI 0, vI 1, vI 0, .val (.long vv), .second, vI r, vR rB] []) := fun t h => k75 t (by
      show Steps p.tables e below (T74.setTop (mkF m 86 #[vR a1, vR ra, vI 0, vI 1, vI 0, .val (.long vv), .second, vI 1, vR rB] [(.int r), (.int (0 : Int32))])) _
      refine XS.iadd X74.here hx rfl (hb hby d5_86) rfl ?_
      rw [own_0add r]
      refine XS.istore X74.here hx rfl (hb hby d5_87) rfl (l' := #[vR a1, vR ra, vI 0, vI 1, vI 0, .val (.long vv), .second, vI r, vR rB]) rfl ?_
      exact h)
  rcases hl with hl | hl
  · have k78 : Rch p e below S0 T74 (mkF m 92 #[vR a1, vR ra, vI 0, vI 1, vI 0, .val (.long vv), .second, vI r, vR rB] [(.ref a1), (.int r)]) := fun t h => k76 t (by
        show Steps p.tables e below (T74.setTop (mkF m 89 #[vR a1, vR ra, vI 0, vI 1, vI 0, .val (.long vv), .second, vI r, vR rB] [])) _
        refine XS.iload X74.here hx rfl (hb hby d5_89) rfl ?_
        refine XS.aloadN X74.here hx rfl (hb hby d5_91) rfl rfl ?_
        exact h)
    obtain ⟨T77, X77, e77, st77⟩ := getF X74 hx hZ hown (host := "") (Or.inl (hw _ (gm 14 rfl))) Via.refl hh74 Fc (g := (mkF m 92 #[vR a1, vR ra, vI 0, vI 1, vI 0, .val (.long vv), .second, vI r, vR rB] [(.ref a1), (.int r)])) rfl rfl (hb hby d5_92)
    have k79 : Rch p e below S0 T77 (mkF m 95 #[vR a1, vR ra, vI 0, vI 1, vI 0, .val (.long vv), .second, vI r, vR rB] [(.int cn), (.int r)]) := fun t h => k78 t (st77 t h)
    have k80 : Rch p e below S0 T77 (mkF m 104 #[vR a1, vR ra, vI 0, vI 1, vI 0, .val (.long vv), .second, vI r, vR rB] [(.int r)]) := fun t h => k79 t (by
        show Steps p.tables e below (T77.setTop (mkF m 95 #[vR a1, vR ra, vI 0, vI 1, vI 0, .val (.long vv), .second, vI r, vR rB] [(.int cn), (.int r)])) _
        refine XS.icmpNo X77.here hx rfl (hb hby d5_95) rfl (tlt (hl.1 : r < cn)).2.1 ?_
        refine XS.iload X77.here hx rfl (hb hby d5_98) rfl ?_
        refine XS.goto X77.here hx rfl (pc0 := 100) (pc' := 104) rfl (hb hby d5_100) (by decide) (by decide) ?_
        exact h)
    obtain ⟨fs, hr, hrun, hended, hW, hsame⟩ := X77.leave (v := (some (.int r))) (fun h => by rw [Bd.returns] at h; cases h)
    refine ⟨_, _, ?_, hrun, hended, _, _, rfl, ?_, ⟨_, rfl⟩, hW, hsame.mono (by decide) (by decide)⟩
    · rw [← hS0]
      refine k80 _ ?_
      show Steps p.tables e below (T77.setTop (mkF m 104 #[vR a1, vR ra, vI 0, vI 1, vI 0, .val (.long vv), .second, vI r, vR rB] [(.int r)])) _
      exact retI X77 hx Bd.returns (hb hby d5_104) hr
    · show Q_rmF_B1 Z lo h0 n0 _ T77.heap _
      rw [e77]
      exact ⟨by rw [hl.2], N74, rfl⟩
  · have k82 : Rch p e below S0 T74 (mkF m 92 #[vR a1, vR ra, vI 0, vI 1, vI 0, .val (.long vv), .second, vI r, vR rB] [(.ref a1), (.int r)]) := fun t h => k76 t (by
        show Steps p.tables e below (T74.setTop (mkF m 89 #[vR a1, vR ra, vI 0, vI 1, vI 0, .val (.long vv), .second, vI r, vR rB] [])) _
        refine XS.iload X74.here hx rfl (hb hby d5_89) rfl ?_
        refine XS.aloadN X74.here hx rfl (hb hby d5_91) rfl rfl ?_
        exact h)
    obtain ⟨T81, X81, e81, st81⟩ := getF X74 hx hZ hown (host := "") (Or.inl (hw _ (gm 14 rfl))) Via.refl hh74 Fc (g := (mkF m 92 #[vR a1, vR ra, vI 0, vI 1, vI 0, .val (.long vv), .second, vI r, vR rB] [(.ref a1), (.int r)])) rfl rfl (hb hby d5_92)
    have k83 : Rch p e below S0 T81 (mkF m 95 #[vR a1, vR ra, vI 0, vI 1, vI 0, .val (.long vv), .second, vI r, vR rB] [(.int cn), (.int r)]) := fun t h => k82 t (st81 t h)
    have k84 : Rch p e below S0 T81 (mkF m 104 #[vR a1, vR ra, vI 0, vI 1, vI 0, .val (.long vv), .second, vI r, vR rB] [(.int (-1 : Int32))]) := fun t h => k83 t (by
        show Steps p.tables e below (T81.setTop (mkF m 95 #[vR a1, vR ra, vI 0, vI 1, vI 0, .val (.long vv), .second, vI r, vR rB] [(.int cn), (.int r)])) _
        refine XS.icmpYes X81.here hx rfl (pc0 := 95) (pc' := 103) rfl (hb hby d5_95) rfl (flt (hl.1 : ¬ (r < cn))).2.1 (by decide) (by decide) ?_
        refine XS.iconst X81.here hx rfl (hb hby d5_103) ?_
        exact h)
    obtain ⟨fs, hr, hrun, hended, hW, hsame⟩ := X81.leave (v := (some (.int (-1 : Int32)))) (fun h => by rw [Bd.returns] at h; cases h)
    refine ⟨_, _, ?_, hrun, hended, _, _, rfl, ?_, ⟨_, rfl⟩, hW, hsame.mono (by decide) (by decide)⟩
    · rw [← hS0]
      refine k84 _ ?_
      show Steps p.tables e below (T81.setTop (mkF m 104 #[vR a1, vR ra, vI 0, vI 1, vI 0, .val (.long vv), .second, vI r, vR rB] [(.int (-1 : Int32))])) _
      exact retI X81 hx Bd.returns (hb hby d5_104) hr
    · show Q_rmF_B1 Z lo h0 n0 _ T81.heap _
      rw [e81]
      exact ⟨by rw [hl.2], N74, rfl⟩
def Q_rmF_A2 (Z : State) (lo : Int32) (h0 : Heap) (n0 : Nat) (v : Option Value) (h : Heap) (L : List Loc) : Prop := v = some (.int lo) ∧ Fr n0 L ∧ h = h0
set_option maxRecDepth 65536 in
set_option maxHeartbeats 40000000 in
theorem rmF_A2 (l : Launch) (Z : State) (a0 : Array Value) (hw : ∀ d ∈ tables_1, d.before a0 Z = true) (ws : List Jvm.Cond) (a1 : Addr) (aH : Addr) (rA : Addr) (rB : Addr) (kH : ClassId) (kL : ClassId) (cn : Int32) (wd : Int32) (u : Int64) (vv : Int64) (ra : Addr) (kR : ClassId) (r : Int32) (lo : Int32) (h0 : Heap) (n0 : Nat) (O0 : Old Z n0 h0) (Fh : Fld Z h0 a1 "com/example/lumenplan/lumenplan/simulation/Wavelengths" "held" "[[J" (.ref aH)) (VH : Arv Z h0 aH kH (.array .long) (2 : Int32) [(.ref rA), (.ref rB)] .null) (VA : Arv Z h0 rA kL .long (1 : Int32) [(.long u)] (.long (0 : Int64))) (VB : Arv Z h0 rB kL .long (1 : Int32) [(.long vv)] (.long (0 : Int64))) (Fc : Fld Z h0 a1 "com/example/lumenplan/lumenplan/simulation/Wavelengths" "count" "I" (.int cn)) (Fw : Fld Z h0 a1 "com/example/lumenplan/lumenplan/simulation/Wavelengths" "words" "I" (.int wd)) (VR : Arv Z h0 ra kR .int (2 : Int32) [(.int (0 : Int32)), (.int (1 : Int32))] (.int (0 : Int32))) (hN : NT u r) (hw0 : (0 : Int32) < wd) (hl : (r < cn ∧ lo = r) ∨ (¬ r < cn ∧ lo = (-1 : Int32))) :
    MetFree l (⟨"com/example/lumenplan/lumenplan/simulation/Wavelengths", "lowestFree", "([III)I"⟩ : MethodName) (head1 (Jvm.Cond.code (⟨"com/example/lumenplan/lumenplan/simulation/Wavelengths", "lowestFree", "([III)I"⟩ : MethodName) prog_37_method_4_code 9 (some .int) :: ws) ({ frames := 2, cells := 0, slots := 0, locals := 64 } : Room)) (fun a U => a = #[(.ref a1), (.ref ra), (.int (0 : Int32)), (.int (1 : Int32))] ∧ Z.Warmed39 U.vm ∧ U.heap = h0) (fun _ _ _ _ _ => True) (fun _ U o U' => ∃ v L, o = .returned v ∧ Q_rmF_A2 Z lo h0 n0 v U'.heap L ∧ FrameEnd U o U' L ({ frames := 2, cells := 0, slots := 0, locals := 64 } : Room).cells ({ frames := 2, cells := 0, slots := 0, locals := 64 } : Room).slots) := by
  refine MetFree.of_bodySF (plainFor_of_name pn_Wavelengths) hisR ?_
  intro p e s m args below meth c s₁ Bd hml0 hP hK
  obtain ⟨rfl, hZ, hh⟩ := hP
  have hx := Bd.exec
  have hby := Bd.bytes
  have hml : c.maxLocals = 9 := hml0
  have hown : s.vm.findClass "com/example/lumenplan/lumenplan/simulation/Wavelengths" = some m.cls := findClass_of_methodNamed Bd.named
  have hnm := (name_of_methodNamed Bd.named Bd.method).1
  have X0 : Stand p l e ({ frames := 2, cells := 0, slots := 0, locals := 64 } : Room) s m #[(.ref a1), (.ref ra), (.int (0 : Int32)), (.int (1 : Int32))] below meth c s₁ [] 0 0 := Stand.of_body Bd
  have e0 : s₁.heap = h0 := by rw [← hh, Bd.state]; rfl
  have N0 := Fr.nil n0
  obtain ⟨S0, hS0⟩ : ∃ z, z = s₁.setTop (entryFrame m #[(.ref a1), (.ref ra), (.int (0 : Int32)), (.int (1 : Int32))] 9) := ⟨_, rfl⟩
  have k0 : Rch p e below S0 s₁ (mkF m 0 #[vR a1, vR ra, vI 0, vI 1, vU, vU, vU, vU, vU] []) := fun t kq => hS0 ▸ castTop (ef_5 m a1 ra (0 : Int32) (1 : Int32)) kq
  have k86 : Rch p e below S0 s₁ (mkF m 6 #[vR a1, vR ra, vI 0, vI 1, vI 0, vU, vU, vU, vU] [(.ref a1), (.int (0 : Int32))]) := fun t h => k0 t (by
      show Steps p.tables e below (s₁.setTop (mkF m 0 #[vR a1, vR ra, vI 0, vI 1, vU, vU, vU, vU, vU] [])) _
      refine XS.iconst X0.here hx rfl (hb hby d5_0) ?_
      refine XS.istore X0.here hx rfl (hb hby d5_1) rfl (l' := #[vR a1, vR ra, vI 0, vI 1, vI 0, vU, vU, vU, vU]) rfl ?_
      refine XS.iload X0.here hx rfl (hb hby d5_3) rfl ?_
      refine XS.aloadN X0.here hx rfl (hb hby d5_5) rfl rfl ?_
      exact h)
  obtain ⟨T85, X85, e85, st85⟩ := getF X0 hx hZ hown (host := "") (Or.inl (hw _ (gm 17 rfl))) Via.refl e0 Fw (g := (mkF m 6 #[vR a1, vR ra, vI 0, vI 1, vI 0, vU, vU, vU, vU] [(.ref a1), (.int (0 : Int32))])) rfl rfl (hb hby d5_6)
  have k87 : Rch p e below S0 T85 (mkF m 9 #[vR a1, vR ra, vI 0, vI 1, vI 0, vU, vU, vU, vU] [(.int wd), (.int (0 : Int32))]) := fun t h => k86 t (st85 t h)
  have k89 : Rch p e below S0 T85 (mkF m 25 #[vR a1, vR ra, vI 0, vI 1, vI 0, .val (.long (0 : Int64)), .second, vI 0, vU] [(.ref a1)]) := fun t h => k87 t (by
      show Steps p.tables e below (T85.setTop (mkF m 9 #[vR a1, vR ra, vI 0, vI 1, vI 0, vU, vU, vU, vU] [(.int wd), (.int (0 : Int32))])) _
      refine XS.icmpNo X85.here hx rfl (hb hby d5_9) rfl (tlt (hw0 : (0 : Int32) < wd)).2.1 ?_
      refine XS.lconst X85.here hx rfl (hb hby d5_12) ?_
      refine XS.lstore X85.here hx rfl (hb hby d5_13) rfl (l' := #[vR a1, vR ra, vI 0, vI 1, vI 0, .val (.long (0 : Int64)), .second, vU, vU]) rfl ?_
      refine XS.iloadN X85.here hx rfl (hb hby d5_15) rfl ?_
      refine XS.istore X85.here hx rfl (hb hby d5_16) rfl (l' := #[vR a1, vR ra, vI 0, vI 1, vI 0, .val (.long (0 : Int64)), .second, vI 0, vU]) rfl ?_
      refine XS.iload X85.here hx rfl (hb hby d5_18) rfl ?_
      refine XS.iloadN X85.here hx rfl (hb hby d5_20) rfl ?_
      refine XS.icmpNo X85.here hx rfl (hb hby d5_21) rfl (tlt (by decide : (0 : Int32) < (1 : Int32))).2.1 ?_
      refine XS.aloadN X85.here hx rfl (hb hby d5_24) rfl rfl ?_
      exact h)
  obtain ⟨T88, X88, e88, st88⟩ := getF X85 hx hZ hown (host := "") (Or.inl (hw _ (gm 22 rfl))) Via.refl e85 Fh (g := (mkF m 25 #[vR a1, vR ra, vI 0, vI 1, vI 0, .val (.long (0 : Int64)), .second, vI 0, vU] [(.ref a1)])) rfl rfl (hb hby d5_25)
  have k90 : Rch p e below S0 T88 (mkF m 28 #[vR a1, vR ra, vI 0, vI 1, vI 0, .val (.long (0 : Int64)), .second, vI 0, vU] [(.ref aH)]) := fun t h => k89 t (st88 t h)
  have k92 : Rch p e below S0 T88 (mkF m 31 #[vR a1, vR ra, vI 0, vI 1, vI 0, .val (.long (0 : Int64)), .second, vI 0, vU] [(.int (0 : Int32)), (.ref ra), (.ref aH)]) := fun t h => k90 t (by
      show Steps p.tables e below (T88.setTop (mkF m 28 #[vR a1, vR ra, vI 0, vI 1, vI 0, .val (.long (0 : Int64)), .second, vI 0, vU] [(.ref aH)])) _
      refine XS.aloadN X88.here hx rfl (hb hby d5_28) rfl rfl ?_
      refine XS.iload X88.here hx rfl (hb hby d5_29) rfl ?_
      exact h)
  obtain ⟨cl91, Ar91, q91, Sz91, Ng91, Hs91, G91⟩ := id VR
  have hin91 : ¬ ((0 : Int32) < 0 ∨ cl91.slots.size ≤ ((0 : Int32)).toNatClampNeg) := inb_of Sz91 ⟨by decide, by decide⟩
  have hat91 : cl91.slots[((0 : Int32)).toNatClampNeg]? = some (.int (0 : Int32)) := Hs91.at hin91 (rfl)
  have k94 : Rch p e below S0 T88 (mkF m 32 #[vR a1, vR ra, vI 0, vI 1, vI 0, .val (.long (0 : Int64)), .second, vI 0, vU] [(.int (0 : Int32)), (.ref aH)]) := fun t h => k92 t (by
      show Steps p.tables e below (T88.setTop (mkF m 31 #[vR a1, vR ra, vI 0, vI 1, vI 0, .val (.long (0 : Int64)), .second, vI 0, vU] [(.int (0 : Int32)), (.ref ra), (.ref aH)])) _
      refine X88.iaload hx (j := (0 : Int32)) (v := (.int (0 : Int32))) (by rw [e88]; exact Ar91.1) (State.isArrayOf_alike hZ.alike Ar91.2.1) Ar91.2.2 hin91 hat91 (g := (mkF m 31 #[vR a1, vR ra, vI 0, vI 1, vI 0, .val (.long (0 : Int64)), .second, vI 0, vU] [(.int (0 : Int32)), (.ref ra), (.ref aH)])) rfl rfl (hb hby d5_31) _ ?_
      exact h)
  obtain ⟨cl93, Ar93, q93, Sz93, Ng93, Hs93, G93⟩ := id VH
  have hin93 : ¬ ((0 : Int32) < 0 ∨ cl93.slots.size ≤ ((0 : Int32)).toNatClampNeg) := inb_of Sz93 ⟨by decide, by decide⟩
  have hat93 : cl93.slots[((0 : Int32)).toNatClampNeg]? = some (.ref rA) := Hs93.at hin93 (rfl)
  have k96 : Rch p e below S0 T88 (mkF m 41 #[vR a1, vR ra, vI 0, vI 1, vI 0, .val (.long (0 : Int64)), .second, vI 0, vR rA] [(.ref rA), (.int (0 : Int32)), (.long (0 : Int64))]) := fun t h => k94 t (by
      show Steps p.tables e below (T88.setTop (mkF m 32 #[vR a1, vR ra, vI 0, vI 1, vI 0, .val (.long (0 : Int64)), .second, vI 0, vU] [(.int (0 : Int32)), (.ref aH)])) _
      refine X88.aaload hx (j := (0 : Int32)) (v := (.ref rA)) (by rw [e88]; exact Ar93.1) (State.isArrayOf_alike hZ.alike Ar93.2.1) rfl Ar93.2.2 hin93 hat93 (g := (mkF m 32 #[vR a1, vR ra, vI 0, vI 1, vI 0, .val (.long (0 : Int64)), .second, vI 0, vU] [(.int (0 : Int32)), (.ref aH)])) rfl rfl (hb hby d5_32) _ ?_
      refine XS.astore X88.here hx rfl (hb hby d5_33) rfl rfl (l' := #[vR a1, vR ra, vI 0, vI 1, vI 0, .val (.long (0 : Int64)), .second, vI 0, vR rA]) rfl ?_
      refine XS.lload X88.here hx rfl (hb hby d5_35) rfl ?_
      refine XS.iload X88.here hx rfl (hb hby d5_37) rfl ?_
      refine XS.aload X88.here hx rfl (hb hby d5_39) rfl rfl ?_
      exact h)
  obtain ⟨cl95, Ar95, q95, Sz95, Ng95, Hs95, G95⟩ := id VA
  have k98 : Rch p e below S0 T88 (mkF m 49 #[vR a1, vR ra, vI 0, vI 1, vI 0, .val (.long (0 : Int64)), .second, vI 0, vR rA] [(.int (0 : Int32)), (.ref rA), (.long (0 : Int64))]) := fun t h => k96 t (by
      show Steps p.tables e below (T88.setTop (mkF m 41 #[vR a1, vR ra, vI 0, vI 1, vI 0, .val (.long (0 : Int64)), .second, vI 0, vR rA] [(.ref rA), (.int (0 : Int32)), (.long (0 : Int64))])) _
      refine X88.arraylength hx (by rw [e88]; exact Ar95.1) (State.isArrayOf_alike hZ.alike Ar95.2.1) (g := (mkF m 41 #[vR a1, vR ra, vI 0, vI 1, vI 0, .val (.long (0 : Int64)), .second, vI 0, vR rA] [(.ref rA), (.int (0 : Int32)), (.long (0 : Int64))])) rfl rfl (hb hby d5_41) _ ?_
      rw [len_of Sz95 Ng95]
      refine XS.icmpNo X88.here hx rfl (hb hby d5_42) rfl (tlt (by decide : (0 : Int32) < (1 : Int32))).2.1 ?_
      refine XS.aload X88.here hx rfl (hb hby d5_45) rfl rfl ?_
      refine XS.iload X88.here hx rfl (hb hby d5_47) rfl ?_
      exact h)
  obtain ⟨cl97, Ar97, q97, Sz97, Ng97, Hs97, G97⟩ := id VA
  have hin97 : ¬ ((0 : Int32) < 0 ∨ cl97.slots.size ≤ ((0 : Int32)).toNatClampNeg) := inb_of Sz97 ⟨by decide, by decide⟩
  have hat97 : cl97.slots[((0 : Int32)).toNatClampNeg]? = some (.long u) := Hs97.at hin97 (rfl)
  have k99 : Rch p e below S0 T88 (mkF m 83 #[vR a1, vR ra, vI 0, vI 1, vI 0, .val (.long u), .second, vI 1, vR rA] [(.long (u ^^^ (-1 : Int64))), (.int (0 : Int32))]) := fun t h => k98 t (by
      show Steps p.tables e below (T88.setTop (mkF m 49 #[vR a1, vR ra, vI 0, vI 1, vI 0, .val (.long (0 : Int64)), .second, vI 0, vR rA] [(.int (0 : Int32)), (.ref rA), (.long (0 : Int64))])) _
      refine X88.laload hx (j := (0 : Int32)) (v := (.long u)) (by rw [e88]; exact Ar97.1) (State.isArrayOf_alike hZ.alike Ar97.2.1) Ar97.2.2 hin97 hat97 (g := (mkF m 49 #[vR a1, vR ra, vI 0, vI 1, vI 0, .val (.long (0 : Int64)), .second, vI 0, vR rA] [(.int (0 : Int32)), (.ref rA), (.long (0 : Int64))])) rfl rfl (hb hby d5_49) _ ?_
      refine XS.goto X88.here hx rfl (pc0 := 50) (pc' := 54) rfl (hb hby d5_50) (by decide) (by decide) ?_
      show Steps p.tables e below (T88.setTop (mkF m 54 #[vR a1, vR ra, vI 0, vI 1, vI 0, .val (.long (0 : Int64)), .second, vI 0, vR rA] [(.long u), (.long (0 : Int64))])) _
      refine XS.lor X88.here hx rfl (hb hby d5_54) rfl ?_
      rw [own_or0 u]
      refine XS.lstore X88.here hx rfl (hb hby d5_55) rfl (l' := #[vR a1, vR ra, vI 0, vI 1, vI 0, .val (.long u), .second, vI 0, vR rA]) rfl ?_
      show Steps p.tables e below (T88.setTop (mkF m 57 #[vR a1, vR ra, vI 0, vI 1, vI 0, .val (.long u), .second, vI 0, vR rA] [])) _
      refine XS.iinc X88.here hx rfl (hb hby d5_57) rfl (l' := #[vR a1, vR ra, vI 0, vI 1, vI 0, .val (.long u), .second, vI ((0 : Int32) + (1 : Int32)), vR rA]) rfl ?_
      rw [(by decide : ((0 : Int32) + (1 : Int32)) = (1 : Int32))]
      refine XS.goto X88.here hx rfl (pc0 := 60) (pc' := 18) rfl (hb hby d5_60) (by decide) (by decide) ?_
      refine XS.iload X88.here hx rfl (hb hby d5_18) rfl ?_
      refine XS.iloadN X88.here hx rfl (hb hby d5_20) rfl ?_
      refine XS.icmpYes X88.here hx rfl (pc0 := 21) (pc' := 63) rfl (hb hby d5_21) rfl (flt (by decide : ¬ ((1 : Int32) < (1 : Int32)))).2.1 (by decide) (by decide) ?_
      refine XS.lload X88.here hx rfl (hb hby d5_63) rfl ?_
      refine X88.ldc2Long hx hown (mvT hZ (hw _ (gm 37 rfl))) (g := (mkF m 65 #[vR a1, vR ra, vI 0, vI 1, vI 0, .val (.long u), .second, vI 1, vR rA] [(.long u)])) rfl (hb hby d5_65) _ ?_
      refine XS.lcmp X88.here hx rfl (hb hby d5_68) rfl ?_
      show Steps p.tables e below (T88.setTop (mkF m 69 #[vR a1, vR ra, vI 0, vI 1, vI 0, .val (.long u), .second, vI 1, vR rA] [(.int (lcmpW u (-1 : Int64)))])) _
      rw [own_lc hN]
      refine XS.ifNo X88.here hx rfl (hb hby d5_69) rfl ((if0 _ _).trans (feq (by decide : ¬ ((1 : Int32) = (0 : Int32)))).1) ?_
      refine XS.iload X88.here hx rfl (hb hby d5_72) rfl ?_
      refine XS.bipush X88.here hx rfl (hb hby d5_74) ?_
      show Steps p.tables e below (T88.setTop (mkF m 76 #[vR a1, vR ra, vI 0, vI 1, vI 0, .val (.long u), .second, vI 1, vR rA] [(.int (64 : Int32)), (.int (0 : Int32))])) _
      refine XS.imul X88.here hx rfl (hb hby d5_76) rfl ?_
      rw [(by decide : ((0 : Int32) * (64 : Int32)) = (0 : Int32))]
      refine XS.lload X88.here hx rfl (hb hby d5_77) rfl ?_
      refine X88.ldc2Long hx hown (mvT hZ (hw _ (gm 37 rfl))) (g := (mkF m 79 #[vR a1, vR ra, vI 0, vI 1, vI 0, .val (.long u), .second, vI 1, vR rA] [(.long u), (.int (0 : Int32))])) rfl (hb hby d5_79) _ ?_
      refine XS.lxor X88.here hx rfl (hb hby d5_82) rfl ?_
      exact h)
  obtain ⟨_, _, ⟨T100, L100, kk100, n100⟩, -, X100, ⟨Lc100, hQ100, l100, y100, z100⟩, st100⟩ := Jvm.LawKit.callS X88 hx (y := (⟨"java/lang/Long", "numberOfTrailingZeros", "(J)I"⟩ : MethodName)) hown (mvT hZ (hw _ (gm 38 rfl))) (mvT hZ (hw _ (gm 39 rfl))) (mvT hZ (hw _ (gm 40 rfl))) (mvT hZ (hw _ (gm 41 rfl))) (by decide) (backOf (W := 1) (rmNT l Z a0 hw []  u r h0 n0 O0 hN) hZ (hw _ (gm 41 rfl)) (hw _ (gm 40 rfl)) (by decide) (by decide)) (g := (mkF m 83 #[vR a1, vR ra, vI 0, vI 1, vI 0, .val (.long u), .second, vI 1, vR rA] [(.long (u ^^^ (-1 : Int64))), (.int (0 : Int32))])) rfl (by rw [hml]; rfl) (argsL := [(.long (u ^^^ (-1 : Int64)))]) (rest := [(.int (0 : Int32))]) (lenOf pd_5 rfl) rfl (by show 2 * 0 + _ ≤ _; exact Nat.le_of_eq rfl) (hb hby d5_83) (fun _ _ => ⟨rfl, e88, (by decide : 0 + 0 ≤ _), (by decide : 0 + 0 ≤ _)⟩)
  dsimp only [Pt.U, Pt.locs, Pt.cells, Pt.slots] at X100 l100 y100 z100 st100 hQ100
  subst l100 y100 z100
  obtain ⟨rfl, Nq100, hh100⟩ := hQ100
  have N100 := Fr.app N0 Nq100
  have k101 : Rch p e below S0 T100 (mkF m 86 #[vR a1, vR ra, vI 0, vI 1, vI 0, .val (.long u), .second, vI 1, vR rA] [(.int r), (.int (0 : Int32))]) := fun t h => k99 t (st100 t h)
  have k102 : Rch p e below S0 T100 (mkF m 89 #[vR a1, vR ra, vI 0, vI 1, vI 0, .val (.long u), .second, vI r, vR rA] []) := fun t h => k101 t (by
      show Steps p.tables e below (T100.setTop (mkF m 86 #[vR a1, vR ra, vI 0, vI 1, vI 0, .val (.long u), .second, vI 1, vR rA] [(.int r), (.int (0 : Int32))])) _
      refine XS.iadd X100.here hx rfl (hb hby d5_86) rfl ?_
      rw [own_0add r]
      refine XS.istore X100.here hx rfl (hb hby d5_87) rfl (l' := #[vR a1, vR ra, vI 0, vI 1, vI 0, .val (.long u), .second, vI r, vR rA]) rfl ?_
      exact h)
  rcases hl with hl | hl
  · have k104 : Rch p e below S0 T100 (mkF m 92 #[vR a1, vR ra, vI 0, vI 1, vI 0, .val (.long u), .second, vI r, vR rA] [(.ref a1), (.int r)]) := fun t h => k102 t (by
        show Steps p.tables e below (T100.setTop (mkF m 89 #[vR a1, vR ra, vI 0, vI 1, vI 0, .val (.long u), .second, vI r, vR rA] [])) _
        refine XS.iload X100.here hx rfl (hb hby d5_89) rfl ?_
        refine XS.aloadN X100.here hx rfl (hb hby d5_91) rfl rfl ?_
        exact h)
    obtain ⟨T103, X103, e103, st103⟩ := getF X100 hx hZ hown (host := "") (Or.inl (hw _ (gm 14 rfl))) Via.refl hh100 Fc (g := (mkF m 92 #[vR a1, vR ra, vI 0, vI 1, vI 0, .val (.long u), .second, vI r, vR rA] [(.ref a1), (.int r)])) rfl rfl (hb hby d5_92)
    have k105 : Rch p e below S0 T103 (mkF m 95 #[vR a1, vR ra, vI 0, vI 1, vI 0, .val (.long u), .second, vI r, vR rA] [(.int cn), (.int r)]) := fun t h => k104 t (st103 t h)
    have k106 : Rch p e below S0 T103 (mkF m 104 #[vR a1, vR ra, vI 0, vI 1, vI 0, .val (.long u), .second, vI r, vR rA] [(.int r)]) := fun t h => k105 t (by
        show Steps p.tables e below (T103.setTop (mkF m 95 #[vR a1, vR ra, vI 0, vI 1, vI 0, .val (.long u), .second, vI r, vR rA] [(.int cn), (.int r)])) _
        refine XS.icmpNo X103.here hx rfl (hb hby d5_95) rfl (tlt (hl.1 : r < cn)).2.1 ?_
        refine XS.iload X103.here hx rfl (hb hby d5_98) rfl ?_
        refine XS.goto X103.here hx rfl (pc0 := 100) (pc' := 104) rfl (hb hby d5_100) (by decide) (by decide) ?_
        exact h)
    obtain ⟨fs, hr, hrun, hended, hW, hsame⟩ := X103.leave (v := (some (.int r))) (fun h => by rw [Bd.returns] at h; cases h)
    refine ⟨_, _, ?_, hrun, hended, _, _, rfl, ?_, ⟨_, rfl⟩, hW, hsame.mono (by decide) (by decide)⟩
    · rw [← hS0]
      refine k106 _ ?_
      show Steps p.tables e below (T103.setTop (mkF m 104 #[vR a1, vR ra, vI 0, vI 1, vI 0, .val (.long u), .second, vI r, vR rA] [(.int r)])) _
      exact retI X103 hx Bd.returns (hb hby d5_104) hr
    · show Q_rmF_A2 Z lo h0 n0 _ T103.heap _
      rw [e103]
      exact ⟨by rw [hl.2], N100, rfl⟩
  · have k108 : Rch p e below S0 T100 (mkF m 92 #[vR a1, vR ra, vI 0, vI 1, vI 0, .val (.long u), .second, vI r, vR rA] [(.ref a1), (.int r)]) := fun t h => k102 t (by
        show Steps p.tables e below (T100.setTop (mkF m 89 #[vR a1, vR ra, vI 0, vI 1, vI 0, .val (.long u), .second, vI r, vR rA] [])) _
        refine XS.iload X100.here hx rfl (hb hby d5_89) rfl ?_
        refine XS.aloadN X100.here hx rfl (hb hby d5_91) rfl rfl ?_
        exact h)
    obtain ⟨T107, X107, e107, st107⟩ := getF X100 hx hZ hown (host := "") (Or.inl (hw _ (gm 14 rfl))) Via.refl hh100 Fc (g := (mkF m 92 #[vR a1, vR ra, vI 0, vI 1, vI 0, .val (.long u), .second, vI r, vR rA] [(.ref a1), (.int r)])) rfl rfl (hb hby d5_92)
    have k109 : Rch p e below S0 T107 (mkF m 95 #[vR a1, vR ra, vI 0, vI 1, vI 0, .val (.long u), .second, vI r, vR rA] [(.int cn), (.int r)]) := fun t h => k108 t (st107 t h)
    have k110 : Rch p e below S0 T107 (mkF m 104 #[vR a1, vR ra, vI 0, vI 1, vI 0, .val (.long u), .second, vI r, vR rA] [(.int (-1 : Int32))]) := fun t h => k109 t (by
        show Steps p.tables e below (T107.setTop (mkF m 95 #[vR a1, vR ra, vI 0, vI 1, vI 0, .val (.long u), .second, vI r, vR rA] [(.int cn), (.int r)])) _
        refine XS.icmpYes X107.here hx rfl (pc0 := 95) (pc' := 103) rfl (hb hby d5_95) rfl (flt (hl.1 : ¬ (r < cn))).2.1 (by decide) (by decide) ?_
        refine XS.iconst X107.here hx rfl (hb hby d5_103) ?_
        exact h)
    obtain ⟨fs, hr, hrun, hended, hW, hsame⟩ := X107.leave (v := (some (.int (-1 : Int32)))) (fun h => by rw [Bd.returns] at h; cases h)
    refine ⟨_, _, ?_, hrun, hended, _, _, rfl, ?_, ⟨_, rfl⟩, hW, hsame.mono (by decide) (by decide)⟩
    · rw [← hS0]
      refine k110 _ ?_
      show Steps p.tables e below (T107.setTop (mkF m 104 #[vR a1, vR ra, vI 0, vI 1, vI 0, .val (.long u), .second, vI r, vR rA] [(.int (-1 : Int32))])) _
      exact retI X107 hx Bd.returns (hb hby d5_104) hr
    · show Q_rmF_A2 Z lo h0 n0 _ T107.heap _
      rw [e107]
      exact ⟨by rw [hl.2], N100, rfl⟩
def Q_rmF_B2 (Z : State) (lo : Int32) (h0 : Heap) (n0 : Nat) (v : Option Value) (h : Heap) (L : List Loc) : Prop := v = some (.int lo) ∧ Fr n0 L ∧ h = h0
set_option maxRecDepth 65536 in
set_option maxHeartbeats 40000000 in
theorem rmF_B2 (l : Launch) (Z : State) (a0 : Array Value) (hw : ∀ d ∈ tables_1, d.before a0 Z = true) (ws : List Jvm.Cond) (a1 : Addr) (aH : Addr) (rA : Addr) (rB : Addr) (kH : ClassId) (kL : ClassId) (cn : Int32) (wd : Int32) (u : Int64) (vv : Int64) (ra : Addr) (kR : ClassId) (r : Int32) (lo : Int32) (h0 : Heap) (n0 : Nat) (O0 : Old Z n0 h0) (Fh : Fld Z h0 a1 "com/example/lumenplan/lumenplan/simulation/Wavelengths" "held" "[[J" (.ref aH)) (VH : Arv Z h0 aH kH (.array .long) (2 : Int32) [(.ref rA), (.ref rB)] .null) (VA : Arv Z h0 rA kL .long (1 : Int32) [(.long u)] (.long (0 : Int64))) (VB : Arv Z h0 rB kL .long (1 : Int32) [(.long vv)] (.long (0 : Int64))) (Fc : Fld Z h0 a1 "com/example/lumenplan/lumenplan/simulation/Wavelengths" "count" "I" (.int cn)) (Fw : Fld Z h0 a1 "com/example/lumenplan/lumenplan/simulation/Wavelengths" "words" "I" (.int wd)) (VR : Arv Z h0 ra kR .int (2 : Int32) [(.int (0 : Int32)), (.int (1 : Int32))] (.int (0 : Int32))) (hN : NT vv r) (hw0 : (0 : Int32) < wd) (hl : (r < cn ∧ lo = r) ∨ (¬ r < cn ∧ lo = (-1 : Int32))) :
    MetFree l (⟨"com/example/lumenplan/lumenplan/simulation/Wavelengths", "lowestFree", "([III)I"⟩ : MethodName) (head1 (Jvm.Cond.code (⟨"com/example/lumenplan/lumenplan/simulation/Wavelengths", "lowestFree", "([III)I"⟩ : MethodName) prog_37_method_4_code 9 (some .int) :: ws) ({ frames := 2, cells := 0, slots := 0, locals := 64 } : Room)) (fun a U => a = #[(.ref a1), (.ref ra), (.int (1 : Int32)), (.int (2 : Int32))] ∧ Z.Warmed39 U.vm ∧ U.heap = h0) (fun _ _ _ _ _ => True) (fun _ U o U' => ∃ v L, o = .returned v ∧ Q_rmF_B2 Z lo h0 n0 v U'.heap L ∧ FrameEnd U o U' L ({ frames := 2, cells := 0, slots := 0, locals := 64 } : Room).cells ({ frames := 2, cells := 0, slots := 0, locals := 64 } : Room).slots) := by
  refine MetFree.of_bodySF (plainFor_of_name pn_Wavelengths) hisR ?_
  intro p e s m args below meth c s₁ Bd hml0 hP hK
  obtain ⟨rfl, hZ, hh⟩ := hP
  have hx := Bd.exec
  have hby := Bd.bytes
  have hml : c.maxLocals = 9 := hml0
  have hown : s.vm.findClass "com/example/lumenplan/lumenplan/simulation/Wavelengths" = some m.cls := findClass_of_methodNamed Bd.named
  have hnm := (name_of_methodNamed Bd.named Bd.method).1
  have X0 : Stand p l e ({ frames := 2, cells := 0, slots := 0, locals := 64 } : Room) s m #[(.ref a1), (.ref ra), (.int (1 : Int32)), (.int (2 : Int32))] below meth c s₁ [] 0 0 := Stand.of_body Bd
  have e0 : s₁.heap = h0 := by rw [← hh, Bd.state]; rfl
  have N0 := Fr.nil n0
  obtain ⟨S0, hS0⟩ : ∃ z, z = s₁.setTop (entryFrame m #[(.ref a1), (.ref ra), (.int (1 : Int32)), (.int (2 : Int32))] 9) := ⟨_, rfl⟩
  have k0 : Rch p e below S0 s₁ (mkF m 0 #[vR a1, vR ra, vI 1, vI 2, vU, vU, vU, vU, vU] []) := fun t kq => hS0 ▸ castTop (ef_5 m a1 ra (1 : Int32) (2 : Int32)) kq
  have k112 : Rch p e below S0 s₁ (mkF m 6 #[vR a1, vR ra, vI 1, vI 2, vI 0, vU, vU, vU, vU] [(.ref a1), (.int (0 : Int32))]) := fun t h => k0 t (by
      show Steps p.tables e below (s₁.setTop (mkF m 0 #[vR a1, vR ra, vI 1, vI 2, vU, vU, vU, vU, vU] [])) _
      refine XS.iconst X0.here hx rfl (hb hby d5_0) ?_
      refine XS.istore X0.here hx rfl (hb hby d5_1) rfl (l' := #[vR a1, vR ra, vI 1, vI 2, vI 0, vU, vU, vU, vU]) rfl ?_
      refine XS.iload X0.here hx rfl (hb hby d5_3) rfl ?_
      refine XS.aloadN X0.here hx rfl (hb hby d5_5) rfl rfl ?_
      exact h)
  obtain ⟨T111, X111, e111, st111⟩ := getF X0 hx hZ hown (host := "") (Or.inl (hw _ (gm 17 rfl))) Via.refl e0 Fw (g := (mkF m 6 #[vR a1, vR ra, vI 1, vI 2, vI 0, vU, vU, vU, vU] [(.ref a1), (.int (0 : Int32))])) rfl rfl (hb hby d5_6)
  have k113 : Rch p e below S0 T111 (mkF m 9 #[vR a1, vR ra, vI 1, vI 2, vI 0, vU, vU, vU, vU] [(.int wd), (.int (0 : Int32))]) := fun t h => k112 t (st111 t h)
  have k115 : Rch p e below S0 T111 (mkF m 25 #[vR a1, vR ra, vI 1, vI 2, vI 0, .val (.long (0 : Int64)), .second, vI 1, vU] [(.ref a1)]) := fun t h => k113 t (by
      show Steps p.tables e below (T111.setTop (mkF m 9 #[vR a1, vR ra, vI 1, vI 2, vI 0, vU, vU, vU, vU] [(.int wd), (.int (0 : Int32))])) _
      refine XS.icmpNo X111.here hx rfl (hb hby d5_9) rfl (tlt (hw0 : (0 : Int32) < wd)).2.1 ?_
      refine XS.lconst X111.here hx rfl (hb hby d5_12) ?_
      refine XS.lstore X111.here hx rfl (hb hby d5_13) rfl (l' := #[vR a1, vR ra, vI 1, vI 2, vI 0, .val (.long (0 : Int64)), .second, vU, vU]) rfl ?_
      refine XS.iloadN X111.here hx rfl (hb hby d5_15) rfl ?_
      refine XS.istore X111.here hx rfl (hb hby d5_16) rfl (l' := #[vR a1, vR ra, vI 1, vI 2, vI 0, .val (.long (0 : Int64)), .second, vI 1, vU]) rfl ?_
      refine XS.iload X111.here hx rfl (hb hby d5_18) rfl ?_
      refine XS.iloadN X111.here hx rfl (hb hby d5_20) rfl ?_
      refine XS.icmpNo X111.here hx rfl (hb hby d5_21) rfl (tlt (by decide : (1 : Int32) < (2 : Int32))).2.1 ?_
      refine XS.aloadN X111.here hx rfl (hb hby d5_24) rfl rfl ?_
      exact h)
  obtain ⟨T114, X114, e114, st114⟩ := getF X111 hx hZ hown (host := "") (Or.inl (hw _ (gm 22 rfl))) Via.refl e111 Fh (g := (mkF m 25 #[vR a1, vR ra, vI 1, vI 2, vI 0, .val (.long (0 : Int64)), .second, vI 1, vU] [(.ref a1)])) rfl rfl (hb hby d5_25)
  have k116 : Rch p e below S0 T114 (mkF m 28 #[vR a1, vR ra, vI 1, vI 2, vI 0, .val (.long (0 : Int64)), .second, vI 1, vU] [(.ref aH)]) := fun t h => k115 t (st114 t h)
  have k118 : Rch p e below S0 T114 (mkF m 31 #[vR a1, vR ra, vI 1, vI 2, vI 0, .val (.long (0 : Int64)), .second, vI 1, vU] [(.int (1 : Int32)), (.ref ra), (.ref aH)]) := fun t h => k116 t (by
      show Steps p.tables e below (T114.setTop (mkF m 28 #[vR a1, vR ra, vI 1, vI 2, vI 0, .val (.long (0 : Int64)), .second, vI 1, vU] [(.ref aH)])) _
      refine XS.aloadN X114.here hx rfl (hb hby d5_28) rfl rfl ?_
      refine XS.iload X114.here hx rfl (hb hby d5_29) rfl ?_
      exact h)
  obtain ⟨cl117, Ar117, q117, Sz117, Ng117, Hs117, G117⟩ := id VR
  have hin117 : ¬ ((1 : Int32) < 0 ∨ cl117.slots.size ≤ ((1 : Int32)).toNatClampNeg) := inb_of Sz117 ⟨by decide, by decide⟩
  have hat117 : cl117.slots[((1 : Int32)).toNatClampNeg]? = some (.int (1 : Int32)) := Hs117.at hin117 (rfl)
  have k120 : Rch p e below S0 T114 (mkF m 32 #[vR a1, vR ra, vI 1, vI 2, vI 0, .val (.long (0 : Int64)), .second, vI 1, vU] [(.int (1 : Int32)), (.ref aH)]) := fun t h => k118 t (by
      show Steps p.tables e below (T114.setTop (mkF m 31 #[vR a1, vR ra, vI 1, vI 2, vI 0, .val (.long (0 : Int64)), .second, vI 1, vU] [(.int (1 : Int32)), (.ref ra), (.ref aH)])) _
      refine X114.iaload hx (j := (1 : Int32)) (v := (.int (1 : Int32))) (by rw [e114]; exact Ar117.1) (State.isArrayOf_alike hZ.alike Ar117.2.1) Ar117.2.2 hin117 hat117 (g := (mkF m 31 #[vR a1, vR ra, vI 1, vI 2, vI 0, .val (.long (0 : Int64)), .second, vI 1, vU] [(.int (1 : Int32)), (.ref ra), (.ref aH)])) rfl rfl (hb hby d5_31) _ ?_
      exact h)
  obtain ⟨cl119, Ar119, q119, Sz119, Ng119, Hs119, G119⟩ := id VH
  have hin119 : ¬ ((1 : Int32) < 0 ∨ cl119.slots.size ≤ ((1 : Int32)).toNatClampNeg) := inb_of Sz119 ⟨by decide, by decide⟩
  have hat119 : cl119.slots[((1 : Int32)).toNatClampNeg]? = some (.ref rB) := Hs119.at hin119 (rfl)
  have k122 : Rch p e below S0 T114 (mkF m 41 #[vR a1, vR ra, vI 1, vI 2, vI 0, .val (.long (0 : Int64)), .second, vI 1, vR rB] [(.ref rB), (.int (0 : Int32)), (.long (0 : Int64))]) := fun t h => k120 t (by
      show Steps p.tables e below (T114.setTop (mkF m 32 #[vR a1, vR ra, vI 1, vI 2, vI 0, .val (.long (0 : Int64)), .second, vI 1, vU] [(.int (1 : Int32)), (.ref aH)])) _
      refine X114.aaload hx (j := (1 : Int32)) (v := (.ref rB)) (by rw [e114]; exact Ar119.1) (State.isArrayOf_alike hZ.alike Ar119.2.1) rfl Ar119.2.2 hin119 hat119 (g := (mkF m 32 #[vR a1, vR ra, vI 1, vI 2, vI 0, .val (.long (0 : Int64)), .second, vI 1, vU] [(.int (1 : Int32)), (.ref aH)])) rfl rfl (hb hby d5_32) _ ?_
      refine XS.astore X114.here hx rfl (hb hby d5_33) rfl rfl (l' := #[vR a1, vR ra, vI 1, vI 2, vI 0, .val (.long (0 : Int64)), .second, vI 1, vR rB]) rfl ?_
      refine XS.lload X114.here hx rfl (hb hby d5_35) rfl ?_
      refine XS.iload X114.here hx rfl (hb hby d5_37) rfl ?_
      refine XS.aload X114.here hx rfl (hb hby d5_39) rfl rfl ?_
      exact h)
  obtain ⟨cl121, Ar121, q121, Sz121, Ng121, Hs121, G121⟩ := id VB
  have k124 : Rch p e below S0 T114 (mkF m 49 #[vR a1, vR ra, vI 1, vI 2, vI 0, .val (.long (0 : Int64)), .second, vI 1, vR rB] [(.int (0 : Int32)), (.ref rB), (.long (0 : Int64))]) := fun t h => k122 t (by
      show Steps p.tables e below (T114.setTop (mkF m 41 #[vR a1, vR ra, vI 1, vI 2, vI 0, .val (.long (0 : Int64)), .second, vI 1, vR rB] [(.ref rB), (.int (0 : Int32)), (.long (0 : Int64))])) _
      refine X114.arraylength hx (by rw [e114]; exact Ar121.1) (State.isArrayOf_alike hZ.alike Ar121.2.1) (g := (mkF m 41 #[vR a1, vR ra, vI 1, vI 2, vI 0, .val (.long (0 : Int64)), .second, vI 1, vR rB] [(.ref rB), (.int (0 : Int32)), (.long (0 : Int64))])) rfl rfl (hb hby d5_41) _ ?_
      rw [len_of Sz121 Ng121]
      refine XS.icmpNo X114.here hx rfl (hb hby d5_42) rfl (tlt (by decide : (0 : Int32) < (1 : Int32))).2.1 ?_
      refine XS.aload X114.here hx rfl (hb hby d5_45) rfl rfl ?_
      refine XS.iload X114.here hx rfl (hb hby d5_47) rfl ?_
      exact h)
  obtain ⟨cl123, Ar123, q123, Sz123, Ng123, Hs123, G123⟩ := id VB
  have hin123 : ¬ ((0 : Int32) < 0 ∨ cl123.slots.size ≤ ((0 : Int32)).toNatClampNeg) := inb_of Sz123 ⟨by decide, by decide⟩
  have hat123 : cl123.slots[((0 : Int32)).toNatClampNeg]? = some (.long vv) := Hs123.at hin123 (rfl)
  have k125 : Rch p e below S0 T114 (mkF m 83 #[vR a1, vR ra, vI 1, vI 2, vI 0, .val (.long vv), .second, vI 2, vR rB] [(.long (vv ^^^ (-1 : Int64))), (.int (0 : Int32))]) := fun t h => k124 t (by
      show Steps p.tables e below (T114.setTop (mkF m 49 #[vR a1, vR ra, vI 1, vI 2, vI 0, .val (.long (0 : Int64)), .second, vI 1, vR rB] [(.int (0 : Int32)), (.ref rB), (.long (0 : Int64))])) _
      refine X114.laload hx (j := (0 : Int32)) (v := (.long vv)) (by rw [e114]; exact Ar123.1) (State.isArrayOf_alike hZ.alike Ar123.2.1) Ar123.2.2 hin123 hat123 (g := (mkF m 49 #[vR a1, vR ra, vI 1, vI 2, vI 0, .val (.long (0 : Int64)), .second, vI 1, vR rB] [(.int (0 : Int32)), (.ref rB), (.long (0 : Int64))])) rfl rfl (hb hby d5_49) _ ?_
      refine XS.goto X114.here hx rfl (pc0 := 50) (pc' := 54) rfl (hb hby d5_50) (by decide) (by decide) ?_
      show Steps p.tables e below (T114.setTop (mkF m 54 #[vR a1, vR ra, vI 1, vI 2, vI 0, .val (.long (0 : Int64)), .second, vI 1, vR rB] [(.long vv), (.long (0 : Int64))])) _
      refine XS.lor X114.here hx rfl (hb hby d5_54) rfl ?_
      rw [own_or0 vv]
      refine XS.lstore X114.here hx rfl (hb hby d5_55) rfl (l' := #[vR a1, vR ra, vI 1, vI 2, vI 0, .val (.long vv), .second, vI 1, vR rB]) rfl ?_
      show Steps p.tables e below (T114.setTop (mkF m 57 #[vR a1, vR ra, vI 1, vI 2, vI 0, .val (.long vv), .second, vI 1, vR rB] [])) _
      refine XS.iinc X114.here hx rfl (hb hby d5_57) rfl (l' := #[vR a1, vR ra, vI 1, vI 2, vI 0, .val (.long vv), .second, vI ((1 : Int32) + (1 : Int32)), vR rB]) rfl ?_
      rw [(by decide : ((1 : Int32) + (1 : Int32)) = (2 : Int32))]
      refine XS.goto X114.here hx rfl (pc0 := 60) (pc' := 18) rfl (hb hby d5_60) (by decide) (by decide) ?_
      refine XS.iload X114.here hx rfl (hb hby d5_18) rfl ?_
      refine XS.iloadN X114.here hx rfl (hb hby d5_20) rfl ?_
      refine XS.icmpYes X114.here hx rfl (pc0 := 21) (pc' := 63) rfl (hb hby d5_21) rfl (flt (by decide : ¬ ((2 : Int32) < (2 : Int32)))).2.1 (by decide) (by decide) ?_
      refine XS.lload X114.here hx rfl (hb hby d5_63) rfl ?_
      refine X114.ldc2Long hx hown (mvT hZ (hw _ (gm 37 rfl))) (g := (mkF m 65 #[vR a1, vR ra, vI 1, vI 2, vI 0, .val (.long vv), .second, vI 2, vR rB] [(.long vv)])) rfl (hb hby d5_65) _ ?_
      refine XS.lcmp X114.here hx rfl (hb hby d5_68) rfl ?_
      show Steps p.tables e below (T114.setTop (mkF m 69 #[vR a1, vR ra, vI 1, vI 2, vI 0, .val (.long vv), .second, vI 2, vR rB] [(.int (lcmpW vv (-1 : Int64)))])) _
      rw [own_lc hN]
      refine XS.ifNo X114.here hx rfl (hb hby d5_69) rfl ((if0 _ _).trans (feq (by decide : ¬ ((1 : Int32) = (0 : Int32)))).1) ?_
      refine XS.iload X114.here hx rfl (hb hby d5_72) rfl ?_
      refine XS.bipush X114.here hx rfl (hb hby d5_74) ?_
      show Steps p.tables e below (T114.setTop (mkF m 76 #[vR a1, vR ra, vI 1, vI 2, vI 0, .val (.long vv), .second, vI 2, vR rB] [(.int (64 : Int32)), (.int (0 : Int32))])) _
      refine XS.imul X114.here hx rfl (hb hby d5_76) rfl ?_
      rw [(by decide : ((0 : Int32) * (64 : Int32)) = (0 : Int32))]
      refine XS.lload X114.here hx rfl (hb hby d5_77) rfl ?_
      refine X114.ldc2Long hx hown (mvT hZ (hw _ (gm 37 rfl))) (g := (mkF m 79 #[vR a1, vR ra, vI 1, vI 2, vI 0, .val (.long vv), .second, vI 2, vR rB] [(.long vv), (.int (0 : Int32))])) rfl (hb hby d5_79) _ ?_
      refine XS.lxor X114.here hx rfl (hb hby d5_82) rfl ?_
      exact h)
  obtain ⟨_, _, ⟨T126, L126, kk126, n126⟩, -, X126, ⟨Lc126, hQ126, l126, y126, z126⟩, st126⟩ := Jvm.LawKit.callS X114 hx (y := (⟨"java/lang/Long", "numberOfTrailingZeros", "(J)I"⟩ : MethodName)) hown (mvT hZ (hw _ (gm 38 rfl))) (mvT hZ (hw _ (gm 39 rfl))) (mvT hZ (hw _ (gm 40 rfl))) (mvT hZ (hw _ (gm 41 rfl))) (by decide) (backOf (W := 1) (rmNT l Z a0 hw []  vv r h0 n0 O0 hN) hZ (hw _ (gm 41 rfl)) (hw _ (gm 40 rfl)) (by decide) (by decide)) (g := (mkF m 83 #[vR a1, vR ra, vI 1, vI 2, vI 0, .val (.long vv), .second, vI 2, vR rB] [(.long (vv ^^^ (-1 : Int64))), (.int (0 : Int32))])) rfl (by rw [hml]; rfl) (argsL := [(.long (vv ^^^ (-1 : Int64)))]) (rest := [(.int (0 : Int32))]) (lenOf pd_5 rfl) rfl (by show 2 * 0 + _ ≤ _; exact Nat.le_of_eq rfl) (hb hby d5_83) (fun _ _ => ⟨rfl, e114, (by decide : 0 + 0 ≤ _), (by decide : 0 + 0 ≤ _)⟩)
  dsimp only [Pt.U, Pt.locs, Pt.cells, Pt.slots] at X126 l126 y126 z126 st126 hQ126
  subst l126 y126 z126
  obtain ⟨rfl, Nq126, hh126⟩ := hQ126
  have N126 := Fr.app N0 Nq126
  have k127 : Rch p e below S0 T126 (mkF m 86 #[vR a1, vR ra, vI 1, vI 2, vI 0, .val (.long vv), .second, vI 2, vR rB] [(.int r), (.int (0 : Int32))]) := fun t h => k125 t (st126 t h)
  have k128 : Rch p e below S0 T126 (mkF m 89 #[vR a1, vR ra, vI 1, vI 2, vI 0, .val (.long vv), .second, vI r, vR rB] []) := fun t h => k127 t (by
      show Steps p.tables e below (T126.setTop (mkF m 86 #[vR a1, vR ra, vI 1, vI 2, vI 0, .val (.long vv), .second, vI 2, vR rB] [(.int r), (.int (0 : Int32))])) _
      refine XS.iadd X126.here hx rfl (hb hby d5_86) rfl ?_
      rw [own_0add r]
      refine XS.istore X126.here hx rfl (hb hby d5_87) rfl (l' := #[vR a1, vR ra, vI 1, vI 2, vI 0, .val (.long vv), .second, vI r, vR rB]) rfl ?_
      exact h)
  rcases hl with hl | hl
  · have k130 : Rch p e below S0 T126 (mkF m 92 #[vR a1, vR ra, vI 1, vI 2, vI 0, .val (.long vv), .second, vI r, vR rB] [(.ref a1), (.int r)]) := fun t h => k128 t (by
        show Steps p.tables e below (T126.setTop (mkF m 89 #[vR a1, vR ra, vI 1, vI 2, vI 0, .val (.long vv), .second, vI r, vR rB] [])) _
        refine XS.iload X126.here hx rfl (hb hby d5_89) rfl ?_
        refine XS.aloadN X126.here hx rfl (hb hby d5_91) rfl rfl ?_
        exact h)
    obtain ⟨T129, X129, e129, st129⟩ := getF X126 hx hZ hown (host := "") (Or.inl (hw _ (gm 14 rfl))) Via.refl hh126 Fc (g := (mkF m 92 #[vR a1, vR ra, vI 1, vI 2, vI 0, .val (.long vv), .second, vI r, vR rB] [(.ref a1), (.int r)])) rfl rfl (hb hby d5_92)
    have k131 : Rch p e below S0 T129 (mkF m 95 #[vR a1, vR ra, vI 1, vI 2, vI 0, .val (.long vv), .second, vI r, vR rB] [(.int cn), (.int r)]) := fun t h => k130 t (st129 t h)
    have k132 : Rch p e below S0 T129 (mkF m 104 #[vR a1, vR ra, vI 1, vI 2, vI 0, .val (.long vv), .second, vI r, vR rB] [(.int r)]) := fun t h => k131 t (by
        show Steps p.tables e below (T129.setTop (mkF m 95 #[vR a1, vR ra, vI 1, vI 2, vI 0, .val (.long vv), .second, vI r, vR rB] [(.int cn), (.int r)])) _
        refine XS.icmpNo X129.here hx rfl (hb hby d5_95) rfl (tlt (hl.1 : r < cn)).2.1 ?_
        refine XS.iload X129.here hx rfl (hb hby d5_98) rfl ?_
        refine XS.goto X129.here hx rfl (pc0 := 100) (pc' := 104) rfl (hb hby d5_100) (by decide) (by decide) ?_
        exact h)
    obtain ⟨fs, hr, hrun, hended, hW, hsame⟩ := X129.leave (v := (some (.int r))) (fun h => by rw [Bd.returns] at h; cases h)
    refine ⟨_, _, ?_, hrun, hended, _, _, rfl, ?_, ⟨_, rfl⟩, hW, hsame.mono (by decide) (by decide)⟩
    · rw [← hS0]
      refine k132 _ ?_
      show Steps p.tables e below (T129.setTop (mkF m 104 #[vR a1, vR ra, vI 1, vI 2, vI 0, .val (.long vv), .second, vI r, vR rB] [(.int r)])) _
      exact retI X129 hx Bd.returns (hb hby d5_104) hr
    · show Q_rmF_B2 Z lo h0 n0 _ T129.heap _
      rw [e129]
      exact ⟨by rw [hl.2], N126, rfl⟩
  · have k134 : Rch p e below S0 T126 (mkF m 92 #[vR a1, vR ra, vI 1, vI 2, vI 0, .val (.long vv), .second, vI r, vR rB] [(.ref a1), (.int r)]) := fun t h => k128 t (by
        show Steps p.tables e below (T126.setTop (mkF m 89 #[vR a1, vR ra, vI 1, vI 2, vI 0, .val (.long vv), .second, vI r, vR rB] [])) _
        refine XS.iload X126.here hx rfl (hb hby d5_89) rfl ?_
        refine XS.aloadN X126.here hx rfl (hb hby d5_91) rfl rfl ?_
        exact h)
    obtain ⟨T133, X133, e133, st133⟩ := getF X126 hx hZ hown (host := "") (Or.inl (hw _ (gm 14 rfl))) Via.refl hh126 Fc (g := (mkF m 92 #[vR a1, vR ra, vI 1, vI 2, vI 0, .val (.long vv), .second, vI r, vR rB] [(.ref a1), (.int r)])) rfl rfl (hb hby d5_92)
    have k135 : Rch p e below S0 T133 (mkF m 95 #[vR a1, vR ra, vI 1, vI 2, vI 0, .val (.long vv), .second, vI r, vR rB] [(.int cn), (.int r)]) := fun t h => k134 t (st133 t h)
    have k136 : Rch p e below S0 T133 (mkF m 104 #[vR a1, vR ra, vI 1, vI 2, vI 0, .val (.long vv), .second, vI r, vR rB] [(.int (-1 : Int32))]) := fun t h => k135 t (by
        show Steps p.tables e below (T133.setTop (mkF m 95 #[vR a1, vR ra, vI 1, vI 2, vI 0, .val (.long vv), .second, vI r, vR rB] [(.int cn), (.int r)])) _
        refine XS.icmpYes X133.here hx rfl (pc0 := 95) (pc' := 103) rfl (hb hby d5_95) rfl (flt (hl.1 : ¬ (r < cn))).2.1 (by decide) (by decide) ?_
        refine XS.iconst X133.here hx rfl (hb hby d5_103) ?_
        exact h)
    obtain ⟨fs, hr, hrun, hended, hW, hsame⟩ := X133.leave (v := (some (.int (-1 : Int32)))) (fun h => by rw [Bd.returns] at h; cases h)
    refine ⟨_, _, ?_, hrun, hended, _, _, rfl, ?_, ⟨_, rfl⟩, hW, hsame.mono (by decide) (by decide)⟩
    · rw [← hS0]
      refine k136 _ ?_
      show Steps p.tables e below (T133.setTop (mkF m 104 #[vR a1, vR ra, vI 1, vI 2, vI 0, .val (.long vv), .second, vI r, vR rB] [(.int (-1 : Int32))])) _
      exact retI X133 hx Bd.returns (hb hby d5_104) hr
    · show Q_rmF_B2 Z lo h0 n0 _ T133.heap _
      rw [e133]
      exact ⟨by rw [hl.2], N126, rfl⟩
def Q_rmF_F (Z : State) (lo : Int32) (h0 : Heap) (n0 : Nat) (v : Option Value) (h : Heap) (L : List Loc) : Prop := v = some (.int lo) ∧ Fr n0 L ∧ h = h0
set_option maxRecDepth 65536 in
set_option maxHeartbeats 40000000 in
theorem rmF_F (l : Launch) (Z : State) (a0 : Array Value) (hw : ∀ d ∈ tables_1, d.before a0 Z = true) (ws : List Jvm.Cond) (a1 : Addr) (aH : Addr) (rA : Addr) (rB : Addr) (kH : ClassId) (kL : ClassId) (cn : Int32) (wd : Int32) (u : Int64) (vv : Int64) (ra : Addr) (kR : ClassId) (r : Int32) (lo : Int32) (h0 : Heap) (n0 : Nat) (O0 : Old Z n0 h0) (Fh : Fld Z h0 a1 "com/example/lumenplan/lumenplan/simulation/Wavelengths" "held" "[[J" (.ref aH)) (VH : Arv Z h0 aH kH (.array .long) (2 : Int32) [(.ref rA), (.ref rB)] .null) (VA : Arv Z h0 rA kL .long (1 : Int32) [(.long u)] (.long (0 : Int64))) (VB : Arv Z h0 rB kL .long (1 : Int32) [(.long vv)] (.long (0 : Int64))) (Fc : Fld Z h0 a1 "com/example/lumenplan/lumenplan/simulation/Wavelengths" "count" "I" (.int cn)) (Fw : Fld Z h0 a1 "com/example/lumenplan/lumenplan/simulation/Wavelengths" "words" "I" (.int wd)) (VR : Arv Z h0 ra kR .int (2 : Int32) [(.int (0 : Int32)), (.int (1 : Int32))] (.int (0 : Int32))) (hN : NT (u ||| vv) r) (hw0 : (0 : Int32) < wd) (hl : (r < cn ∧ lo = r) ∨ (¬ r < cn ∧ lo = (-1 : Int32))) :
    MetFree l (⟨"com/example/lumenplan/lumenplan/simulation/Wavelengths", "lowestFree", "([III)I"⟩ : MethodName) (head1 (Jvm.Cond.code (⟨"com/example/lumenplan/lumenplan/simulation/Wavelengths", "lowestFree", "([III)I"⟩ : MethodName) prog_37_method_4_code 9 (some .int) :: ws) ({ frames := 2, cells := 0, slots := 0, locals := 64 } : Room)) (fun a U => a = #[(.ref a1), (.ref ra), (.int (0 : Int32)), (.int (2 : Int32))] ∧ Z.Warmed39 U.vm ∧ U.heap = h0) (fun _ _ _ _ _ => True) (fun _ U o U' => ∃ v L, o = .returned v ∧ Q_rmF_F Z lo h0 n0 v U'.heap L ∧ FrameEnd U o U' L ({ frames := 2, cells := 0, slots := 0, locals := 64 } : Room).cells ({ frames := 2, cells := 0, slots := 0, locals := 64 } : Room).slots) := by
  refine MetFree.of_bodySF (plainFor_of_name pn_Wavelengths) hisR ?_
  intro p e s m args below meth c s₁ Bd hml0 hP hK
  obtain ⟨rfl, hZ, hh⟩ := hP
  have hx := Bd.exec
  have hby := Bd.bytes
  have hml : c.maxLocals = 9 := hml0
  have hown : s.vm.findClass "com/example/lumenplan/lumenplan/simulation/Wavelengths" = some m.cls := findClass_of_methodNamed Bd.named
  have hnm := (name_of_methodNamed Bd.named Bd.method).1
  have X0 : Stand p l e ({ frames := 2, cells := 0, slots := 0, locals := 64 } : Room) s m #[(.ref a1), (.ref ra), (.int (0 : Int32)), (.int (2 : Int32))] below meth c s₁ [] 0 0 := Stand.of_body Bd
  have e0 : s₁.heap = h0 := by rw [← hh, Bd.state]; rfl
  have N0 := Fr.nil n0
  obtain ⟨S0, hS0⟩ : ∃ z, z = s₁.setTop (entryFrame m #[(.ref a1), (.ref ra), (.int (0 : Int32)), (.int (2 : Int32))] 9) := ⟨_, rfl⟩
  have k0 : Rch p e below S0 s₁ (mkF m 0 #[vR a1, vR ra, vI 0, vI 2, vU, vU, vU, vU, vU] []) := fun t kq => hS0 ▸ castTop (ef_5 m a1 ra (0 : Int32) (2 : Int32)) kq
  have k138 : Rch p e below S0 s₁ (mkF m 6 #[vR a1, vR ra, vI 0, vI 2, vI 0, vU, vU, vU, vU] [(.ref a1), (.int (0 : Int32))]) := fun t h => k0 t (by
      show Steps p.tables e below (s₁.setTop (mkF m 0 #[vR a1, vR ra, vI 0, vI 2, vU, vU, vU, vU, vU] [])) _
      refine XS.iconst X0.here hx rfl (hb hby d5_0) ?_
      refine XS.istore X0.here hx rfl (hb hby d5_1) rfl (l' := #[vR a1, vR ra, vI 0, vI 2, vI 0, vU, vU, vU, vU]) rfl ?_
      refine XS.iload X0.here hx rfl (hb hby d5_3) rfl ?_
      refine XS.aloadN X0.here hx rfl (hb hby d5_5) rfl rfl ?_
      exact h)
  obtain ⟨T137, X137, e137, st137⟩ := getF X0 hx hZ hown (host := "") (Or.inl (hw _ (gm 17 rfl))) Via.refl e0 Fw (g := (mkF m 6 #[vR a1, vR ra, vI 0, vI 2, vI 0, vU, vU, vU, vU] [(.ref a1), (.int (0 : Int32))])) rfl rfl (hb hby d5_6)
  have k139 : Rch p e below S0 T137 (mkF m 9 #[vR a1, vR ra, vI 0, vI 2, vI 0, vU, vU, vU, vU] [(.int wd), (.int (0 : Int32))]) := fun t h => k138 t (st137 t h)
  have k141 : Rch p e below S0 T137 (mkF m 25 #[vR a1, vR ra, vI 0, vI 2, vI 0, .val (.long (0 : Int64)), .second, vI 0, vU] [(.ref a1)]) := fun t h => k139 t (by
      show Steps p.tables e below (T137.setTop (mkF m 9 #[vR a1, vR ra, vI 0, vI 2, vI 0, vU, vU, vU, vU] [(.int wd), (.int (0 : Int32))])) _
      refine XS.icmpNo X137.here hx rfl (hb hby d5_9) rfl (tlt (hw0 : (0 : Int32) < wd)).2.1 ?_
      refine XS.lconst X137.here hx rfl (hb hby d5_12) ?_
      refine XS.lstore X137.here hx rfl (hb hby d5_13) rfl (l' := #[vR a1, vR ra, vI 0, vI 2, vI 0, .val (.long (0 : Int64)), .second, vU, vU]) rfl ?_
      refine XS.iloadN X137.here hx rfl (hb hby d5_15) rfl ?_
      refine XS.istore X137.here hx rfl (hb hby d5_16) rfl (l' := #[vR a1, vR ra, vI 0, vI 2, vI 0, .val (.long (0 : Int64)), .second, vI 0, vU]) rfl ?_
      refine XS.iload X137.here hx rfl (hb hby d5_18) rfl ?_
      refine XS.iloadN X137.here hx rfl (hb hby d5_20) rfl ?_
      refine XS.icmpNo X137.here hx rfl (hb hby d5_21) rfl (tlt (by decide : (0 : Int32) < (2 : Int32))).2.1 ?_
      refine XS.aloadN X137.here hx rfl (hb hby d5_24) rfl rfl ?_
      exact h)
  obtain ⟨T140, X140, e140, st140⟩ := getF X137 hx hZ hown (host := "") (Or.inl (hw _ (gm 22 rfl))) Via.refl e137 Fh (g := (mkF m 25 #[vR a1, vR ra, vI 0, vI 2, vI 0, .val (.long (0 : Int64)), .second, vI 0, vU] [(.ref a1)])) rfl rfl (hb hby d5_25)
  have k142 : Rch p e below S0 T140 (mkF m 28 #[vR a1, vR ra, vI 0, vI 2, vI 0, .val (.long (0 : Int64)), .second, vI 0, vU] [(.ref aH)]) := fun t h => k141 t (st140 t h)
  have k144 : Rch p e below S0 T140 (mkF m 31 #[vR a1, vR ra, vI 0, vI 2, vI 0, .val (.long (0 : Int64)), .second, vI 0, vU] [(.int (0 : Int32)), (.ref ra), (.ref aH)]) := fun t h => k142 t (by
      show Steps p.tables e below (T140.setTop (mkF m 28 #[vR a1, vR ra, vI 0, vI 2, vI 0, .val (.long (0 : Int64)), .second, vI 0, vU] [(.ref aH)])) _
      refine XS.aloadN X140.here hx rfl (hb hby d5_28) rfl rfl ?_
      refine XS.iload X140.here hx rfl (hb hby d5_29) rfl ?_
      exact h)
  obtain ⟨cl143, Ar143, q143, Sz143, Ng143, Hs143, G143⟩ := id VR
  have hin143 : ¬ ((0 : Int32) < 0 ∨ cl143.slots.size ≤ ((0 : Int32)).toNatClampNeg) := inb_of Sz143 ⟨by decide, by decide⟩
  have hat143 : cl143.slots[((0 : Int32)).toNatClampNeg]? = some (.int (0 : Int32)) := Hs143.at hin143 (rfl)
  have k146 : Rch p e below S0 T140 (mkF m 32 #[vR a1, vR ra, vI 0, vI 2, vI 0, .val (.long (0 : Int64)), .second, vI 0, vU] [(.int (0 : Int32)), (.ref aH)]) := fun t h => k144 t (by
      show Steps p.tables e below (T140.setTop (mkF m 31 #[vR a1, vR ra, vI 0, vI 2, vI 0, .val (.long (0 : Int64)), .second, vI 0, vU] [(.int (0 : Int32)), (.ref ra), (.ref aH)])) _
      refine X140.iaload hx (j := (0 : Int32)) (v := (.int (0 : Int32))) (by rw [e140]; exact Ar143.1) (State.isArrayOf_alike hZ.alike Ar143.2.1) Ar143.2.2 hin143 hat143 (g := (mkF m 31 #[vR a1, vR ra, vI 0, vI 2, vI 0, .val (.long (0 : Int64)), .second, vI 0, vU] [(.int (0 : Int32)), (.ref ra), (.ref aH)])) rfl rfl (hb hby d5_31) _ ?_
      exact h)
  obtain ⟨cl145, Ar145, q145, Sz145, Ng145, Hs145, G145⟩ := id VH
  have hin145 : ¬ ((0 : Int32) < 0 ∨ cl145.slots.size ≤ ((0 : Int32)).toNatClampNeg) := inb_of Sz145 ⟨by decide, by decide⟩
  have hat145 : cl145.slots[((0 : Int32)).toNatClampNeg]? = some (.ref rA) := Hs145.at hin145 (rfl)
  have k148 : Rch p e below S0 T140 (mkF m 41 #[vR a1, vR ra, vI 0, vI 2, vI 0, .val (.long (0 : Int64)), .second, vI 0, vR rA] [(.ref rA), (.int (0 : Int32)), (.long (0 : Int64))]) := fun t h => k146 t (by
      show Steps p.tables e below (T140.setTop (mkF m 32 #[vR a1, vR ra, vI 0, vI 2, vI 0, .val (.long (0 : Int64)), .second, vI 0, vU] [(.int (0 : Int32)), (.ref aH)])) _
      refine X140.aaload hx (j := (0 : Int32)) (v := (.ref rA)) (by rw [e140]; exact Ar145.1) (State.isArrayOf_alike hZ.alike Ar145.2.1) rfl Ar145.2.2 hin145 hat145 (g := (mkF m 32 #[vR a1, vR ra, vI 0, vI 2, vI 0, .val (.long (0 : Int64)), .second, vI 0, vU] [(.int (0 : Int32)), (.ref aH)])) rfl rfl (hb hby d5_32) _ ?_
      refine XS.astore X140.here hx rfl (hb hby d5_33) rfl rfl (l' := #[vR a1, vR ra, vI 0, vI 2, vI 0, .val (.long (0 : Int64)), .second, vI 0, vR rA]) rfl ?_
      refine XS.lload X140.here hx rfl (hb hby d5_35) rfl ?_
      refine XS.iload X140.here hx rfl (hb hby d5_37) rfl ?_
      refine XS.aload X140.here hx rfl (hb hby d5_39) rfl rfl ?_
      exact h)
  obtain ⟨cl147, Ar147, q147, Sz147, Ng147, Hs147, G147⟩ := id VA
  have k150 : Rch p e below S0 T140 (mkF m 49 #[vR a1, vR ra, vI 0, vI 2, vI 0, .val (.long (0 : Int64)), .second, vI 0, vR rA] [(.int (0 : Int32)), (.ref rA), (.long (0 : Int64))]) := fun t h => k148 t (by
      show Steps p.tables e below (T140.setTop (mkF m 41 #[vR a1, vR ra, vI 0, vI 2, vI 0, .val (.long (0 : Int64)), .second, vI 0, vR rA] [(.ref rA), (.int (0 : Int32)), (.long (0 : Int64))])) _
      refine X140.arraylength hx (by rw [e140]; exact Ar147.1) (State.isArrayOf_alike hZ.alike Ar147.2.1) (g := (mkF m 41 #[vR a1, vR ra, vI 0, vI 2, vI 0, .val (.long (0 : Int64)), .second, vI 0, vR rA] [(.ref rA), (.int (0 : Int32)), (.long (0 : Int64))])) rfl rfl (hb hby d5_41) _ ?_
      rw [len_of Sz147 Ng147]
      refine XS.icmpNo X140.here hx rfl (hb hby d5_42) rfl (tlt (by decide : (0 : Int32) < (1 : Int32))).2.1 ?_
      refine XS.aload X140.here hx rfl (hb hby d5_45) rfl rfl ?_
      refine XS.iload X140.here hx rfl (hb hby d5_47) rfl ?_
      exact h)
  obtain ⟨cl149, Ar149, q149, Sz149, Ng149, Hs149, G149⟩ := id VA
  have hin149 : ¬ ((0 : Int32) < 0 ∨ cl149.slots.size ≤ ((0 : Int32)).toNatClampNeg) := inb_of Sz149 ⟨by decide, by decide⟩
  have hat149 : cl149.slots[((0 : Int32)).toNatClampNeg]? = some (.long u) := Hs149.at hin149 (rfl)
  have k152 : Rch p e below S0 T140 (mkF m 25 #[vR a1, vR ra, vI 0, vI 2, vI 0, .val (.long u), .second, vI 1, vR rA] [(.ref a1)]) := fun t h => k150 t (by
      show Steps p.tables e below (T140.setTop (mkF m 49 #[vR a1, vR ra, vI 0, vI 2, vI 0, .val (.long (0 : Int64)), .second, vI 0, vR rA] [(.int (0 : Int32)), (.ref rA), (.long (0 : Int64))])) _
      refine X140.laload hx (j := (0 : Int32)) (v := (.long u)) (by rw [e140]; exact Ar149.1) (State.isArrayOf_alike hZ.alike Ar149.2.1) Ar149.2.2 hin149 hat149 (g := (mkF m 49 #[vR a1, vR ra, vI 0, vI 2, vI 0, .val (.long (0 : Int64)), .second, vI 0, vR rA] [(.int (0 : Int32)), (.ref rA), (.long (0 : Int64))])) rfl rfl (hb hby d5_49) _ ?_
      refine XS.goto X140.here hx rfl (pc0 := 50) (pc' := 54) rfl (hb hby d5_50) (by decide) (by decide) ?_
      show Steps p.tables e below (T140.setTop (mkF m 54 #[vR a1, vR ra, vI 0, vI 2, vI 0, .val (.long (0 : Int64)), .second, vI 0, vR rA] [(.long u), (.long (0 : Int64))])) _
      refine XS.lor X140.here hx rfl (hb hby d5_54) rfl ?_
      rw [own_or0 u]
      refine XS.lstore X140.here hx rfl (hb hby d5_55) rfl (l' := #[vR a1, vR ra, vI 0, vI 2, vI 0, .val (.long u), .second, vI 0, vR rA]) rfl ?_
      show Steps p.tables e below (T140.setTop (mkF m 57 #[vR a1, vR ra, vI 0, vI 2, vI 0, .val (.long u), .second, vI 0, vR rA] [])) _
      refine XS.iinc X140.here hx rfl (hb hby d5_57) rfl (l' := #[vR a1, vR ra, vI 0, vI 2, vI 0, .val (.long u), .second, vI ((0 : Int32) + (1 : Int32)), vR rA]) rfl ?_
      rw [(by decide : ((0 : Int32) + (1 : Int32)) = (1 : Int32))]
      refine XS.goto X140.here hx rfl (pc0 := 60) (pc' := 18) rfl (hb hby d5_60) (by decide) (by decide) ?_
      refine XS.iload X140.here hx rfl (hb hby d5_18) rfl ?_
      refine XS.iloadN X140.here hx rfl (hb hby d5_20) rfl ?_
      refine XS.icmpNo X140.here hx rfl (hb hby d5_21) rfl (tlt (by decide : (1 : Int32) < (2 : Int32))).2.1 ?_
      refine XS.aloadN X140.here hx rfl (hb hby d5_24) rfl rfl ?_
      exact h)
  obtain ⟨T151, X151, e151, st151⟩ := getF X140 hx hZ hown (host := "") (Or.inl (hw _ (gm 22 rfl))) Via.refl e140 Fh (g := (mkF m 25 #[vR a1, vR ra, vI 0, vI 2, vI 0, .val (.long u), .second, vI 1, vR rA] [(.ref a1)])) rfl rfl (hb hby d5_25)
  have k153 : Rch p e below S0 T151 (mkF m 28 #[vR a1, vR ra, vI 0, vI 2, vI 0, .val (.long u), .second, vI 1, vR rA] [(.ref aH)]) := fun t h => k152 t (st151 t h)
  have k155 : Rch p e below S0 T151 (mkF m 31 #[vR a1, vR ra, vI 0, vI 2, vI 0, .val (.long u), .second, vI 1, vR rA] [(.int (1 : Int32)), (.ref ra), (.ref aH)]) := fun t h => k153 t (by
      show Steps p.tables e below (T151.setTop (mkF m 28 #[vR a1, vR ra, vI 0, vI 2, vI 0, .val (.long u), .second, vI 1, vR rA] [(.ref aH)])) _
      refine XS.aloadN X151.here hx rfl (hb hby d5_28) rfl rfl ?_
      refine XS.iload X151.here hx rfl (hb hby d5_29) rfl ?_
      exact h)
  obtain ⟨cl154, Ar154, q154, Sz154, Ng154, Hs154, G154⟩ := id VR
  have hin154 : ¬ ((1 : Int32) < 0 ∨ cl154.slots.size ≤ ((1 : Int32)).toNatClampNeg) := inb_of Sz154 ⟨by decide, by decide⟩
  have hat154 : cl154.slots[((1 : Int32)).toNatClampNeg]? = some (.int (1 : Int32)) := Hs154.at hin154 (rfl)
  have k157 : Rch p e below S0 T151 (mkF m 32 #[vR a1, vR ra, vI 0, vI 2, vI 0, .val (.long u), .second, vI 1, vR rA] [(.int (1 : Int32)), (.ref aH)]) := fun t h => k155 t (by
      show Steps p.tables e below (T151.setTop (mkF m 31 #[vR a1, vR ra, vI 0, vI 2, vI 0, .val (.long u), .second, vI 1, vR rA] [(.int (1 : Int32)), (.ref ra), (.ref aH)])) _
      refine X151.iaload hx (j := (1 : Int32)) (v := (.int (1 : Int32))) (by rw [e151]; exact Ar154.1) (State.isArrayOf_alike hZ.alike Ar154.2.1) Ar154.2.2 hin154 hat154 (g := (mkF m 31 #[vR a1, vR ra, vI 0, vI 2, vI 0, .val (.long u), .second, vI 1, vR rA] [(.int (1 : Int32)), (.ref ra), (.ref aH)])) rfl rfl (hb hby d5_31) _ ?_
      exact h)
  obtain ⟨cl156, Ar156, q156, Sz156, Ng156, Hs156, G156⟩ := id VH
  have hin156 : ¬ ((1 : Int32) < 0 ∨ cl156.slots.size ≤ ((1 : Int32)).toNatClampNeg) := inb_of Sz156 ⟨by decide, by decide⟩
  have hat156 : cl156.slots[((1 : Int32)).toNatClampNeg]? = some (.ref rB) := Hs156.at hin156 (rfl)
  have k159 : Rch p e below S0 T151 (mkF m 41 #[vR a1, vR ra, vI 0, vI 2, vI 0, .val (.long u), .second, vI 1, vR rB] [(.ref rB), (.int (0 : Int32)), (.long u)]) := fun t h => k157 t (by
      show Steps p.tables e below (T151.setTop (mkF m 32 #[vR a1, vR ra, vI 0, vI 2, vI 0, .val (.long u), .second, vI 1, vR rA] [(.int (1 : Int32)), (.ref aH)])) _
      refine X151.aaload hx (j := (1 : Int32)) (v := (.ref rB)) (by rw [e151]; exact Ar156.1) (State.isArrayOf_alike hZ.alike Ar156.2.1) rfl Ar156.2.2 hin156 hat156 (g := (mkF m 32 #[vR a1, vR ra, vI 0, vI 2, vI 0, .val (.long u), .second, vI 1, vR rA] [(.int (1 : Int32)), (.ref aH)])) rfl rfl (hb hby d5_32) _ ?_
      refine XS.astore X151.here hx rfl (hb hby d5_33) rfl rfl (l' := #[vR a1, vR ra, vI 0, vI 2, vI 0, .val (.long u), .second, vI 1, vR rB]) rfl ?_
      refine XS.lload X151.here hx rfl (hb hby d5_35) rfl ?_
      refine XS.iload X151.here hx rfl (hb hby d5_37) rfl ?_
      refine XS.aload X151.here hx rfl (hb hby d5_39) rfl rfl ?_
      exact h)
  obtain ⟨cl158, Ar158, q158, Sz158, Ng158, Hs158, G158⟩ := id VB
  have k161 : Rch p e below S0 T151 (mkF m 49 #[vR a1, vR ra, vI 0, vI 2, vI 0, .val (.long u), .second, vI 1, vR rB] [(.int (0 : Int32)), (.ref rB), (.long u)]) := fun t h => k159 t (by
      show Steps p.tables e below (T151.setTop (mkF m 41 #[vR a1, vR ra, vI 0, vI 2, vI 0, .val (.long u), .second, vI 1, vR rB] [(.ref rB), (.int (0 : Int32)), (.long u)])) _
      refine X151.arraylength hx (by rw [e151]; exact Ar158.1) (State.isArrayOf_alike hZ.alike Ar158.2.1) (g := (mkF m 41 #[vR a1, vR ra, vI 0, vI 2, vI 0, .val (.long u), .second, vI 1, vR rB] [(.ref rB), (.int (0 : Int32)), (.long u)])) rfl rfl (hb hby d5_41) _ ?_
      rw [len_of Sz158 Ng158]
      refine XS.icmpNo X151.here hx rfl (hb hby d5_42) rfl (tlt (by decide : (0 : Int32) < (1 : Int32))).2.1 ?_
      refine XS.aload X151.here hx rfl (hb hby d5_45) rfl rfl ?_
      refine XS.iload X151.here hx rfl (hb hby d5_47) rfl ?_
      exact h)
  obtain ⟨cl160, Ar160, q160, Sz160, Ng160, Hs160, G160⟩ := id VB
  have hin160 : ¬ ((0 : Int32) < 0 ∨ cl160.slots.size ≤ ((0 : Int32)).toNatClampNeg) := inb_of Sz160 ⟨by decide, by decide⟩
  have hat160 : cl160.slots[((0 : Int32)).toNatClampNeg]? = some (.long vv) := Hs160.at hin160 (rfl)
  have k162 : Rch p e below S0 T151 (mkF m 83 #[vR a1, vR ra, vI 0, vI 2, vI 0, .val (.long (u ||| vv)), .second, vI 2, vR rB] [(.long ((u ||| vv) ^^^ (-1 : Int64))), (.int (0 : Int32))]) := fun t h => k161 t (by
      show Steps p.tables e below (T151.setTop (mkF m 49 #[vR a1, vR ra, vI 0, vI 2, vI 0, .val (.long u), .second, vI 1, vR rB] [(.int (0 : Int32)), (.ref rB), (.long u)])) _
      refine X151.laload hx (j := (0 : Int32)) (v := (.long vv)) (by rw [e151]; exact Ar160.1) (State.isArrayOf_alike hZ.alike Ar160.2.1) Ar160.2.2 hin160 hat160 (g := (mkF m 49 #[vR a1, vR ra, vI 0, vI 2, vI 0, .val (.long u), .second, vI 1, vR rB] [(.int (0 : Int32)), (.ref rB), (.long u)])) rfl rfl (hb hby d5_49) _ ?_
      refine XS.goto X151.here hx rfl (pc0 := 50) (pc' := 54) rfl (hb hby d5_50) (by decide) (by decide) ?_
      refine XS.lor X151.here hx rfl (hb hby d5_54) rfl ?_
      refine XS.lstore X151.here hx rfl (hb hby d5_55) rfl (l' := #[vR a1, vR ra, vI 0, vI 2, vI 0, .val (.long (u ||| vv)), .second, vI 1, vR rB]) rfl ?_
      show Steps p.tables e below (T151.setTop (mkF m 57 #[vR a1, vR ra, vI 0, vI 2, vI 0, .val (.long (u ||| vv)), .second, vI 1, vR rB] [])) _
      refine XS.iinc X151.here hx rfl (hb hby d5_57) rfl (l' := #[vR a1, vR ra, vI 0, vI 2, vI 0, .val (.long (u ||| vv)), .second, vI ((1 : Int32) + (1 : Int32)), vR rB]) rfl ?_
      rw [(by decide : ((1 : Int32) + (1 : Int32)) = (2 : Int32))]
      refine XS.goto X151.here hx rfl (pc0 := 60) (pc' := 18) rfl (hb hby d5_60) (by decide) (by decide) ?_
      refine XS.iload X151.here hx rfl (hb hby d5_18) rfl ?_
      refine XS.iloadN X151.here hx rfl (hb hby d5_20) rfl ?_
      refine XS.icmpYes X151.here hx rfl (pc0 := 21) (pc' := 63) rfl (hb hby d5_21) rfl (flt (by decide : ¬ ((2 : Int32) < (2 : Int32)))).2.1 (by decide) (by decide) ?_
      refine XS.lload X151.here hx rfl (hb hby d5_63) rfl ?_
      refine X151.ldc2Long hx hown (mvT hZ (hw _ (gm 37 rfl))) (g := (mkF m 65 #[vR a1, vR ra, vI 0, vI 2, vI 0, .val (.long (u ||| vv)), .second, vI 2, vR rB] [(.long (u ||| vv))])) rfl (hb hby d5_65) _ ?_
      refine XS.lcmp X151.here hx rfl (hb hby d5_68) rfl ?_
      show Steps p.tables e below (T151.setTop (mkF m 69 #[vR a1, vR ra, vI 0, vI 2, vI 0, .val (.long (u ||| vv)), .second, vI 2, vR rB] [(.int (lcmpW (u ||| vv) (-1 : Int64)))])) _
      rw [own_lc hN]
      show Steps p.tables e below (T151.setTop (mkF m 69 #[vR a1, vR ra, vI 0, vI 2, vI 0, .val (.long (u ||| vv)), .second, vI 2, vR rB] [(.int (1 : Int32))])) _
      refine XS.ifNo X151.here hx rfl (hb hby d5_69) rfl ((if0 _ _).trans (feq (by decide : ¬ ((1 : Int32) = (0 : Int32)))).1) ?_
      refine XS.iload X151.here hx rfl (hb hby d5_72) rfl ?_
      refine XS.bipush X151.here hx rfl (hb hby d5_74) ?_
      show Steps p.tables e below (T151.setTop (mkF m 76 #[vR a1, vR ra, vI 0, vI 2, vI 0, .val (.long (u ||| vv)), .second, vI 2, vR rB] [(.int (64 : Int32)), (.int (0 : Int32))])) _
      refine XS.imul X151.here hx rfl (hb hby d5_76) rfl ?_
      rw [(by decide : ((0 : Int32) * (64 : Int32)) = (0 : Int32))]
      refine XS.lload X151.here hx rfl (hb hby d5_77) rfl ?_
      refine X151.ldc2Long hx hown (mvT hZ (hw _ (gm 37 rfl))) (g := (mkF m 79 #[vR a1, vR ra, vI 0, vI 2, vI 0, .val (.long (u ||| vv)), .second, vI 2, vR rB] [(.long (u ||| vv)), (.int (0 : Int32))])) rfl (hb hby d5_79) _ ?_
      refine XS.lxor X151.here hx rfl (hb hby d5_82) rfl ?_
      exact h)
  obtain ⟨_, _, ⟨T163, L163, kk163, n163⟩, -, X163, ⟨Lc163, hQ163, l163, y163, z163⟩, st163⟩ := Jvm.LawKit.callS X151 hx (y := (⟨"java/lang/Long", "numberOfTrailingZeros", "(J)I"⟩ : MethodName)) hown (mvT hZ (hw _ (gm 38 rfl))) (mvT hZ (hw _ (gm 39 rfl))) (mvT hZ (hw _ (gm 40 rfl))) (mvT hZ (hw _ (gm 41 rfl))) (by decide) (backOf (W := 1) (rmNT l Z a0 hw []  (u ||| vv) r h0 n0 O0 hN) hZ (hw _ (gm 41 rfl)) (hw _ (gm 40 rfl)) (by decide) (by decide)) (g := (mkF m 83 #[vR a1, vR ra, vI 0, vI 2, vI 0, .val (.long (u ||| vv)), .second, vI 2, vR rB] [(.long ((u ||| vv) ^^^ (-1 : Int64))), (.int (0 : Int32))])) rfl (by rw [hml]; rfl) (argsL := [(.long ((u ||| vv) ^^^ (-1 : Int64)))]) (rest := [(.int (0 : Int32))]) (lenOf pd_5 rfl) rfl (by show 2 * 0 + _ ≤ _; exact Nat.le_of_eq rfl) (hb hby d5_83) (fun _ _ => ⟨rfl, e151, (by decide : 0 + 0 ≤ _), (by decide : 0 + 0 ≤ _)⟩)
  dsimp only [Pt.U, Pt.locs, Pt.cells, Pt.slots] at X163 l163 y163 z163 st163 hQ163
  subst l163 y163 z163
  obtain ⟨rfl, Nq163, hh163⟩ := hQ163
  have N163 := Fr.app N0 Nq163
  have k164 : Rch p e below S0 T163 (mkF m 86 #[vR a1, vR ra, vI 0, vI 2, vI 0, .val (.long (u ||| vv)), .second, vI 2, vR rB] [(.int r), (.int (0 : Int32))]) := fun t h => k162 t (st163 t h)
  have k165 : Rch p e below S0 T163 (mkF m 89 #[vR a1, vR ra, vI 0, vI 2, vI 0, .val (.long (u ||| vv)), .second, vI r, vR rB] []) := fun t h => k164 t (by
      show Steps p.tables e below (T163.setTop (mkF m 86 #[vR a1, vR ra, vI 0, vI 2, vI 0, .val (.long (u ||| vv)), .second, vI 2, vR rB] [(.int r), (.int (0 : Int32))])) _
      refine XS.iadd X163.here hx rfl (hb hby d5_86) rfl ?_
      rw [own_0add r]
      refine XS.istore X163.here hx rfl (hb hby d5_87) rfl (l' := #[vR a1, vR ra, vI 0, vI 2, vI 0, .val (.long (u ||| vv)), .second, vI r, vR rB]) rfl ?_
      exact h)
  rcases hl with hl | hl
  · have k167 : Rch p e below S0 T163 (mkF m 92 #[vR a1, vR ra, vI 0, vI 2, vI 0, .val (.long (u ||| vv)), .second, vI r, vR rB] [(.ref a1), (.int r)]) := fun t h => k165 t (by
        show Steps p.tables e below (T163.setTop (mkF m 89 #[vR a1, vR ra, vI 0, vI 2, vI 0, .val (.long (u ||| vv)), .second, vI r, vR rB] [])) _
        refine XS.iload X163.here hx rfl (hb hby d5_89) rfl ?_
        refine XS.aloadN X163.here hx rfl (hb hby d5_91) rfl rfl ?_
        exact h)
    obtain ⟨T166, X166, e166, st166⟩ := getF X163 hx hZ hown (host := "") (Or.inl (hw _ (gm 14 rfl))) Via.refl hh163 Fc (g := (mkF m 92 #[vR a1, vR ra, vI 0, vI 2, vI 0, .val (.long (u ||| vv)), .second, vI r, vR rB] [(.ref a1), (.int r)])) rfl rfl (hb hby d5_92)
    have k168 : Rch p e below S0 T166 (mkF m 95 #[vR a1, vR ra, vI 0, vI 2, vI 0, .val (.long (u ||| vv)), .second, vI r, vR rB] [(.int cn), (.int r)]) := fun t h => k167 t (st166 t h)
    have k169 : Rch p e below S0 T166 (mkF m 104 #[vR a1, vR ra, vI 0, vI 2, vI 0, .val (.long (u ||| vv)), .second, vI r, vR rB] [(.int r)]) := fun t h => k168 t (by
        show Steps p.tables e below (T166.setTop (mkF m 95 #[vR a1, vR ra, vI 0, vI 2, vI 0, .val (.long (u ||| vv)), .second, vI r, vR rB] [(.int cn), (.int r)])) _
        refine XS.icmpNo X166.here hx rfl (hb hby d5_95) rfl (tlt (hl.1 : r < cn)).2.1 ?_
        refine XS.iload X166.here hx rfl (hb hby d5_98) rfl ?_
        refine XS.goto X166.here hx rfl (pc0 := 100) (pc' := 104) rfl (hb hby d5_100) (by decide) (by decide) ?_
        exact h)
    obtain ⟨fs, hr, hrun, hended, hW, hsame⟩ := X166.leave (v := (some (.int r))) (fun h => by rw [Bd.returns] at h; cases h)
    refine ⟨_, _, ?_, hrun, hended, _, _, rfl, ?_, ⟨_, rfl⟩, hW, hsame.mono (by decide) (by decide)⟩
    · rw [← hS0]
      refine k169 _ ?_
      show Steps p.tables e below (T166.setTop (mkF m 104 #[vR a1, vR ra, vI 0, vI 2, vI 0, .val (.long (u ||| vv)), .second, vI r, vR rB] [(.int r)])) _
      exact retI X166 hx Bd.returns (hb hby d5_104) hr
    · show Q_rmF_F Z lo h0 n0 _ T166.heap _
      rw [e166]
      exact ⟨by rw [hl.2], N163, rfl⟩
  · have k171 : Rch p e below S0 T163 (mkF m 92 #[vR a1, vR ra, vI 0, vI 2, vI 0, .val (.long (u ||| vv)), .second, vI r, vR rB] [(.ref a1), (.int r)]) := fun t h => k165 t (by
        show Steps p.tables e below (T163.setTop (mkF m 89 #[vR a1, vR ra, vI 0, vI 2, vI 0, .val (.long (u ||| vv)), .second, vI r, vR rB] [])) _
        refine XS.iload X163.here hx rfl (hb hby d5_89) rfl ?_
        refine XS.aloadN X163.here hx rfl (hb hby d5_91) rfl rfl ?_
        exact h)
    obtain ⟨T170, X170, e170, st170⟩ := getF X163 hx hZ hown (host := "") (Or.inl (hw _ (gm 14 rfl))) Via.refl hh163 Fc (g := (mkF m 92 #[vR a1, vR ra, vI 0, vI 2, vI 0, .val (.long (u ||| vv)), .second, vI r, vR rB] [(.ref a1), (.int r)])) rfl rfl (hb hby d5_92)
    have k172 : Rch p e below S0 T170 (mkF m 95 #[vR a1, vR ra, vI 0, vI 2, vI 0, .val (.long (u ||| vv)), .second, vI r, vR rB] [(.int cn), (.int r)]) := fun t h => k171 t (st170 t h)
    have k173 : Rch p e below S0 T170 (mkF m 104 #[vR a1, vR ra, vI 0, vI 2, vI 0, .val (.long (u ||| vv)), .second, vI r, vR rB] [(.int (-1 : Int32))]) := fun t h => k172 t (by
        show Steps p.tables e below (T170.setTop (mkF m 95 #[vR a1, vR ra, vI 0, vI 2, vI 0, .val (.long (u ||| vv)), .second, vI r, vR rB] [(.int cn), (.int r)])) _
        refine XS.icmpYes X170.here hx rfl (pc0 := 95) (pc' := 103) rfl (hb hby d5_95) rfl (flt (hl.1 : ¬ (r < cn))).2.1 (by decide) (by decide) ?_
        refine XS.iconst X170.here hx rfl (hb hby d5_103) ?_
        exact h)
    obtain ⟨fs, hr, hrun, hended, hW, hsame⟩ := X170.leave (v := (some (.int (-1 : Int32)))) (fun h => by rw [Bd.returns] at h; cases h)
    refine ⟨_, _, ?_, hrun, hended, _, _, rfl, ?_, ⟨_, rfl⟩, hW, hsame.mono (by decide) (by decide)⟩
    · rw [← hS0]
      refine k173 _ ?_
      show Steps p.tables e below (T170.setTop (mkF m 104 #[vR a1, vR ra, vI 0, vI 2, vI 0, .val (.long (u ||| vv)), .second, vI r, vR rB] [(.int (-1 : Int32))])) _
      exact retI X170 hx Bd.returns (hb hby d5_104) hr
    · show Q_rmF_F Z lo h0 n0 _ T170.heap _
      rw [e170]
      exact ⟨by rw [hl.2], N163, rfl⟩
def Q_rmF_R (Z : State) (lo : Int32) (h0 : Heap) (n0 : Nat) (v : Option Value) (h : Heap) (L : List Loc) : Prop := v = some (.int lo) ∧ Fr n0 L ∧ h = h0
set_option maxRecDepth 65536 in
set_option maxHeartbeats 40000000 in
theorem rmF_R (l : Launch) (Z : State) (a0 : Array Value) (hw : ∀ d ∈ tables_1, d.before a0 Z = true) (ws : List Jvm.Cond) (a1 : Addr) (aH : Addr) (rA : Addr) (rB : Addr) (kH : ClassId) (kL : ClassId) (cn : Int32) (wd : Int32) (u : Int64) (vv : Int64) (ra : Addr) (kR : ClassId) (r : Int32) (lo : Int32) (h0 : Heap) (n0 : Nat) (O0 : Old Z n0 h0) (Fh : Fld Z h0 a1 "com/example/lumenplan/lumenplan/simulation/Wavelengths" "held" "[[J" (.ref aH)) (VH : Arv Z h0 aH kH (.array .long) (2 : Int32) [(.ref rA), (.ref rB)] .null) (VA : Arv Z h0 rA kL .long (1 : Int32) [(.long u)] (.long (0 : Int64))) (VB : Arv Z h0 rB kL .long (1 : Int32) [(.long vv)] (.long (0 : Int64))) (Fc : Fld Z h0 a1 "com/example/lumenplan/lumenplan/simulation/Wavelengths" "count" "I" (.int cn)) (Fw : Fld Z h0 a1 "com/example/lumenplan/lumenplan/simulation/Wavelengths" "words" "I" (.int wd)) (VR : Arv Z h0 ra kR .int (2 : Int32) [(.int (1 : Int32)), (.int (0 : Int32))] (.int (0 : Int32))) (hN : NT (vv ||| u) r) (hw0 : (0 : Int32) < wd) (hl : (r < cn ∧ lo = r) ∨ (¬ r < cn ∧ lo = (-1 : Int32))) :
    MetFree l (⟨"com/example/lumenplan/lumenplan/simulation/Wavelengths", "lowestFree", "([III)I"⟩ : MethodName) (head1 (Jvm.Cond.code (⟨"com/example/lumenplan/lumenplan/simulation/Wavelengths", "lowestFree", "([III)I"⟩ : MethodName) prog_37_method_4_code 9 (some .int) :: ws) ({ frames := 2, cells := 0, slots := 0, locals := 64 } : Room)) (fun a U => a = #[(.ref a1), (.ref ra), (.int (0 : Int32)), (.int (2 : Int32))] ∧ Z.Warmed39 U.vm ∧ U.heap = h0) (fun _ _ _ _ _ => True) (fun _ U o U' => ∃ v L, o = .returned v ∧ Q_rmF_R Z lo h0 n0 v U'.heap L ∧ FrameEnd U o U' L ({ frames := 2, cells := 0, slots := 0, locals := 64 } : Room).cells ({ frames := 2, cells := 0, slots := 0, locals := 64 } : Room).slots) := by
  refine MetFree.of_bodySF (plainFor_of_name pn_Wavelengths) hisR ?_
  intro p e s m args below meth c s₁ Bd hml0 hP hK
  obtain ⟨rfl, hZ, hh⟩ := hP
  have hx := Bd.exec
  have hby := Bd.bytes
  have hml : c.maxLocals = 9 := hml0
  have hown : s.vm.findClass "com/example/lumenplan/lumenplan/simulation/Wavelengths" = some m.cls := findClass_of_methodNamed Bd.named
  have hnm := (name_of_methodNamed Bd.named Bd.method).1
  have X0 : Stand p l e ({ frames := 2, cells := 0, slots := 0, locals := 64 } : Room) s m #[(.ref a1), (.ref ra), (.int (0 : Int32)), (.int (2 : Int32))] below meth c s₁ [] 0 0 := Stand.of_body Bd
  have e0 : s₁.heap = h0 := by rw [← hh, Bd.state]; rfl
  have N0 := Fr.nil n0
  obtain ⟨S0, hS0⟩ : ∃ z, z = s₁.setTop (entryFrame m #[(.ref a1), (.ref ra), (.int (0 : Int32)), (.int (2 : Int32))] 9) := ⟨_, rfl⟩
  have k0 : Rch p e below S0 s₁ (mkF m 0 #[vR a1, vR ra, vI 0, vI 2, vU, vU, vU, vU, vU] []) := fun t kq => hS0 ▸ castTop (ef_5 m a1 ra (0 : Int32) (2 : Int32)) kq
  have k175 : Rch p e below S0 s₁ (mkF m 6 #[vR a1, vR ra, vI 0, vI 2, vI 0, vU, vU, vU, vU] [(.ref a1), (.int (0 : Int32))]) := fun t h => k0 t (by
      show Steps p.tables e below (s₁.setTop (mkF m 0 #[vR a1, vR ra, vI 0, vI 2, vU, vU, vU, vU, vU] [])) _
      refine XS.iconst X0.here hx rfl (hb hby d5_0) ?_
      refine XS.istore X0.here hx rfl (hb hby d5_1) rfl (l' := #[vR a1, vR ra, vI 0, vI 2, vI 0, vU, vU, vU, vU]) rfl ?_
      refine XS.iload X0.here hx rfl (hb hby d5_3) rfl ?_
      refine XS.aloadN X0.here hx rfl (hb hby d5_5) rfl rfl ?_
      exact h)
  obtain ⟨T174, X174, e174, st174⟩ := getF X0 hx hZ hown (host := "") (Or.inl (hw _ (gm 17 rfl))) Via.refl e0 Fw (g := (mkF m 6 #[vR a1, vR ra, vI 0, vI 2, vI 0, vU, vU, vU, vU] [(.ref a1), (.int (0 : Int32))])) rfl rfl (hb hby d5_6)
  have k176 : Rch p e below S0 T174 (mkF m 9 #[vR a1, vR ra, vI 0, vI 2, vI 0, vU, vU, vU, vU] [(.int wd), (.int (0 : Int32))]) := fun t h => k175 t (st174 t h)
  have k178 : Rch p e below S0 T174 (mkF m 25 #[vR a1, vR ra, vI 0, vI 2, vI 0, .val (.long (0 : Int64)), .second, vI 0, vU] [(.ref a1)]) := fun t h => k176 t (by
      show Steps p.tables e below (T174.setTop (mkF m 9 #[vR a1, vR ra, vI 0, vI 2, vI 0, vU, vU, vU, vU] [(.int wd), (.int (0 : Int32))])) _
      refine XS.icmpNo X174.here hx rfl (hb hby d5_9) rfl (tlt (hw0 : (0 : Int32) < wd)).2.1 ?_
      refine XS.lconst X174.here hx rfl (hb hby d5_12) ?_
      refine XS.lstore X174.here hx rfl (hb hby d5_13) rfl (l' := #[vR a1, vR ra, vI 0, vI 2, vI 0, .val (.long (0 : Int64)), .second, vU, vU]) rfl ?_
      refine XS.iloadN X174.here hx rfl (hb hby d5_15) rfl ?_
      refine XS.istore X174.here hx rfl (hb hby d5_16) rfl (l' := #[vR a1, vR ra, vI 0, vI 2, vI 0, .val (.long (0 : Int64)), .second, vI 0, vU]) rfl ?_
      refine XS.iload X174.here hx rfl (hb hby d5_18) rfl ?_
      refine XS.iloadN X174.here hx rfl (hb hby d5_20) rfl ?_
      refine XS.icmpNo X174.here hx rfl (hb hby d5_21) rfl (tlt (by decide : (0 : Int32) < (2 : Int32))).2.1 ?_
      refine XS.aloadN X174.here hx rfl (hb hby d5_24) rfl rfl ?_
      exact h)
  obtain ⟨T177, X177, e177, st177⟩ := getF X174 hx hZ hown (host := "") (Or.inl (hw _ (gm 22 rfl))) Via.refl e174 Fh (g := (mkF m 25 #[vR a1, vR ra, vI 0, vI 2, vI 0, .val (.long (0 : Int64)), .second, vI 0, vU] [(.ref a1)])) rfl rfl (hb hby d5_25)
  have k179 : Rch p e below S0 T177 (mkF m 28 #[vR a1, vR ra, vI 0, vI 2, vI 0, .val (.long (0 : Int64)), .second, vI 0, vU] [(.ref aH)]) := fun t h => k178 t (st177 t h)
  have k181 : Rch p e below S0 T177 (mkF m 31 #[vR a1, vR ra, vI 0, vI 2, vI 0, .val (.long (0 : Int64)), .second, vI 0, vU] [(.int (0 : Int32)), (.ref ra), (.ref aH)]) := fun t h => k179 t (by
      show Steps p.tables e below (T177.setTop (mkF m 28 #[vR a1, vR ra, vI 0, vI 2, vI 0, .val (.long (0 : Int64)), .second, vI 0, vU] [(.ref aH)])) _
      refine XS.aloadN X177.here hx rfl (hb hby d5_28) rfl rfl ?_
      refine XS.iload X177.here hx rfl (hb hby d5_29) rfl ?_
      exact h)
  obtain ⟨cl180, Ar180, q180, Sz180, Ng180, Hs180, G180⟩ := id VR
  have hin180 : ¬ ((0 : Int32) < 0 ∨ cl180.slots.size ≤ ((0 : Int32)).toNatClampNeg) := inb_of Sz180 ⟨by decide, by decide⟩
  have hat180 : cl180.slots[((0 : Int32)).toNatClampNeg]? = some (.int (1 : Int32)) := Hs180.at hin180 (rfl)
  have k183 : Rch p e below S0 T177 (mkF m 32 #[vR a1, vR ra, vI 0, vI 2, vI 0, .val (.long (0 : Int64)), .second, vI 0, vU] [(.int (1 : Int32)), (.ref aH)]) := fun t h => k181 t (by
      show Steps p.tables e below (T177.setTop (mkF m 31 #[vR a1, vR ra, vI 0, vI 2, vI 0, .val (.long (0 : Int64)), .second, vI 0, vU] [(.int (0 : Int32)), (.ref ra), (.ref aH)])) _
      refine X177.iaload hx (j := (0 : Int32)) (v := (.int (1 : Int32))) (by rw [e177]; exact Ar180.1) (State.isArrayOf_alike hZ.alike Ar180.2.1) Ar180.2.2 hin180 hat180 (g := (mkF m 31 #[vR a1, vR ra, vI 0, vI 2, vI 0, .val (.long (0 : Int64)), .second, vI 0, vU] [(.int (0 : Int32)), (.ref ra), (.ref aH)])) rfl rfl (hb hby d5_31) _ ?_
      exact h)
  obtain ⟨cl182, Ar182, q182, Sz182, Ng182, Hs182, G182⟩ := id VH
  have hin182 : ¬ ((1 : Int32) < 0 ∨ cl182.slots.size ≤ ((1 : Int32)).toNatClampNeg) := inb_of Sz182 ⟨by decide, by decide⟩
  have hat182 : cl182.slots[((1 : Int32)).toNatClampNeg]? = some (.ref rB) := Hs182.at hin182 (rfl)
  have k185 : Rch p e below S0 T177 (mkF m 41 #[vR a1, vR ra, vI 0, vI 2, vI 0, .val (.long (0 : Int64)), .second, vI 0, vR rB] [(.ref rB), (.int (0 : Int32)), (.long (0 : Int64))]) := fun t h => k183 t (by
      show Steps p.tables e below (T177.setTop (mkF m 32 #[vR a1, vR ra, vI 0, vI 2, vI 0, .val (.long (0 : Int64)), .second, vI 0, vU] [(.int (1 : Int32)), (.ref aH)])) _
      refine X177.aaload hx (j := (1 : Int32)) (v := (.ref rB)) (by rw [e177]; exact Ar182.1) (State.isArrayOf_alike hZ.alike Ar182.2.1) rfl Ar182.2.2 hin182 hat182 (g := (mkF m 32 #[vR a1, vR ra, vI 0, vI 2, vI 0, .val (.long (0 : Int64)), .second, vI 0, vU] [(.int (1 : Int32)), (.ref aH)])) rfl rfl (hb hby d5_32) _ ?_
      refine XS.astore X177.here hx rfl (hb hby d5_33) rfl rfl (l' := #[vR a1, vR ra, vI 0, vI 2, vI 0, .val (.long (0 : Int64)), .second, vI 0, vR rB]) rfl ?_
      refine XS.lload X177.here hx rfl (hb hby d5_35) rfl ?_
      refine XS.iload X177.here hx rfl (hb hby d5_37) rfl ?_
      refine XS.aload X177.here hx rfl (hb hby d5_39) rfl rfl ?_
      exact h)
  obtain ⟨cl184, Ar184, q184, Sz184, Ng184, Hs184, G184⟩ := id VB
  have k187 : Rch p e below S0 T177 (mkF m 49 #[vR a1, vR ra, vI 0, vI 2, vI 0, .val (.long (0 : Int64)), .second, vI 0, vR rB] [(.int (0 : Int32)), (.ref rB), (.long (0 : Int64))]) := fun t h => k185 t (by
      show Steps p.tables e below (T177.setTop (mkF m 41 #[vR a1, vR ra, vI 0, vI 2, vI 0, .val (.long (0 : Int64)), .second, vI 0, vR rB] [(.ref rB), (.int (0 : Int32)), (.long (0 : Int64))])) _
      refine X177.arraylength hx (by rw [e177]; exact Ar184.1) (State.isArrayOf_alike hZ.alike Ar184.2.1) (g := (mkF m 41 #[vR a1, vR ra, vI 0, vI 2, vI 0, .val (.long (0 : Int64)), .second, vI 0, vR rB] [(.ref rB), (.int (0 : Int32)), (.long (0 : Int64))])) rfl rfl (hb hby d5_41) _ ?_
      rw [len_of Sz184 Ng184]
      refine XS.icmpNo X177.here hx rfl (hb hby d5_42) rfl (tlt (by decide : (0 : Int32) < (1 : Int32))).2.1 ?_
      refine XS.aload X177.here hx rfl (hb hby d5_45) rfl rfl ?_
      refine XS.iload X177.here hx rfl (hb hby d5_47) rfl ?_
      exact h)
  obtain ⟨cl186, Ar186, q186, Sz186, Ng186, Hs186, G186⟩ := id VB
  have hin186 : ¬ ((0 : Int32) < 0 ∨ cl186.slots.size ≤ ((0 : Int32)).toNatClampNeg) := inb_of Sz186 ⟨by decide, by decide⟩
  have hat186 : cl186.slots[((0 : Int32)).toNatClampNeg]? = some (.long vv) := Hs186.at hin186 (rfl)
  have k189 : Rch p e below S0 T177 (mkF m 25 #[vR a1, vR ra, vI 0, vI 2, vI 0, .val (.long vv), .second, vI 1, vR rB] [(.ref a1)]) := fun t h => k187 t (by
      show Steps p.tables e below (T177.setTop (mkF m 49 #[vR a1, vR ra, vI 0, vI 2, vI 0, .val (.long (0 : Int64)), .second, vI 0, vR rB] [(.int (0 : Int32)), (.ref rB), (.long (0 : Int64))])) _
      refine X177.laload hx (j := (0 : Int32)) (v := (.long vv)) (by rw [e177]; exact Ar186.1) (State.isArrayOf_alike hZ.alike Ar186.2.1) Ar186.2.2 hin186 hat186 (g := (mkF m 49 #[vR a1, vR ra, vI 0, vI 2, vI 0, .val (.long (0 : Int64)), .second, vI 0, vR rB] [(.int (0 : Int32)), (.ref rB), (.long (0 : Int64))])) rfl rfl (hb hby d5_49) _ ?_
      refine XS.goto X177.here hx rfl (pc0 := 50) (pc' := 54) rfl (hb hby d5_50) (by decide) (by decide) ?_
      show Steps p.tables e below (T177.setTop (mkF m 54 #[vR a1, vR ra, vI 0, vI 2, vI 0, .val (.long (0 : Int64)), .second, vI 0, vR rB] [(.long vv), (.long (0 : Int64))])) _
      refine XS.lor X177.here hx rfl (hb hby d5_54) rfl ?_
      rw [own_or0 vv]
      refine XS.lstore X177.here hx rfl (hb hby d5_55) rfl (l' := #[vR a1, vR ra, vI 0, vI 2, vI 0, .val (.long vv), .second, vI 0, vR rB]) rfl ?_
      show Steps p.tables e below (T177.setTop (mkF m 57 #[vR a1, vR ra, vI 0, vI 2, vI 0, .val (.long vv), .second, vI 0, vR rB] [])) _
      refine XS.iinc X177.here hx rfl (hb hby d5_57) rfl (l' := #[vR a1, vR ra, vI 0, vI 2, vI 0, .val (.long vv), .second, vI ((0 : Int32) + (1 : Int32)), vR rB]) rfl ?_
      rw [(by decide : ((0 : Int32) + (1 : Int32)) = (1 : Int32))]
      refine XS.goto X177.here hx rfl (pc0 := 60) (pc' := 18) rfl (hb hby d5_60) (by decide) (by decide) ?_
      refine XS.iload X177.here hx rfl (hb hby d5_18) rfl ?_
      refine XS.iloadN X177.here hx rfl (hb hby d5_20) rfl ?_
      refine XS.icmpNo X177.here hx rfl (hb hby d5_21) rfl (tlt (by decide : (1 : Int32) < (2 : Int32))).2.1 ?_
      refine XS.aloadN X177.here hx rfl (hb hby d5_24) rfl rfl ?_
      exact h)
  obtain ⟨T188, X188, e188, st188⟩ := getF X177 hx hZ hown (host := "") (Or.inl (hw _ (gm 22 rfl))) Via.refl e177 Fh (g := (mkF m 25 #[vR a1, vR ra, vI 0, vI 2, vI 0, .val (.long vv), .second, vI 1, vR rB] [(.ref a1)])) rfl rfl (hb hby d5_25)
  have k190 : Rch p e below S0 T188 (mkF m 28 #[vR a1, vR ra, vI 0, vI 2, vI 0, .val (.long vv), .second, vI 1, vR rB] [(.ref aH)]) := fun t h => k189 t (st188 t h)
  have k192 : Rch p e below S0 T188 (mkF m 31 #[vR a1, vR ra, vI 0, vI 2, vI 0, .val (.long vv), .second, vI 1, vR rB] [(.int (1 : Int32)), (.ref ra), (.ref aH)]) := fun t h => k190 t (by
      show Steps p.tables e below (T188.setTop (mkF m 28 #[vR a1, vR ra, vI 0, vI 2, vI 0, .val (.long vv), .second, vI 1, vR rB] [(.ref aH)])) _
      refine XS.aloadN X188.here hx rfl (hb hby d5_28) rfl rfl ?_
      refine XS.iload X188.here hx rfl (hb hby d5_29) rfl ?_
      exact h)
  obtain ⟨cl191, Ar191, q191, Sz191, Ng191, Hs191, G191⟩ := id VR
  have hin191 : ¬ ((1 : Int32) < 0 ∨ cl191.slots.size ≤ ((1 : Int32)).toNatClampNeg) := inb_of Sz191 ⟨by decide, by decide⟩
  have hat191 : cl191.slots[((1 : Int32)).toNatClampNeg]? = some (.int (0 : Int32)) := Hs191.at hin191 (rfl)
  have k194 : Rch p e below S0 T188 (mkF m 32 #[vR a1, vR ra, vI 0, vI 2, vI 0, .val (.long vv), .second, vI 1, vR rB] [(.int (0 : Int32)), (.ref aH)]) := fun t h => k192 t (by
      show Steps p.tables e below (T188.setTop (mkF m 31 #[vR a1, vR ra, vI 0, vI 2, vI 0, .val (.long vv), .second, vI 1, vR rB] [(.int (1 : Int32)), (.ref ra), (.ref aH)])) _
      refine X188.iaload hx (j := (1 : Int32)) (v := (.int (0 : Int32))) (by rw [e188]; exact Ar191.1) (State.isArrayOf_alike hZ.alike Ar191.2.1) Ar191.2.2 hin191 hat191 (g := (mkF m 31 #[vR a1, vR ra, vI 0, vI 2, vI 0, .val (.long vv), .second, vI 1, vR rB] [(.int (1 : Int32)), (.ref ra), (.ref aH)])) rfl rfl (hb hby d5_31) _ ?_
      exact h)
  obtain ⟨cl193, Ar193, q193, Sz193, Ng193, Hs193, G193⟩ := id VH
  have hin193 : ¬ ((0 : Int32) < 0 ∨ cl193.slots.size ≤ ((0 : Int32)).toNatClampNeg) := inb_of Sz193 ⟨by decide, by decide⟩
  have hat193 : cl193.slots[((0 : Int32)).toNatClampNeg]? = some (.ref rA) := Hs193.at hin193 (rfl)
  have k196 : Rch p e below S0 T188 (mkF m 41 #[vR a1, vR ra, vI 0, vI 2, vI 0, .val (.long vv), .second, vI 1, vR rA] [(.ref rA), (.int (0 : Int32)), (.long vv)]) := fun t h => k194 t (by
      show Steps p.tables e below (T188.setTop (mkF m 32 #[vR a1, vR ra, vI 0, vI 2, vI 0, .val (.long vv), .second, vI 1, vR rB] [(.int (0 : Int32)), (.ref aH)])) _
      refine X188.aaload hx (j := (0 : Int32)) (v := (.ref rA)) (by rw [e188]; exact Ar193.1) (State.isArrayOf_alike hZ.alike Ar193.2.1) rfl Ar193.2.2 hin193 hat193 (g := (mkF m 32 #[vR a1, vR ra, vI 0, vI 2, vI 0, .val (.long vv), .second, vI 1, vR rB] [(.int (0 : Int32)), (.ref aH)])) rfl rfl (hb hby d5_32) _ ?_
      refine XS.astore X188.here hx rfl (hb hby d5_33) rfl rfl (l' := #[vR a1, vR ra, vI 0, vI 2, vI 0, .val (.long vv), .second, vI 1, vR rA]) rfl ?_
      refine XS.lload X188.here hx rfl (hb hby d5_35) rfl ?_
      refine XS.iload X188.here hx rfl (hb hby d5_37) rfl ?_
      refine XS.aload X188.here hx rfl (hb hby d5_39) rfl rfl ?_
      exact h)
  obtain ⟨cl195, Ar195, q195, Sz195, Ng195, Hs195, G195⟩ := id VA
  have k198 : Rch p e below S0 T188 (mkF m 49 #[vR a1, vR ra, vI 0, vI 2, vI 0, .val (.long vv), .second, vI 1, vR rA] [(.int (0 : Int32)), (.ref rA), (.long vv)]) := fun t h => k196 t (by
      show Steps p.tables e below (T188.setTop (mkF m 41 #[vR a1, vR ra, vI 0, vI 2, vI 0, .val (.long vv), .second, vI 1, vR rA] [(.ref rA), (.int (0 : Int32)), (.long vv)])) _
      refine X188.arraylength hx (by rw [e188]; exact Ar195.1) (State.isArrayOf_alike hZ.alike Ar195.2.1) (g := (mkF m 41 #[vR a1, vR ra, vI 0, vI 2, vI 0, .val (.long vv), .second, vI 1, vR rA] [(.ref rA), (.int (0 : Int32)), (.long vv)])) rfl rfl (hb hby d5_41) _ ?_
      rw [len_of Sz195 Ng195]
      refine XS.icmpNo X188.here hx rfl (hb hby d5_42) rfl (tlt (by decide : (0 : Int32) < (1 : Int32))).2.1 ?_
      refine XS.aload X188.here hx rfl (hb hby d5_45) rfl rfl ?_
      refine XS.iload X188.here hx rfl (hb hby d5_47) rfl ?_
      exact h)
  obtain ⟨cl197, Ar197, q197, Sz197, Ng197, Hs197, G197⟩ := id VA
  have hin197 : ¬ ((0 : Int32) < 0 ∨ cl197.slots.size ≤ ((0 : Int32)).toNatClampNeg) := inb_of Sz197 ⟨by decide, by decide⟩
  have hat197 : cl197.slots[((0 : Int32)).toNatClampNeg]? = some (.long u) := Hs197.at hin197 (rfl)
  have k199 : Rch p e below S0 T188 (mkF m 83 #[vR a1, vR ra, vI 0, vI 2, vI 0, .val (.long (vv ||| u)), .second, vI 2, vR rA] [(.long ((vv ||| u) ^^^ (-1 : Int64))), (.int (0 : Int32))]) := fun t h => k198 t (by
      show Steps p.tables e below (T188.setTop (mkF m 49 #[vR a1, vR ra, vI 0, vI 2, vI 0, .val (.long vv), .second, vI 1, vR rA] [(.int (0 : Int32)), (.ref rA), (.long vv)])) _
      refine X188.laload hx (j := (0 : Int32)) (v := (.long u)) (by rw [e188]; exact Ar197.1) (State.isArrayOf_alike hZ.alike Ar197.2.1) Ar197.2.2 hin197 hat197 (g := (mkF m 49 #[vR a1, vR ra, vI 0, vI 2, vI 0, .val (.long vv), .second, vI 1, vR rA] [(.int (0 : Int32)), (.ref rA), (.long vv)])) rfl rfl (hb hby d5_49) _ ?_
      refine XS.goto X188.here hx rfl (pc0 := 50) (pc' := 54) rfl (hb hby d5_50) (by decide) (by decide) ?_
      refine XS.lor X188.here hx rfl (hb hby d5_54) rfl ?_
      refine XS.lstore X188.here hx rfl (hb hby d5_55) rfl (l' := #[vR a1, vR ra, vI 0, vI 2, vI 0, .val (.long (vv ||| u)), .second, vI 1, vR rA]) rfl ?_
      show Steps p.tables e below (T188.setTop (mkF m 57 #[vR a1, vR ra, vI 0, vI 2, vI 0, .val (.long (vv ||| u)), .second, vI 1, vR rA] [])) _
      refine XS.iinc X188.here hx rfl (hb hby d5_57) rfl (l' := #[vR a1, vR ra, vI 0, vI 2, vI 0, .val (.long (vv ||| u)), .second, vI ((1 : Int32) + (1 : Int32)), vR rA]) rfl ?_
      rw [(by decide : ((1 : Int32) + (1 : Int32)) = (2 : Int32))]
      refine XS.goto X188.here hx rfl (pc0 := 60) (pc' := 18) rfl (hb hby d5_60) (by decide) (by decide) ?_
      refine XS.iload X188.here hx rfl (hb hby d5_18) rfl ?_
      refine XS.iloadN X188.here hx rfl (hb hby d5_20) rfl ?_
      refine XS.icmpYes X188.here hx rfl (pc0 := 21) (pc' := 63) rfl (hb hby d5_21) rfl (flt (by decide : ¬ ((2 : Int32) < (2 : Int32)))).2.1 (by decide) (by decide) ?_
      refine XS.lload X188.here hx rfl (hb hby d5_63) rfl ?_
      refine X188.ldc2Long hx hown (mvT hZ (hw _ (gm 37 rfl))) (g := (mkF m 65 #[vR a1, vR ra, vI 0, vI 2, vI 0, .val (.long (vv ||| u)), .second, vI 2, vR rA] [(.long (vv ||| u))])) rfl (hb hby d5_65) _ ?_
      refine XS.lcmp X188.here hx rfl (hb hby d5_68) rfl ?_
      show Steps p.tables e below (T188.setTop (mkF m 69 #[vR a1, vR ra, vI 0, vI 2, vI 0, .val (.long (vv ||| u)), .second, vI 2, vR rA] [(.int (lcmpW (vv ||| u) (-1 : Int64)))])) _
      rw [own_lc hN]
      show Steps p.tables e below (T188.setTop (mkF m 69 #[vR a1, vR ra, vI 0, vI 2, vI 0, .val (.long (vv ||| u)), .second, vI 2, vR rA] [(.int (1 : Int32))])) _
      refine XS.ifNo X188.here hx rfl (hb hby d5_69) rfl ((if0 _ _).trans (feq (by decide : ¬ ((1 : Int32) = (0 : Int32)))).1) ?_
      refine XS.iload X188.here hx rfl (hb hby d5_72) rfl ?_
      refine XS.bipush X188.here hx rfl (hb hby d5_74) ?_
      show Steps p.tables e below (T188.setTop (mkF m 76 #[vR a1, vR ra, vI 0, vI 2, vI 0, .val (.long (vv ||| u)), .second, vI 2, vR rA] [(.int (64 : Int32)), (.int (0 : Int32))])) _
      refine XS.imul X188.here hx rfl (hb hby d5_76) rfl ?_
      rw [(by decide : ((0 : Int32) * (64 : Int32)) = (0 : Int32))]
      refine XS.lload X188.here hx rfl (hb hby d5_77) rfl ?_
      refine X188.ldc2Long hx hown (mvT hZ (hw _ (gm 37 rfl))) (g := (mkF m 79 #[vR a1, vR ra, vI 0, vI 2, vI 0, .val (.long (vv ||| u)), .second, vI 2, vR rA] [(.long (vv ||| u)), (.int (0 : Int32))])) rfl (hb hby d5_79) _ ?_
      refine XS.lxor X188.here hx rfl (hb hby d5_82) rfl ?_
      exact h)
  obtain ⟨_, _, ⟨T200, L200, kk200, n200⟩, -, X200, ⟨Lc200, hQ200, l200, y200, z200⟩, st200⟩ := Jvm.LawKit.callS X188 hx (y := (⟨"java/lang/Long", "numberOfTrailingZeros", "(J)I"⟩ : MethodName)) hown (mvT hZ (hw _ (gm 38 rfl))) (mvT hZ (hw _ (gm 39 rfl))) (mvT hZ (hw _ (gm 40 rfl))) (mvT hZ (hw _ (gm 41 rfl))) (by decide) (backOf (W := 1) (rmNT l Z a0 hw []  (vv ||| u) r h0 n0 O0 hN) hZ (hw _ (gm 41 rfl)) (hw _ (gm 40 rfl)) (by decide) (by decide)) (g := (mkF m 83 #[vR a1, vR ra, vI 0, vI 2, vI 0, .val (.long (vv ||| u)), .second, vI 2, vR rA] [(.long ((vv ||| u) ^^^ (-1 : Int64))), (.int (0 : Int32))])) rfl (by rw [hml]; rfl) (argsL := [(.long ((vv ||| u) ^^^ (-1 : Int64)))]) (rest := [(.int (0 : Int32))]) (lenOf pd_5 rfl) rfl (by show 2 * 0 + _ ≤ _; exact Nat.le_of_eq rfl) (hb hby d5_83) (fun _ _ => ⟨rfl, e188, (by decide : 0 + 0 ≤ _), (by decide : 0 + 0 ≤ _)⟩)
  dsimp only [Pt.U, Pt.locs, Pt.cells, Pt.slots] at X200 l200 y200 z200 st200 hQ200
  subst l200 y200 z200
  obtain ⟨rfl, Nq200, hh200⟩ := hQ200
  have N200 := Fr.app N0 Nq200
  have k201 : Rch p e below S0 T200 (mkF m 86 #[vR a1, vR ra, vI 0, vI 2, vI 0, .val (.long (vv ||| u)), .second, vI 2, vR rA] [(.int r), (.int (0 : Int32))]) := fun t h => k199 t (st200 t h)
  have k202 : Rch p e below S0 T200 (mkF m 89 #[vR a1, vR ra, vI 0, vI 2, vI 0, .val (.long (vv ||| u)), .second, vI r, vR rA] []) := fun t h => k201 t (by
      show Steps p.tables e below (T200.setTop (mkF m 86 #[vR a1, vR ra, vI 0, vI 2, vI 0, .val (.long (vv ||| u)), .second, vI 2, vR rA] [(.int r), (.int (0 : Int32))])) _
      refine XS.iadd X200.here hx rfl (hb hby d5_86) rfl ?_
      rw [own_0add r]
      refine XS.istore X200.here hx rfl (hb hby d5_87) rfl (l' := #[vR a1, vR ra, vI 0, vI 2, vI 0, .val (.long (vv ||| u)), .second, vI r, vR rA]) rfl ?_
      exact h)
  rcases hl with hl | hl
  · have k204 : Rch p e below S0 T200 (mkF m 92 #[vR a1, vR ra, vI 0, vI 2, vI 0, .val (.long (vv ||| u)), .second, vI r, vR rA] [(.ref a1), (.int r)]) := fun t h => k202 t (by
        show Steps p.tables e below (T200.setTop (mkF m 89 #[vR a1, vR ra, vI 0, vI 2, vI 0, .val (.long (vv ||| u)), .second, vI r, vR rA] [])) _
        refine XS.iload X200.here hx rfl (hb hby d5_89) rfl ?_
        refine XS.aloadN X200.here hx rfl (hb hby d5_91) rfl rfl ?_
        exact h)
    obtain ⟨T203, X203, e203, st203⟩ := getF X200 hx hZ hown (host := "") (Or.inl (hw _ (gm 14 rfl))) Via.refl hh200 Fc (g := (mkF m 92 #[vR a1, vR ra, vI 0, vI 2, vI 0, .val (.long (vv ||| u)), .second, vI r, vR rA] [(.ref a1), (.int r)])) rfl rfl (hb hby d5_92)
    have k205 : Rch p e below S0 T203 (mkF m 95 #[vR a1, vR ra, vI 0, vI 2, vI 0, .val (.long (vv ||| u)), .second, vI r, vR rA] [(.int cn), (.int r)]) := fun t h => k204 t (st203 t h)
    have k206 : Rch p e below S0 T203 (mkF m 104 #[vR a1, vR ra, vI 0, vI 2, vI 0, .val (.long (vv ||| u)), .second, vI r, vR rA] [(.int r)]) := fun t h => k205 t (by
        show Steps p.tables e below (T203.setTop (mkF m 95 #[vR a1, vR ra, vI 0, vI 2, vI 0, .val (.long (vv ||| u)), .second, vI r, vR rA] [(.int cn), (.int r)])) _
        refine XS.icmpNo X203.here hx rfl (hb hby d5_95) rfl (tlt (hl.1 : r < cn)).2.1 ?_
        refine XS.iload X203.here hx rfl (hb hby d5_98) rfl ?_
        refine XS.goto X203.here hx rfl (pc0 := 100) (pc' := 104) rfl (hb hby d5_100) (by decide) (by decide) ?_
        exact h)
    obtain ⟨fs, hr, hrun, hended, hW, hsame⟩ := X203.leave (v := (some (.int r))) (fun h => by rw [Bd.returns] at h; cases h)
    refine ⟨_, _, ?_, hrun, hended, _, _, rfl, ?_, ⟨_, rfl⟩, hW, hsame.mono (by decide) (by decide)⟩
    · rw [← hS0]
      refine k206 _ ?_
      show Steps p.tables e below (T203.setTop (mkF m 104 #[vR a1, vR ra, vI 0, vI 2, vI 0, .val (.long (vv ||| u)), .second, vI r, vR rA] [(.int r)])) _
      exact retI X203 hx Bd.returns (hb hby d5_104) hr
    · show Q_rmF_R Z lo h0 n0 _ T203.heap _
      rw [e203]
      exact ⟨by rw [hl.2], N200, rfl⟩
  · have k208 : Rch p e below S0 T200 (mkF m 92 #[vR a1, vR ra, vI 0, vI 2, vI 0, .val (.long (vv ||| u)), .second, vI r, vR rA] [(.ref a1), (.int r)]) := fun t h => k202 t (by
        show Steps p.tables e below (T200.setTop (mkF m 89 #[vR a1, vR ra, vI 0, vI 2, vI 0, .val (.long (vv ||| u)), .second, vI r, vR rA] [])) _
        refine XS.iload X200.here hx rfl (hb hby d5_89) rfl ?_
        refine XS.aloadN X200.here hx rfl (hb hby d5_91) rfl rfl ?_
        exact h)
    obtain ⟨T207, X207, e207, st207⟩ := getF X200 hx hZ hown (host := "") (Or.inl (hw _ (gm 14 rfl))) Via.refl hh200 Fc (g := (mkF m 92 #[vR a1, vR ra, vI 0, vI 2, vI 0, .val (.long (vv ||| u)), .second, vI r, vR rA] [(.ref a1), (.int r)])) rfl rfl (hb hby d5_92)
    have k209 : Rch p e below S0 T207 (mkF m 95 #[vR a1, vR ra, vI 0, vI 2, vI 0, .val (.long (vv ||| u)), .second, vI r, vR rA] [(.int cn), (.int r)]) := fun t h => k208 t (st207 t h)
    have k210 : Rch p e below S0 T207 (mkF m 104 #[vR a1, vR ra, vI 0, vI 2, vI 0, .val (.long (vv ||| u)), .second, vI r, vR rA] [(.int (-1 : Int32))]) := fun t h => k209 t (by
        show Steps p.tables e below (T207.setTop (mkF m 95 #[vR a1, vR ra, vI 0, vI 2, vI 0, .val (.long (vv ||| u)), .second, vI r, vR rA] [(.int cn), (.int r)])) _
        refine XS.icmpYes X207.here hx rfl (pc0 := 95) (pc' := 103) rfl (hb hby d5_95) rfl (flt (hl.1 : ¬ (r < cn))).2.1 (by decide) (by decide) ?_
        refine XS.iconst X207.here hx rfl (hb hby d5_103) ?_
        exact h)
    obtain ⟨fs, hr, hrun, hended, hW, hsame⟩ := X207.leave (v := (some (.int (-1 : Int32)))) (fun h => by rw [Bd.returns] at h; cases h)
    refine ⟨_, _, ?_, hrun, hended, _, _, rfl, ?_, ⟨_, rfl⟩, hW, hsame.mono (by decide) (by decide)⟩
    · rw [← hS0]
      refine k210 _ ?_
      show Steps p.tables e below (T207.setTop (mkF m 104 #[vR a1, vR ra, vI 0, vI 2, vI 0, .val (.long (vv ||| u)), .second, vI r, vR rA] [(.int (-1 : Int32))])) _
      exact retI X207 hx Bd.returns (hb hby d5_104) hr
    · show Q_rmF_R Z lo h0 n0 _ T207.heap _
      rw [e207]
      exact ⟨by rw [hl.2], N200, rfl⟩
def Q_rmR_A (Z : State) (rA : Addr) (rB : Addr) (h0 : Heap) (n0 : Nat) (v : Option Value) (h : Heap) (L : List Loc) : Prop := v = some (.ref rA) ∧ Fr n0 L ∧ h = h0
theorem ef_9 (m : MethodId) (x0 : Addr) (x1 : Int32) (x2 : Int32) : entryFrame m #[(.ref x0), (.int x1), (.int x2)] 4 = mkF m 0 #[.val (.ref x0), .val (.int x1), .val (.int x2), .unset] [] := by first | (simp [entryFrame, mkF, argsToLocals, Value.category]; done) | rfl
theorem d9_0 : decode prog_37_method_5_code 0 = .ok (.iload_n 2, 1) := by decide +kernel
theorem d9_1 : decode prog_37_method_5_code 1 = .ok (.aload_n 0, 1) := by decide +kernel
theorem d9_2 : decode prog_37_method_5_code 2 = .ok (.getfield 22, 3) := by decide +kernel
theorem d9_5 : decode prog_37_method_5_code 5 = .ok (.iload_n 1, 1) := by decide +kernel
theorem d9_6 : decode prog_37_method_5_code 6 = .ok (.aaload, 1) := by decide +kernel
theorem d9_7 : decode prog_37_method_5_code 7 = .ok (.arraylength, 1) := by decide +kernel
theorem d9_8 : decode prog_37_method_5_code 8 = .ok (.if_icmp .lt 48, 3) := by decide +kernel
theorem d9_56 : decode prog_37_method_5_code 56 = .ok (.aload_n 0, 1) := by decide +kernel
theorem d9_57 : decode prog_37_method_5_code 57 = .ok (.getfield 22, 3) := by decide +kernel
theorem d9_60 : decode prog_37_method_5_code 60 = .ok (.iload_n 1, 1) := by decide +kernel
theorem d9_61 : decode prog_37_method_5_code 61 = .ok (.aaload, 1) := by decide +kernel
theorem d9_62 : decode prog_37_method_5_code 62 = .ok (.areturn, 1) := by decide +kernel
set_option maxRecDepth 65536 in
set_option maxHeartbeats 40000000 in
theorem rmR_A (l : Launch) (Z : State) (a0 : Array Value) (hw : ∀ d ∈ tables_1, d.before a0 Z = true) (ws : List Jvm.Cond) (a1 : Addr) (aH : Addr) (rA : Addr) (rB : Addr) (kH : ClassId) (kL : ClassId) (cn : Int32) (wd : Int32) (u : Int64) (vv : Int64) (h0 : Heap) (n0 : Nat) (O0 : Old Z n0 h0) (Fh : Fld Z h0 a1 "com/example/lumenplan/lumenplan/simulation/Wavelengths" "held" "[[J" (.ref aH)) (VH : Arv Z h0 aH kH (.array .long) (2 : Int32) [(.ref rA), (.ref rB)] .null) (VA : Arv Z h0 rA kL .long (1 : Int32) [(.long u)] (.long (0 : Int64))) (VB : Arv Z h0 rB kL .long (1 : Int32) [(.long vv)] (.long (0 : Int64))) :
    MetFree l (⟨"com/example/lumenplan/lumenplan/simulation/Wavelengths", "reaching", "(II)[J"⟩ : MethodName) (head1 (Jvm.Cond.code (⟨"com/example/lumenplan/lumenplan/simulation/Wavelengths", "reaching", "(II)[J"⟩ : MethodName) prog_37_method_5_code 4 (some (.array .long)) :: ws) ({ frames := 0, cells := 0, slots := 0, locals := 0 } : Room)) (fun a U => a = #[(.ref a1), (.int (0 : Int32)), (.int (0 : Int32))] ∧ Z.Warmed39 U.vm ∧ U.heap = h0) (fun _ _ _ _ _ => True) (fun _ U o U' => ∃ v L, o = .returned v ∧ Q_rmR_A Z rA rB h0 n0 v U'.heap L ∧ FrameEnd U o U' L ({ frames := 0, cells := 0, slots := 0, locals := 0 } : Room).cells ({ frames := 0, cells := 0, slots := 0, locals := 0 } : Room).slots) := by
  refine MetFree.of_bodySF (plainFor_of_name pn_Wavelengths) hisR ?_
  intro p e s m args below meth c s₁ Bd hml0 hP hK
  obtain ⟨rfl, hZ, hh⟩ := hP
  have hx := Bd.exec
  have hby := Bd.bytes
  have hml : c.maxLocals = 4 := hml0
  have hown : s.vm.findClass "com/example/lumenplan/lumenplan/simulation/Wavelengths" = some m.cls := findClass_of_methodNamed Bd.named
  have hnm := (name_of_methodNamed Bd.named Bd.method).1
  have X0 : Stand p l e ({ frames := 0, cells := 0, slots := 0, locals := 0 } : Room) s m #[(.ref a1), (.int (0 : Int32)), (.int (0 : Int32))] below meth c s₁ [] 0 0 := Stand.of_body Bd
  have e0 : s₁.heap = h0 := by rw [← hh, Bd.state]; rfl
  have N0 := Fr.nil n0
  obtain ⟨S0, hS0⟩ : ∃ z, z = s₁.setTop (entryFrame m #[(.ref a1), (.int (0 : Int32)), (.int (0 : Int32))] 4) := ⟨_, rfl⟩
  have k0 : Rch p e below S0 s₁ (mkF m 0 #[vR a1, vI 0, vI 0, vU] []) := fun t kq => hS0 ▸ castTop (ef_9 m a1 (0 : Int32) (0 : Int32)) kq
  have k212 : Rch p e below S0 s₁ (mkF m 2 #[vR a1, vI 0, vI 0, vU] [(.ref a1), (.int (0 : Int32))]) := fun t h => k0 t (by
      show Steps p.tables e below (s₁.setTop (mkF m 0 #[vR a1, vI 0, vI 0, vU] [])) _
      refine XS.iloadN X0.here hx rfl (hb hby d9_0) rfl ?_
      refine XS.aloadN X0.here hx rfl (hb hby d9_1) rfl rfl ?_
      exact h)
  obtain ⟨T211, X211, e211, st211⟩ := getF X0 hx hZ hown (host := "") (Or.inl (hw _ (gm 22 rfl))) Via.refl e0 Fh (g := (mkF m 2 #[vR a1, vI 0, vI 0, vU] [(.ref a1), (.int (0 : Int32))])) rfl rfl (hb hby d9_2)
  have k213 : Rch p e below S0 T211 (mkF m 5 #[vR a1, vI 0, vI 0, vU] [(.ref aH), (.int (0 : Int32))]) := fun t h => k212 t (st211 t h)
  have k215 : Rch p e below S0 T211 (mkF m 6 #[vR a1, vI 0, vI 0, vU] [(.int (0 : Int32)), (.ref aH), (.int (0 : Int32))]) := fun t h => k213 t (by
      show Steps p.tables e below (T211.setTop (mkF m 5 #[vR a1, vI 0, vI 0, vU] [(.ref aH), (.int (0 : Int32))])) _
      refine XS.iloadN X211.here hx rfl (hb hby d9_5) rfl ?_
      exact h)
  obtain ⟨cl214, Ar214, q214, Sz214, Ng214, Hs214, G214⟩ := id VH
  have hin214 : ¬ ((0 : Int32) < 0 ∨ cl214.slots.size ≤ ((0 : Int32)).toNatClampNeg) := inb_of Sz214 ⟨by decide, by decide⟩
  have hat214 : cl214.slots[((0 : Int32)).toNatClampNeg]? = some (.ref rA) := Hs214.at hin214 (rfl)
  have k217 : Rch p e below S0 T211 (mkF m 7 #[vR a1, vI 0, vI 0, vU] [(.ref rA), (.int (0 : Int32))]) := fun t h => k215 t (by
      show Steps p.tables e below (T211.setTop (mkF m 6 #[vR a1, vI 0, vI 0, vU] [(.int (0 : Int32)), (.ref aH), (.int (0 : Int32))])) _
      refine X211.aaload hx (j := (0 : Int32)) (v := (.ref rA)) (by rw [e211]; exact Ar214.1) (State.isArrayOf_alike hZ.alike Ar214.2.1) rfl Ar214.2.2 hin214 hat214 (g := (mkF m 6 #[vR a1, vI 0, vI 0, vU] [(.int (0 : Int32)), (.ref aH), (.int (0 : Int32))])) rfl rfl (hb hby d9_6) _ ?_
      exact h)
  obtain ⟨cl216, Ar216, q216, Sz216, Ng216, Hs216, G216⟩ := id VA
  have k219 : Rch p e below S0 T211 (mkF m 57 #[vR a1, vI 0, vI 0, vU] [(.ref a1)]) := fun t h => k217 t (by
      show Steps p.tables e below (T211.setTop (mkF m 7 #[vR a1, vI 0, vI 0, vU] [(.ref rA), (.int (0 : Int32))])) _
      refine X211.arraylength hx (by rw [e211]; exact Ar216.1) (State.isArrayOf_alike hZ.alike Ar216.2.1) (g := (mkF m 7 #[vR a1, vI 0, vI 0, vU] [(.ref rA), (.int (0 : Int32))])) rfl rfl (hb hby d9_7) _ ?_
      rw [len_of Sz216 Ng216]
      refine XS.icmpYes X211.here hx rfl (pc0 := 8) (pc' := 56) rfl (hb hby d9_8) rfl (tlt (by decide : (0 : Int32) < (1 : Int32))).1 (by decide) (by decide) ?_
      refine XS.aloadN X211.here hx rfl (hb hby d9_56) rfl rfl ?_
      exact h)
  obtain ⟨T218, X218, e218, st218⟩ := getF X211 hx hZ hown (host := "") (Or.inl (hw _ (gm 22 rfl))) Via.refl e211 Fh (g := (mkF m 57 #[vR a1, vI 0, vI 0, vU] [(.ref a1)])) rfl rfl (hb hby d9_57)
  have k220 : Rch p e below S0 T218 (mkF m 60 #[vR a1, vI 0, vI 0, vU] [(.ref aH)]) := fun t h => k219 t (st218 t h)
  have k222 : Rch p e below S0 T218 (mkF m 61 #[vR a1, vI 0, vI 0, vU] [(.int (0 : Int32)), (.ref aH)]) := fun t h => k220 t (by
      show Steps p.tables e below (T218.setTop (mkF m 60 #[vR a1, vI 0, vI 0, vU] [(.ref aH)])) _
      refine XS.iloadN X218.here hx rfl (hb hby d9_60) rfl ?_
      exact h)
  obtain ⟨cl221, Ar221, q221, Sz221, Ng221, Hs221, G221⟩ := id VH
  have hin221 : ¬ ((0 : Int32) < 0 ∨ cl221.slots.size ≤ ((0 : Int32)).toNatClampNeg) := inb_of Sz221 ⟨by decide, by decide⟩
  have hat221 : cl221.slots[((0 : Int32)).toNatClampNeg]? = some (.ref rA) := Hs221.at hin221 (rfl)
  have k223 : Rch p e below S0 T218 (mkF m 62 #[vR a1, vI 0, vI 0, vU] [(.ref rA)]) := fun t h => k222 t (by
      show Steps p.tables e below (T218.setTop (mkF m 61 #[vR a1, vI 0, vI 0, vU] [(.int (0 : Int32)), (.ref aH)])) _
      refine X218.aaload hx (j := (0 : Int32)) (v := (.ref rA)) (by rw [e218]; exact Ar221.1) (State.isArrayOf_alike hZ.alike Ar221.2.1) rfl Ar221.2.2 hin221 hat221 (g := (mkF m 61 #[vR a1, vI 0, vI 0, vU] [(.int (0 : Int32)), (.ref aH)])) rfl rfl (hb hby d9_61) _ ?_
      exact h)
  obtain ⟨fs, hr, hrun, hended, hW, hsame⟩ := X218.leave (v := (some (.ref rA))) (fun h => by rw [Bd.returns] at h; cases h)
  refine ⟨_, _, ?_, hrun, hended, _, _, rfl, ?_, ⟨_, rfl⟩, hW, hsame.mono (by decide) (by decide)⟩
  · rw [← hS0]
    refine k223 _ ?_
    show Steps p.tables e below (T218.setTop (mkF m 62 #[vR a1, vI 0, vI 0, vU] [(.ref rA)])) _
    jvm_step X218.here [X218.here.top, hx, (hb hby d9_62), X218.method', Bd.returns, Value.isRef, FieldType.isReference]
    first | (intro acts; rw [hr _ acts rfl rfl rfl]) | rw [hr _ _ rfl rfl rfl]
    exact Steps.refl _
  · show Q_rmR_A Z rA rB h0 n0 _ T218.heap _
    rw [e218]
    exact ⟨rfl, N0, rfl⟩
def Q_rmR_B (Z : State) (rA : Addr) (rB : Addr) (h0 : Heap) (n0 : Nat) (v : Option Value) (h : Heap) (L : List Loc) : Prop := v = some (.ref rB) ∧ Fr n0 L ∧ h = h0
set_option maxRecDepth 65536 in
set_option maxHeartbeats 40000000 in
theorem rmR_B (l : Launch) (Z : State) (a0 : Array Value) (hw : ∀ d ∈ tables_1, d.before a0 Z = true) (ws : List Jvm.Cond) (a1 : Addr) (aH : Addr) (rA : Addr) (rB : Addr) (kH : ClassId) (kL : ClassId) (cn : Int32) (wd : Int32) (u : Int64) (vv : Int64) (h0 : Heap) (n0 : Nat) (O0 : Old Z n0 h0) (Fh : Fld Z h0 a1 "com/example/lumenplan/lumenplan/simulation/Wavelengths" "held" "[[J" (.ref aH)) (VH : Arv Z h0 aH kH (.array .long) (2 : Int32) [(.ref rA), (.ref rB)] .null) (VA : Arv Z h0 rA kL .long (1 : Int32) [(.long u)] (.long (0 : Int64))) (VB : Arv Z h0 rB kL .long (1 : Int32) [(.long vv)] (.long (0 : Int64))) :
    MetFree l (⟨"com/example/lumenplan/lumenplan/simulation/Wavelengths", "reaching", "(II)[J"⟩ : MethodName) (head1 (Jvm.Cond.code (⟨"com/example/lumenplan/lumenplan/simulation/Wavelengths", "reaching", "(II)[J"⟩ : MethodName) prog_37_method_5_code 4 (some (.array .long)) :: ws) ({ frames := 0, cells := 0, slots := 0, locals := 0 } : Room)) (fun a U => a = #[(.ref a1), (.int (1 : Int32)), (.int (0 : Int32))] ∧ Z.Warmed39 U.vm ∧ U.heap = h0) (fun _ _ _ _ _ => True) (fun _ U o U' => ∃ v L, o = .returned v ∧ Q_rmR_B Z rA rB h0 n0 v U'.heap L ∧ FrameEnd U o U' L ({ frames := 0, cells := 0, slots := 0, locals := 0 } : Room).cells ({ frames := 0, cells := 0, slots := 0, locals := 0 } : Room).slots) := by
  refine MetFree.of_bodySF (plainFor_of_name pn_Wavelengths) hisR ?_
  intro p e s m args below meth c s₁ Bd hml0 hP hK
  obtain ⟨rfl, hZ, hh⟩ := hP
  have hx := Bd.exec
  have hby := Bd.bytes
  have hml : c.maxLocals = 4 := hml0
  have hown : s.vm.findClass "com/example/lumenplan/lumenplan/simulation/Wavelengths" = some m.cls := findClass_of_methodNamed Bd.named
  have hnm := (name_of_methodNamed Bd.named Bd.method).1
  have X0 : Stand p l e ({ frames := 0, cells := 0, slots := 0, locals := 0 } : Room) s m #[(.ref a1), (.int (1 : Int32)), (.int (0 : Int32))] below meth c s₁ [] 0 0 := Stand.of_body Bd
  have e0 : s₁.heap = h0 := by rw [← hh, Bd.state]; rfl
  have N0 := Fr.nil n0
  obtain ⟨S0, hS0⟩ : ∃ z, z = s₁.setTop (entryFrame m #[(.ref a1), (.int (1 : Int32)), (.int (0 : Int32))] 4) := ⟨_, rfl⟩
  have k0 : Rch p e below S0 s₁ (mkF m 0 #[vR a1, vI 1, vI 0, vU] []) := fun t kq => hS0 ▸ castTop (ef_9 m a1 (1 : Int32) (0 : Int32)) kq
  have k225 : Rch p e below S0 s₁ (mkF m 2 #[vR a1, vI 1, vI 0, vU] [(.ref a1), (.int (0 : Int32))]) := fun t h => k0 t (by
      show Steps p.tables e below (s₁.setTop (mkF m 0 #[vR a1, vI 1, vI 0, vU] [])) _
      refine XS.iloadN X0.here hx rfl (hb hby d9_0) rfl ?_
      refine XS.aloadN X0.here hx rfl (hb hby d9_1) rfl rfl ?_
      exact h)
  obtain ⟨T224, X224, e224, st224⟩ := getF X0 hx hZ hown (host := "") (Or.inl (hw _ (gm 22 rfl))) Via.refl e0 Fh (g := (mkF m 2 #[vR a1, vI 1, vI 0, vU] [(.ref a1), (.int (0 : Int32))])) rfl rfl (hb hby d9_2)
  have k226 : Rch p e below S0 T224 (mkF m 5 #[vR a1, vI 1, vI 0, vU] [(.ref aH), (.int (0 : Int32))]) := fun t h => k225 t (st224 t h)
  have k228 : Rch p e below S0 T224 (mkF m 6 #[vR a1, vI 1, vI 0, vU] [(.int (1 : Int32)), (.ref aH), (.int (0 : Int32))]) := fun t h => k226 t (by
      show Steps p.tables e below (T224.setTop (mkF m 5 #[vR a1, vI 1, vI 0, vU] [(.ref aH), (.int (0 : Int32))])) _
      refine XS.iloadN X224.here hx rfl (hb hby d9_5) rfl ?_
      exact h)
  obtain ⟨cl227, Ar227, q227, Sz227, Ng227, Hs227, G227⟩ := id VH
  have hin227 : ¬ ((1 : Int32) < 0 ∨ cl227.slots.size ≤ ((1 : Int32)).toNatClampNeg) := inb_of Sz227 ⟨by decide, by decide⟩
  have hat227 : cl227.slots[((1 : Int32)).toNatClampNeg]? = some (.ref rB) := Hs227.at hin227 (rfl)
  have k230 : Rch p e below S0 T224 (mkF m 7 #[vR a1, vI 1, vI 0, vU] [(.ref rB), (.int (0 : Int32))]) := fun t h => k228 t (by
      show Steps p.tables e below (T224.setTop (mkF m 6 #[vR a1, vI 1, vI 0, vU] [(.int (1 : Int32)), (.ref aH), (.int (0 : Int32))])) _
      refine X224.aaload hx (j := (1 : Int32)) (v := (.ref rB)) (by rw [e224]; exact Ar227.1) (State.isArrayOf_alike hZ.alike Ar227.2.1) rfl Ar227.2.2 hin227 hat227 (g := (mkF m 6 #[vR a1, vI 1, vI 0, vU] [(.int (1 : Int32)), (.ref aH), (.int (0 : Int32))])) rfl rfl (hb hby d9_6) _ ?_
      exact h)
  obtain ⟨cl229, Ar229, q229, Sz229, Ng229, Hs229, G229⟩ := id VB
  have k232 : Rch p e below S0 T224 (mkF m 57 #[vR a1, vI 1, vI 0, vU] [(.ref a1)]) := fun t h => k230 t (by
      show Steps p.tables e below (T224.setTop (mkF m 7 #[vR a1, vI 1, vI 0, vU] [(.ref rB), (.int (0 : Int32))])) _
      refine X224.arraylength hx (by rw [e224]; exact Ar229.1) (State.isArrayOf_alike hZ.alike Ar229.2.1) (g := (mkF m 7 #[vR a1, vI 1, vI 0, vU] [(.ref rB), (.int (0 : Int32))])) rfl rfl (hb hby d9_7) _ ?_
      rw [len_of Sz229 Ng229]
      refine XS.icmpYes X224.here hx rfl (pc0 := 8) (pc' := 56) rfl (hb hby d9_8) rfl (tlt (by decide : (0 : Int32) < (1 : Int32))).1 (by decide) (by decide) ?_
      refine XS.aloadN X224.here hx rfl (hb hby d9_56) rfl rfl ?_
      exact h)
  obtain ⟨T231, X231, e231, st231⟩ := getF X224 hx hZ hown (host := "") (Or.inl (hw _ (gm 22 rfl))) Via.refl e224 Fh (g := (mkF m 57 #[vR a1, vI 1, vI 0, vU] [(.ref a1)])) rfl rfl (hb hby d9_57)
  have k233 : Rch p e below S0 T231 (mkF m 60 #[vR a1, vI 1, vI 0, vU] [(.ref aH)]) := fun t h => k232 t (st231 t h)
  have k235 : Rch p e below S0 T231 (mkF m 61 #[vR a1, vI 1, vI 0, vU] [(.int (1 : Int32)), (.ref aH)]) := fun t h => k233 t (by
      show Steps p.tables e below (T231.setTop (mkF m 60 #[vR a1, vI 1, vI 0, vU] [(.ref aH)])) _
      refine XS.iloadN X231.here hx rfl (hb hby d9_60) rfl ?_
      exact h)
  obtain ⟨cl234, Ar234, q234, Sz234, Ng234, Hs234, G234⟩ := id VH
  have hin234 : ¬ ((1 : Int32) < 0 ∨ cl234.slots.size ≤ ((1 : Int32)).toNatClampNeg) := inb_of Sz234 ⟨by decide, by decide⟩
  have hat234 : cl234.slots[((1 : Int32)).toNatClampNeg]? = some (.ref rB) := Hs234.at hin234 (rfl)
  have k236 : Rch p e below S0 T231 (mkF m 62 #[vR a1, vI 1, vI 0, vU] [(.ref rB)]) := fun t h => k235 t (by
      show Steps p.tables e below (T231.setTop (mkF m 61 #[vR a1, vI 1, vI 0, vU] [(.int (1 : Int32)), (.ref aH)])) _
      refine X231.aaload hx (j := (1 : Int32)) (v := (.ref rB)) (by rw [e231]; exact Ar234.1) (State.isArrayOf_alike hZ.alike Ar234.2.1) rfl Ar234.2.2 hin234 hat234 (g := (mkF m 61 #[vR a1, vI 1, vI 0, vU] [(.int (1 : Int32)), (.ref aH)])) rfl rfl (hb hby d9_61) _ ?_
      exact h)
  obtain ⟨fs, hr, hrun, hended, hW, hsame⟩ := X231.leave (v := (some (.ref rB))) (fun h => by rw [Bd.returns] at h; cases h)
  refine ⟨_, _, ?_, hrun, hended, _, _, rfl, ?_, ⟨_, rfl⟩, hW, hsame.mono (by decide) (by decide)⟩
  · rw [← hS0]
    refine k236 _ ?_
    show Steps p.tables e below (T231.setTop (mkF m 62 #[vR a1, vI 1, vI 0, vU] [(.ref rB)])) _
    jvm_step X231.here [X231.here.top, hx, (hb hby d9_62), X231.method', Bd.returns, Value.isRef, FieldType.isReference]
    first | (intro acts; rw [hr _ acts rfl rfl rfl]) | rw [hr _ _ rfl rfl rfl]
    exact Steps.refl _
  · show Q_rmR_B Z rA rB h0 n0 _ T231.heap _
    rw [e231]
    exact ⟨rfl, N0, rfl⟩
def Q_rmAF1 (Z : State) (aa : Addr) (zz : Int32) (ka : ClassId) (h0 : Heap) (n0 : Nat) (v : Option Value) (h : Heap) (L : List Loc) : Prop := v = none ∧ Fr n0 L ∧ Keep h0 h [aa] ∧ Arv Z h aa ka .int (1 : Int32) [(.int zz)] (.int (0 : Int32))
theorem ef_8 (m : MethodId) (x0 : Addr) (x1 : Int32) : entryFrame m #[(.ref x0), (.int x1)] 4 = mkF m 0 #[.val (.ref x0), .val (.int x1), .unset, .unset] [] := by first | (simp [entryFrame, mkF, argsToLocals, Value.category]; done) | rfl
theorem pn_Arrays : plainName "java/util/Arrays" = true := by first | (simp [plainName, overriddenIn]; done) | decide +kernel
theorem d8_0 : decode jdk_65_method_103_code 0 = .ok (.iconst 0, 1) := by decide +kernel
theorem d8_1 : decode jdk_65_method_103_code 1 = .ok (.istore_n 2, 1) := by decide +kernel
theorem d8_2 : decode jdk_65_method_103_code 2 = .ok (.aload_n 0, 1) := by decide +kernel
theorem d8_3 : decode jdk_65_method_103_code 3 = .ok (.arraylength, 1) := by decide +kernel
theorem d8_4 : decode jdk_65_method_103_code 4 = .ok (.istore_n 3, 1) := by decide +kernel
theorem d8_5 : decode jdk_65_method_103_code 5 = .ok (.iload_n 2, 1) := by decide +kernel
theorem d8_6 : decode jdk_65_method_103_code 6 = .ok (.iload_n 3, 1) := by decide +kernel
theorem d8_7 : decode jdk_65_method_103_code 7 = .ok (.if_icmp .ge 13, 3) := by decide +kernel
theorem d8_10 : decode jdk_65_method_103_code 10 = .ok (.aload_n 0, 1) := by decide +kernel
theorem d8_11 : decode jdk_65_method_103_code 11 = .ok (.iload_n 2, 1) := by decide +kernel
theorem d8_12 : decode jdk_65_method_103_code 12 = .ok (.iload_n 1, 1) := by decide +kernel
theorem d8_13 : decode jdk_65_method_103_code 13 = .ok (.iastore, 1) := by decide +kernel
theorem d8_14 : decode jdk_65_method_103_code 14 = .ok (.iinc 2 1, 3) := by decide +kernel
theorem d8_17 : decode jdk_65_method_103_code 17 = .ok (.goto (-12), 3) := by decide +kernel
theorem d8_20 : decode jdk_65_method_103_code 20 = .ok (.return_, 1) := by decide +kernel
set_option maxRecDepth 65536 in
set_option maxHeartbeats 40000000 in
theorem rmAF1 (l : Launch) (Z : State) (a0 : Array Value) (hw : ∀ d ∈ tables_1, d.before a0 Z = true) (ws : List Jvm.Cond) (aa : Addr) (zz : Int32) (ka : ClassId) (h0 : Heap) (n0 : Nat) (O0 : Old Z n0 h0) (ge_aa : n0 ≤ aa) (VX : Arv Z h0 aa ka .int (1 : Int32) [(.int (0 : Int32))] (.int (0 : Int32))) :
    MetFree l (⟨"java/util/Arrays", "fill", "([II)V"⟩ : MethodName) (head1 (Jvm.Cond.code (⟨"java/util/Arrays", "fill", "([II)V"⟩ : MethodName) jdk_65_method_103_code 4 none :: ws) ({ frames := 0, cells := 0, slots := 0, locals := 0 } : Room)) (fun a U => a = #[(.ref aa), (.int zz)] ∧ Z.Warmed39 U.vm ∧ U.heap = h0) (fun _ _ _ _ _ => True) (fun _ U o U' => ∃ v L, o = .returned v ∧ Q_rmAF1 Z aa zz ka h0 n0 v U'.heap L ∧ FrameEnd U o U' L ({ frames := 0, cells := 0, slots := 0, locals := 0 } : Room).cells ({ frames := 0, cells := 0, slots := 0, locals := 0 } : Room).slots) := by
  refine MetFree.of_bodySF (plainFor_of_name pn_Arrays) hisR ?_
  intro p e s m args below meth c s₁ Bd hml0 hP hK
  obtain ⟨rfl, hZ, hh⟩ := hP
  have hx := Bd.exec
  have hby := Bd.bytes
  have hml : c.maxLocals = 4 := hml0
  have hown : s.vm.findClass "java/util/Arrays" = some m.cls := findClass_of_methodNamed Bd.named
  have hnm := (name_of_methodNamed Bd.named Bd.method).1
  have X0 : Stand p l e ({ frames := 0, cells := 0, slots := 0, locals := 0 } : Room) s m #[(.ref aa), (.int zz)] below meth c s₁ [] 0 0 := Stand.of_body Bd
  have e0 : s₁.heap = h0 := by rw [← hh, Bd.state]; rfl
  have N0 := Fr.nil n0
  obtain ⟨S0, hS0⟩ : ∃ z, z = s₁.setTop (entryFrame m #[(.ref aa), (.int zz)] 4) := ⟨_, rfl⟩
  have k0 : Rch p e below S0 s₁ (mkF m 0 #[vR aa, vI zz, vU, vU] []) := fun t kq => hS0 ▸ castTop (ef_8 m aa zz) kq
  have K0 : Keep h0 h0 [aa] := Keep.refl h0 _
  have k238 : Rch p e below S0 s₁ (mkF m 3 #[vR aa, vI zz, vI 0, vU] [(.ref aa)]) := fun t h => k0 t (by
      show Steps p.tables e below (s₁.setTop (mkF m 0 #[vR aa, vI zz, vU, vU] [])) _
      refine XS.iconst X0.here hx rfl (hb hby d8_0) ?_
      refine XS.istoreN X0.here hx rfl (hb hby d8_1) rfl (l' := #[vR aa, vI zz, vI 0, vU]) rfl ?_
      refine XS.aloadN X0.here hx rfl (hb hby d8_2) rfl rfl ?_
      exact h)
  obtain ⟨cl237, Ar237, q237, Sz237, Ng237, Hs237, G237⟩ := id VX
  have k240 : Rch p e below S0 s₁ (mkF m 13 #[vR aa, vI zz, vI 0, vI 1] [(.int zz), (.int (0 : Int32)), (.ref aa)]) := fun t h => k238 t (by
      show Steps p.tables e below (s₁.setTop (mkF m 3 #[vR aa, vI zz, vI 0, vU] [(.ref aa)])) _
      refine X0.arraylength hx (by rw [e0]; exact Ar237.1) (State.isArrayOf_alike hZ.alike Ar237.2.1) (g := (mkF m 3 #[vR aa, vI zz, vI 0, vU] [(.ref aa)])) rfl rfl (hb hby d8_3) _ ?_
      rw [len_of Sz237 Ng237]
      refine XS.istoreN X0.here hx rfl (hb hby d8_4) rfl (l' := #[vR aa, vI zz, vI 0, vI 1]) rfl ?_
      refine XS.iloadN X0.here hx rfl (hb hby d8_5) rfl ?_
      refine XS.iloadN X0.here hx rfl (hb hby d8_6) rfl ?_
      refine XS.icmpNo X0.here hx rfl (hb hby d8_7) rfl (tlt (by decide : (0 : Int32) < (1 : Int32))).2.1 ?_
      refine XS.aloadN X0.here hx rfl (hb hby d8_10) rfl rfl ?_
      refine XS.iloadN X0.here hx rfl (hb hby d8_11) rfl ?_
      refine XS.iloadN X0.here hx rfl (hb hby d8_12) rfl ?_
      exact h)
  obtain ⟨cl239, Ar239, q239, Sz239, Ng239, Hs239, G239⟩ := id VX
  have hin239 : ¬ ((0 : Int32) < 0 ∨ cl239.slots.size ≤ ((0 : Int32)).toNatClampNeg) := inb_of Sz239 ⟨by decide, by decide⟩
  obtain ⟨T239, h239, X239, e239, W239, st239⟩ := stI X0 hx hZ e0 Ar239 (j := (0 : Int32)) hin239 (g := (mkF m 13 #[vR aa, vI zz, vI 0, vI 1] [(.int zz), (.int (0 : Int32)), (.ref aa)])) rfl rfl (hb hby d8_13)
  have k241 : Rch p e below S0 T239 (mkF m 14 #[vR aa, vI zz, vI 0, vI 1] []) := fun t h => k240 t (st239 t h)
  have N239 := Fr.snoc X239 N0 ge_aa
  have VX' := Arv.set Ar239 q239 Sz239 Ng239 Hs239 G239 rfl W239 0 rfl (Nat.le_of_ble_eq_true rfl)
  replace VX : Arv Z h239 aa ka .int (1 : Int32) [(.int zz)] (.int (0 : Int32)) := VX'
  have O242 := O0.wr W239 ge_aa
  have K243 := K0.wr W239 (Or.inl (gm 0 rfl))
  have k244 : Rch p e below S0 T239 (mkF m 20 #[vR aa, vI zz, vI 1, vI 1] []) := fun t h => k241 t (by
      show Steps p.tables e below (T239.setTop (mkF m 14 #[vR aa, vI zz, vI 0, vI 1] [])) _
      refine XS.iinc X239.here hx rfl (hb hby d8_14) rfl (l' := #[vR aa, vI zz, vI ((0 : Int32) + (1 : Int32)), vI 1]) rfl ?_
      rw [(by decide : ((0 : Int32) + (1 : Int32)) = (1 : Int32))]
      refine XS.goto X239.here hx rfl (pc0 := 17) (pc' := 5) rfl (hb hby d8_17) (by decide) (by decide) ?_
      refine XS.iloadN X239.here hx rfl (hb hby d8_5) rfl ?_
      refine XS.iloadN X239.here hx rfl (hb hby d8_6) rfl ?_
      refine XS.icmpYes X239.here hx rfl (pc0 := 7) (pc' := 20) rfl (hb hby d8_7) rfl (flt (by decide : ¬ ((1 : Int32) < (1 : Int32)))).2.1 (by decide) (by decide) ?_
      exact h)
  obtain ⟨fs, hr, hrun, hended, hW, hsame⟩ := X239.leave (v := none) (fun _ => rfl)
  refine ⟨_, _, ?_, hrun, hended, _, _, rfl, ?_, ⟨_, rfl⟩, hW, hsame.mono (by decide) (by decide)⟩
  · rw [← hS0]
    refine k244 _ ?_
    show Steps p.tables e below (T239.setTop (mkF m 20 #[vR aa, vI zz, vI 1, vI 1] [])) _
    exact X239.returnOut hx Bd.returns (hb hby d8_20) hr
  · show Q_rmAF1 Z aa zz ka h0 n0 _ T239.heap _
    rw [e239]
    exact ⟨rfl, N239, K243, VX⟩
def Q_rmAF2 (Z : State) (aa : Addr) (zz : Int32) (ka : ClassId) (h0 : Heap) (n0 : Nat) (v : Option Value) (h : Heap) (L : List Loc) : Prop := v = none ∧ Fr n0 L ∧ Keep h0 h [aa] ∧ Arv Z h aa ka .int (2 : Int32) [(.int zz), (.int zz)] (.int (0 : Int32))
set_option maxRecDepth 65536 in
set_option maxHeartbeats 40000000 in
theorem rmAF2 (l : Launch) (Z : State) (a0 : Array Value) (hw : ∀ d ∈ tables_1, d.before a0 Z = true) (ws : List Jvm.Cond) (aa : Addr) (zz : Int32) (ka : ClassId) (h0 : Heap) (n0 : Nat) (O0 : Old Z n0 h0) (ge_aa : n0 ≤ aa) (VX : Arv Z h0 aa ka .int (2 : Int32) [(.int (0 : Int32)), (.int (0 : Int32))] (.int (0 : Int32))) :
    MetFree l (⟨"java/util/Arrays", "fill", "([II)V"⟩ : MethodName) (head1 (Jvm.Cond.code (⟨"java/util/Arrays", "fill", "([II)V"⟩ : MethodName) jdk_65_method_103_code 4 none :: ws) ({ frames := 0, cells := 0, slots := 0, locals := 0 } : Room)) (fun a U => a = #[(.ref aa), (.int zz)] ∧ Z.Warmed39 U.vm ∧ U.heap = h0) (fun _ _ _ _ _ => True) (fun _ U o U' => ∃ v L, o = .returned v ∧ Q_rmAF2 Z aa zz ka h0 n0 v U'.heap L ∧ FrameEnd U o U' L ({ frames := 0, cells := 0, slots := 0, locals := 0 } : Room).cells ({ frames := 0, cells := 0, slots := 0, locals := 0 } : Room).slots) := by
  refine MetFree.of_bodySF (plainFor_of_name pn_Arrays) hisR ?_
  intro p e s m args below meth c s₁ Bd hml0 hP hK
  obtain ⟨rfl, hZ, hh⟩ := hP
  have hx := Bd.exec
  have hby := Bd.bytes
  have hml : c.maxLocals = 4 := hml0
  have hown : s.vm.findClass "java/util/Arrays" = some m.cls := findClass_of_methodNamed Bd.named
  have hnm := (name_of_methodNamed Bd.named Bd.method).1
  have X0 : Stand p l e ({ frames := 0, cells := 0, slots := 0, locals := 0 } : Room) s m #[(.ref aa), (.int zz)] below meth c s₁ [] 0 0 := Stand.of_body Bd
  have e0 : s₁.heap = h0 := by rw [← hh, Bd.state]; rfl
  have N0 := Fr.nil n0
  obtain ⟨S0, hS0⟩ : ∃ z, z = s₁.setTop (entryFrame m #[(.ref aa), (.int zz)] 4) := ⟨_, rfl⟩
  have k0 : Rch p e below S0 s₁ (mkF m 0 #[vR aa, vI zz, vU, vU] []) := fun t kq => hS0 ▸ castTop (ef_8 m aa zz) kq
  have K0 : Keep h0 h0 [aa] := Keep.refl h0 _
  have k246 : Rch p e below S0 s₁ (mkF m 3 #[vR aa, vI zz, vI 0, vU] [(.ref aa)]) := fun t h => k0 t (by
      show Steps p.tables e below (s₁.setTop (mkF m 0 #[vR aa, vI zz, vU, vU] [])) _
      refine XS.iconst X0.here hx rfl (hb hby d8_0) ?_
      refine XS.istoreN X0.here hx rfl (hb hby d8_1) rfl (l' := #[vR aa, vI zz, vI 0, vU]) rfl ?_
      refine XS.aloadN X0.here hx rfl (hb hby d8_2) rfl rfl ?_
      exact h)
  obtain ⟨cl245, Ar245, q245, Sz245, Ng245, Hs245, G245⟩ := id VX
  have k248 : Rch p e below S0 s₁ (mkF m 13 #[vR aa, vI zz, vI 0, vI 2] [(.int zz), (.int (0 : Int32)), (.ref aa)]) := fun t h => k246 t (by
      show Steps p.tables e below (s₁.setTop (mkF m 3 #[vR aa, vI zz, vI 0, vU] [(.ref aa)])) _
      refine X0.arraylength hx (by rw [e0]; exact Ar245.1) (State.isArrayOf_alike hZ.alike Ar245.2.1) (g := (mkF m 3 #[vR aa, vI zz, vI 0, vU] [(.ref aa)])) rfl rfl (hb hby d8_3) _ ?_
      rw [len_of Sz245 Ng245]
      refine XS.istoreN X0.here hx rfl (hb hby d8_4) rfl (l' := #[vR aa, vI zz, vI 0, vI 2]) rfl ?_
      refine XS.iloadN X0.here hx rfl (hb hby d8_5) rfl ?_
      refine XS.iloadN X0.here hx rfl (hb hby d8_6) rfl ?_
      refine XS.icmpNo X0.here hx rfl (hb hby d8_7) rfl (tlt (by decide : (0 : Int32) < (2 : Int32))).2.1 ?_
      refine XS.aloadN X0.here hx rfl (hb hby d8_10) rfl rfl ?_
      refine XS.iloadN X0.here hx rfl (hb hby d8_11) rfl ?_
      refine XS.iloadN X0.here hx rfl (hb hby d8_12) rfl ?_
      exact h)
  obtain ⟨cl247, Ar247, q247, Sz247, Ng247, Hs247, G247⟩ := id VX
  have hin247 : ¬ ((0 : Int32) < 0 ∨ cl247.slots.size ≤ ((0 : Int32)).toNatClampNeg) := inb_of Sz247 ⟨by decide, by decide⟩
  obtain ⟨T247, h247, X247, e247, W247, st247⟩ := stI X0 hx hZ e0 Ar247 (j := (0 : Int32)) hin247 (g := (mkF m 13 #[vR aa, vI zz, vI 0, vI 2] [(.int zz), (.int (0 : Int32)), (.ref aa)])) rfl rfl (hb hby d8_13)
  have k249 : Rch p e below S0 T247 (mkF m 14 #[vR aa, vI zz, vI 0, vI 2] []) := fun t h => k248 t (st247 t h)
  have N247 := Fr.snoc X247 N0 ge_aa
  have VX' := Arv.set Ar247 q247 Sz247 Ng247 Hs247 G247 rfl W247 0 rfl (Nat.le_of_ble_eq_true rfl)
  replace VX : Arv Z h247 aa ka .int (2 : Int32) [(.int zz), (.int (0 : Int32))] (.int (0 : Int32)) := VX'
  have O250 := O0.wr W247 ge_aa
  have K251 := K0.wr W247 (Or.inl (gm 0 rfl))
  have k253 : Rch p e below S0 T247 (mkF m 13 #[vR aa, vI zz, vI 1, vI 2] [(.int zz), (.int (1 : Int32)), (.ref aa)]) := fun t h => k249 t (by
      show Steps p.tables e below (T247.setTop (mkF m 14 #[vR aa, vI zz, vI 0, vI 2] [])) _
      refine XS.iinc X247.here hx rfl (hb hby d8_14) rfl (l' := #[vR aa, vI zz, vI ((0 : Int32) + (1 : Int32)), vI 2]) rfl ?_
      rw [(by decide : ((0 : Int32) + (1 : Int32)) = (1 : Int32))]
      refine XS.goto X247.here hx rfl (pc0 := 17) (pc' := 5) rfl (hb hby d8_17) (by decide) (by decide) ?_
      refine XS.iloadN X247.here hx rfl (hb hby d8_5) rfl ?_
      refine XS.iloadN X247.here hx rfl (hb hby d8_6) rfl ?_
      refine XS.icmpNo X247.here hx rfl (hb hby d8_7) rfl (tlt (by decide : (1 : Int32) < (2 : Int32))).2.1 ?_
      refine XS.aloadN X247.here hx rfl (hb hby d8_10) rfl rfl ?_
      refine XS.iloadN X247.here hx rfl (hb hby d8_11) rfl ?_
      refine XS.iloadN X247.here hx rfl (hb hby d8_12) rfl ?_
      exact h)
  obtain ⟨cl252, Ar252, q252, Sz252, Ng252, Hs252, G252⟩ := id VX
  have hin252 : ¬ ((1 : Int32) < 0 ∨ cl252.slots.size ≤ ((1 : Int32)).toNatClampNeg) := inb_of Sz252 ⟨by decide, by decide⟩
  obtain ⟨T252, h252, X252, e252, W252, st252⟩ := stI X247 hx hZ e247 Ar252 (j := (1 : Int32)) hin252 (g := (mkF m 13 #[vR aa, vI zz, vI 1, vI 2] [(.int zz), (.int (1 : Int32)), (.ref aa)])) rfl rfl (hb hby d8_13)
  have k254 : Rch p e below S0 T252 (mkF m 14 #[vR aa, vI zz, vI 1, vI 2] []) := fun t h => k253 t (st252 t h)
  have N252 := Fr.snoc X252 N247 ge_aa
  have VX' := Arv.set Ar252 q252 Sz252 Ng252 Hs252 G252 rfl W252 1 rfl (Nat.le_of_ble_eq_true rfl)
  replace VX : Arv Z h252 aa ka .int (2 : Int32) [(.int zz), (.int zz)] (.int (0 : Int32)) := VX'
  have O255 := O250.wr W252 ge_aa
  have K256 := K251.wr W252 (Or.inl (gm 0 rfl))
  have k257 : Rch p e below S0 T252 (mkF m 20 #[vR aa, vI zz, vI 2, vI 2] []) := fun t h => k254 t (by
      show Steps p.tables e below (T252.setTop (mkF m 14 #[vR aa, vI zz, vI 1, vI 2] [])) _
      refine XS.iinc X252.here hx rfl (hb hby d8_14) rfl (l' := #[vR aa, vI zz, vI ((1 : Int32) + (1 : Int32)), vI 2]) rfl ?_
      rw [(by decide : ((1 : Int32) + (1 : Int32)) = (2 : Int32))]
      refine XS.goto X252.here hx rfl (pc0 := 17) (pc' := 5) rfl (hb hby d8_17) (by decide) (by decide) ?_
      refine XS.iloadN X252.here hx rfl (hb hby d8_5) rfl ?_
      refine XS.iloadN X252.here hx rfl (hb hby d8_6) rfl ?_
      refine XS.icmpYes X252.here hx rfl (pc0 := 7) (pc' := 20) rfl (hb hby d8_7) rfl (flt (by decide : ¬ ((2 : Int32) < (2 : Int32)))).2.1 (by decide) (by decide) ?_
      exact h)
  obtain ⟨fs, hr, hrun, hended, hW, hsame⟩ := X252.leave (v := none) (fun _ => rfl)
  refine ⟨_, _, ?_, hrun, hended, _, _, rfl, ?_, ⟨_, rfl⟩, hW, hsame.mono (by decide) (by decide)⟩
  · rw [← hS0]
    refine k257 _ ?_
    show Steps p.tables e below (T252.setTop (mkF m 20 #[vR aa, vI zz, vI 2, vI 2] [])) _
    exact X252.returnOut hx Bd.returns (hb hby d8_20) hr
  · show Q_rmAF2 Z aa zz ka h0 n0 _ T252.heap _
    rw [e252]
    exact ⟨rfl, N252, K256, VX⟩
def Q_rmT_A (Z : State) (rA : Addr) (rB : Addr) (kL : ClassId) (u : Int64) (vv : Int64) (r : Int32) (h0 : Heap) (n0 : Nat) (v : Option Value) (h : Heap) (L : List Loc) : Prop := ∃ x kx, v = some (.ref x) ∧ Fr n0 L ∧ Keep h0 h [rA, rB] ∧ h0.size ≤ x ∧ Arv Z h x kx .int (1 : Int32) [(.int r)] (.int (0 : Int32)) ∧ Arv Z h rA kL .long (1 : Int32) [(.long (u ||| ((1 : Int64) <<< (r &&& 0x3f).toInt64)))] (.long (0 : Int64)) ∧ Arv Z h rB kL .long (1 : Int32) [(.long vv)] (.long (0 : Int64))
theorem ef_4 (m : MethodId) (x0 : Addr) (x1 : Addr) (x2 : Addr) : entryFrame m #[(.ref x0), (.ref x1), (.ref x2)] 8 = mkF m 0 #[.val (.ref x0), .val (.ref x1), .val (.ref x2), .unset, .unset, .unset, .unset, .unset] [] := by first | (simp [entryFrame, mkF, argsToLocals, Value.category]; done) | rfl
theorem d4_0 : decode prog_37_method_2_code 0 = .ok (.aload_n 1, 1) := by decide +kernel
theorem d4_1 : decode prog_37_method_2_code 1 = .ok (.arraylength, 1) := by decide +kernel
theorem d4_2 : decode prog_37_method_2_code 2 = .ok (.newarray .int, 2) := by decide +kernel
theorem d4_4 : decode prog_37_method_2_code 4 = .ok (.astore_n 3, 1) := by decide +kernel
theorem d4_5 : decode prog_37_method_2_code 5 = .ok (.aload_n 2, 1) := by decide +kernel
theorem d4_6 : decode prog_37_method_2_code 6 = .ok (.getstatic 25, 3) := by decide +kernel
theorem d4_9 : decode prog_37_method_2_code 9 = .ok (.if_acmp .ne 18, 3) := by decide +kernel
theorem d4_12 : decode prog_37_method_2_code 12 = .ok (.aload_n 3, 1) := by decide +kernel
theorem d4_13 : decode prog_37_method_2_code 13 = .ok (.aload_n 0, 1) := by decide +kernel
theorem d4_14 : decode prog_37_method_2_code 14 = .ok (.aload_n 1, 1) := by decide +kernel
theorem d4_15 : decode prog_37_method_2_code 15 = .ok (.iconst 0, 1) := by decide +kernel
theorem d4_16 : decode prog_37_method_2_code 16 = .ok (.aload_n 1, 1) := by decide +kernel
theorem d4_17 : decode prog_37_method_2_code 17 = .ok (.arraylength, 1) := by decide +kernel
theorem pd_4 : parseMethodDescriptor "([III)I" = some ⟨[(.array .int), .int, .int], some .int⟩ := by decide +kernel
theorem d4_18 : decode prog_37_method_2_code 18 = .ok (.invokevirtual 31, 3) := by decide +kernel
theorem pd_7 : parseMethodDescriptor "([II)V" = some ⟨[(.array .int), .int], none⟩ := by decide +kernel
theorem d4_21 : decode prog_37_method_2_code 21 = .ok (.invokestatic 35, 3) := by decide +kernel
theorem d4_24 : decode prog_37_method_2_code 24 = .ok (.goto 34, 3) := by decide +kernel
theorem d4_58 : decode prog_37_method_2_code 58 = .ok (.aload_n 3, 1) := by decide +kernel
theorem d4_59 : decode prog_37_method_2_code 59 = .ok (.astore 4, 2) := by decide +kernel
theorem d4_61 : decode prog_37_method_2_code 61 = .ok (.aload 4, 2) := by decide +kernel
theorem d4_63 : decode prog_37_method_2_code 63 = .ok (.arraylength, 1) := by decide +kernel
theorem d4_64 : decode prog_37_method_2_code 64 = .ok (.istore 5, 2) := by decide +kernel
theorem d4_66 : decode prog_37_method_2_code 66 = .ok (.iconst 0, 1) := by decide +kernel
theorem d4_67 : decode prog_37_method_2_code 67 = .ok (.istore 6, 2) := by decide +kernel
theorem d4_69 : decode prog_37_method_2_code 69 = .ok (.iload 6, 2) := by decide +kernel
theorem d4_71 : decode prog_37_method_2_code 71 = .ok (.iload 5, 2) := by decide +kernel
theorem d4_73 : decode prog_37_method_2_code 73 = .ok (.if_icmp .ge 23, 3) := by decide +kernel
theorem d4_76 : decode prog_37_method_2_code 76 = .ok (.aload 4, 2) := by decide +kernel
theorem d4_78 : decode prog_37_method_2_code 78 = .ok (.iload 6, 2) := by decide +kernel
theorem d4_80 : decode prog_37_method_2_code 80 = .ok (.iaload, 1) := by decide +kernel
theorem d4_81 : decode prog_37_method_2_code 81 = .ok (.istore 7, 2) := by decide +kernel
theorem d4_83 : decode prog_37_method_2_code 83 = .ok (.iload 7, 2) := by decide +kernel
theorem d4_85 : decode prog_37_method_2_code 85 = .ok (.ifCond .ge 5, 3) := by decide +kernel
theorem d4_90 : decode prog_37_method_2_code 90 = .ok (.iinc 6 1, 3) := by decide +kernel
theorem d4_93 : decode prog_37_method_2_code 93 = .ok (.goto (-24), 3) := by decide +kernel
theorem d4_96 : decode prog_37_method_2_code 96 = .ok (.iconst 0, 1) := by decide +kernel
theorem d4_97 : decode prog_37_method_2_code 97 = .ok (.istore 4, 2) := by decide +kernel
theorem d4_99 : decode prog_37_method_2_code 99 = .ok (.iload 4, 2) := by decide +kernel
theorem d4_101 : decode prog_37_method_2_code 101 = .ok (.aload_n 1, 1) := by decide +kernel
theorem d4_102 : decode prog_37_method_2_code 102 = .ok (.arraylength, 1) := by decide +kernel
theorem d4_103 : decode prog_37_method_2_code 103 = .ok (.if_icmp .ge 45, 3) := by decide +kernel
theorem d4_106 : decode prog_37_method_2_code 106 = .ok (.aload_n 0, 1) := by decide +kernel
theorem d4_107 : decode prog_37_method_2_code 107 = .ok (.aload_n 1, 1) := by decide +kernel
theorem d4_108 : decode prog_37_method_2_code 108 = .ok (.iload 4, 2) := by decide +kernel
theorem d4_110 : decode prog_37_method_2_code 110 = .ok (.iaload, 1) := by decide +kernel
theorem d4_111 : decode prog_37_method_2_code 111 = .ok (.aload_n 3, 1) := by decide +kernel
theorem d4_112 : decode prog_37_method_2_code 112 = .ok (.iload 4, 2) := by decide +kernel
theorem d4_114 : decode prog_37_method_2_code 114 = .ok (.iaload, 1) := by decide +kernel
theorem d4_115 : decode prog_37_method_2_code 115 = .ok (.bipush 64, 2) := by decide +kernel
theorem d4_117 : decode prog_37_method_2_code 117 = .ok (.idiv, 1) := by decide +kernel
theorem pd_8 : parseMethodDescriptor "(II)[J" = some ⟨[.int, .int], some (.array .long)⟩ := by decide +kernel
theorem d4_118 : decode prog_37_method_2_code 118 = .ok (.invokevirtual 41, 3) := by decide +kernel
theorem d4_121 : decode prog_37_method_2_code 121 = .ok (.astore 5, 2) := by decide +kernel
theorem d4_123 : decode prog_37_method_2_code 123 = .ok (.aload 5, 2) := by decide +kernel
theorem d4_125 : decode prog_37_method_2_code 125 = .ok (.aload_n 3, 1) := by decide +kernel
theorem d4_126 : decode prog_37_method_2_code 126 = .ok (.iload 4, 2) := by decide +kernel
theorem d4_128 : decode prog_37_method_2_code 128 = .ok (.iaload, 1) := by decide +kernel
theorem d4_129 : decode prog_37_method_2_code 129 = .ok (.bipush 64, 2) := by decide +kernel
theorem d4_131 : decode prog_37_method_2_code 131 = .ok (.idiv, 1) := by decide +kernel
theorem d4_132 : decode prog_37_method_2_code 132 = .ok (.dup2, 1) := by decide +kernel
theorem d4_133 : decode prog_37_method_2_code 133 = .ok (.laload, 1) := by decide +kernel
theorem d4_134 : decode prog_37_method_2_code 134 = .ok (.lconst 1, 1) := by decide +kernel
theorem d4_135 : decode prog_37_method_2_code 135 = .ok (.aload_n 3, 1) := by decide +kernel
theorem d4_136 : decode prog_37_method_2_code 136 = .ok (.iload 4, 2) := by decide +kernel
theorem d4_138 : decode prog_37_method_2_code 138 = .ok (.iaload, 1) := by decide +kernel
theorem d4_139 : decode prog_37_method_2_code 139 = .ok (.lshl, 1) := by decide +kernel
theorem d4_140 : decode prog_37_method_2_code 140 = .ok (.lor, 1) := by decide +kernel
theorem d4_141 : decode prog_37_method_2_code 141 = .ok (.lastore, 1) := by decide +kernel
theorem d4_142 : decode prog_37_method_2_code 142 = .ok (.iinc 4 1, 3) := by decide +kernel
theorem d4_145 : decode prog_37_method_2_code 145 = .ok (.goto (-46), 3) := by decide +kernel
theorem d4_148 : decode prog_37_method_2_code 148 = .ok (.aload_n 3, 1) := by decide +kernel
theorem d4_149 : decode prog_37_method_2_code 149 = .ok (.areturn, 1) := by decide +kernel
set_option maxRecDepth 65536 in
set_option maxHeartbeats 40000000 in
theorem rmT_A (l : Launch) (Z : State) (a0 : Array Value) (hw : ∀ d ∈ tables_1, d.before a0 Z = true) (ws : List Jvm.Cond) (a1 : Addr) (aH : Addr) (rA : Addr) (rB : Addr) (kH : ClassId) (kL : ClassId) (cn : Int32) (wd : Int32) (u : Int64) (vv : Int64) (ra : Addr) (kR : ClassId) (r : Int32) (wN : Addr) (h0 : Heap) (n0 : Nat) (O0 : Old Z n0 h0) (ge_rA : n0 ≤ rA) (ge_rB : n0 ≤ rB) (Ew : Exa Z h0 a1 "com/example/lumenplan/lumenplan/simulation/Wavelengths") (Fh : Fld Z h0 a1 "com/example/lumenplan/lumenplan/simulation/Wavelengths" "held" "[[J" (.ref aH)) (VH : Arv Z h0 aH kH (.array .long) (2 : Int32) [(.ref rA), (.ref rB)] .null) (VA : Arv Z h0 rA kL .long (1 : Int32) [(.long u)] (.long (0 : Int64))) (VB : Arv Z h0 rB kL .long (1 : Int32) [(.long vv)] (.long (0 : Int64))) (Fc : Fld Z h0 a1 "com/example/lumenplan/lumenplan/simulation/Wavelengths" "count" "I" (.int cn)) (Fw : Fld Z h0 a1 "com/example/lumenplan/lumenplan/simulation/Wavelengths" "words" "I" (.int wd)) (VR : Arv Z h0 ra kR .int (1 : Int32) [(.int (0 : Int32))] (.int (0 : Int32))) (SN : Sta Z Z.heap "com/example/lumenplan/lumenplan/simulation/Conversion" "NONE" "Lcom/example/lumenplan/lumenplan/simulation/Conversion;" (.ref wN)) (hN : NT u r) (hw0 : (0 : Int32) < wd) (hlt : r < cn) (ne_a1_rA : a1 ≠ rA) (ne_a1_rB : a1 ≠ rB) (ne_aH_rA : aH ≠ rA) (ne_aH_rB : aH ≠ rB) (ne_rA_rB : rA ≠ rB) (ne_ra_rA : ra ≠ rA) (ne_ra_rB : ra ≠ rB) :
    MetFree l (⟨"com/example/lumenplan/lumenplan/simulation/Wavelengths", "take", "([ILcom/example/lumenplan/lumenplan/simulation/Conversion;)[I"⟩ : MethodName) (head1 (Jvm.Cond.code (⟨"com/example/lumenplan/lumenplan/simulation/Wavelengths", "take", "([ILcom/example/lumenplan/lumenplan/simulation/Conversion;)[I"⟩ : MethodName) prog_37_method_2_code 8 (some (.array .int)) :: ws) ({ frames := 3, cells := 1, slots := 2, locals := 110 } : Room)) (fun a U => a = #[(.ref a1), (.ref ra), (.ref wN)] ∧ Z.Warmed39 U.vm ∧ U.heap = h0) (fun _ _ _ _ _ => True) (fun _ U o U' => ∃ v L, o = .returned v ∧ Q_rmT_A Z rA rB kL u vv r h0 n0 v U'.heap L ∧ FrameEnd U o U' L ({ frames := 3, cells := 1, slots := 2, locals := 110 } : Room).cells ({ frames := 3, cells := 1, slots := 2, locals := 110 } : Room).slots) := by
  refine MetFree.of_bodySF (plainFor_of_name pn_Wavelengths) hisR ?_
  intro p e s m args below meth c s₁ Bd hml0 hP hK
  obtain ⟨rfl, hZ, hh⟩ := hP
  have hx := Bd.exec
  have hby := Bd.bytes
  have hml : c.maxLocals = 8 := hml0
  have hown : s.vm.findClass "com/example/lumenplan/lumenplan/simulation/Wavelengths" = some m.cls := findClass_of_methodNamed Bd.named
  have hnm := (name_of_methodNamed Bd.named Bd.method).1
  have X0 : Stand p l e ({ frames := 3, cells := 1, slots := 2, locals := 110 } : Room) s m #[(.ref a1), (.ref ra), (.ref wN)] below meth c s₁ [] 0 0 := Stand.of_body Bd
  have e0 : s₁.heap = h0 := by rw [← hh, Bd.state]; rfl
  have N0 := Fr.nil n0
  obtain ⟨S0, hS0⟩ : ∃ z, z = s₁.setTop (entryFrame m #[(.ref a1), (.ref ra), (.ref wN)] 8) := ⟨_, rfl⟩
  have k0 : Rch p e below S0 s₁ (mkF m 0 #[vR a1, vR ra, vR wN, vU, vU, vU, vU, vU] []) := fun t kq => hS0 ▸ castTop (ef_4 m a1 ra wN) kq
  have K0 : Keep h0 h0 [rA, rB] := Keep.refl h0 _
  have k259 : Rch p e below S0 s₁ (mkF m 1 #[vR a1, vR ra, vR wN, vU, vU, vU, vU, vU] [(.ref ra)]) := fun t h => k0 t (by
      show Steps p.tables e below (s₁.setTop (mkF m 0 #[vR a1, vR ra, vR wN, vU, vU, vU, vU, vU] [])) _
      refine XS.aloadN X0.here hx rfl (hb hby d4_0) rfl rfl ?_
      exact h)
  obtain ⟨cl258, Ar258, q258, Sz258, Ng258, Hs258, G258⟩ := id VR
  have k261 : Rch p e below S0 s₁ (mkF m 2 #[vR a1, vR ra, vR wN, vU, vU, vU, vU, vU] [(.int (1 : Int32))]) := fun t h => k259 t (by
      show Steps p.tables e below (s₁.setTop (mkF m 1 #[vR a1, vR ra, vR wN, vU, vU, vU, vU, vU] [(.ref ra)])) _
      refine X0.arraylength hx (by rw [e0]; exact Ar258.1) (State.isArrayOf_alike hZ.alike Ar258.2.1) (g := (mkF m 1 #[vR a1, vR ra, vR wN, vU, vU, vU, vU, vU] [(.ref ra)])) rfl rfl (hb hby d4_1) _ ?_
      rw [len_of Sz258 Ng258]
      exact h)
  obtain ⟨T260, h260, k260, X260, e260, E260, A260, st260⟩ := newP X0 hx hZ (hw _ (gm 4 rfl)) e0 (g := (mkF m 2 #[vR a1, vR ra, vR wN, vU, vU, vU, vU, vU] [(.int (1 : Int32))])) rfl (hb hby d4_2) rfl (by decide) (cap := 1) (by decide) (by decide) (by decide) (by decide)
  obtain ⟨b260, g260⟩ : ∃ z, z = h0.size := ⟨_, rfl⟩
  rw [← g260] at A260 st260
  have k262 : Rch p e below S0 T260 (mkF m 4 #[vR a1, vR ra, vR wN, vU, vU, vU, vU, vU] [(.ref b260)]) := fun t h => k261 t (st260 t h)
  have ne_a1_b260 : a1 ≠ b260 := own_ne Ew.lt (Nat.le_of_eq g260.symm)
  have ne_aH_b260 : aH ≠ b260 := own_ne VH.lt (Nat.le_of_eq g260.symm)
  have ne_rA_b260 : rA ≠ b260 := own_ne VA.lt (Nat.le_of_eq g260.symm)
  have ne_rB_b260 : rB ≠ b260 := own_ne VB.lt (Nat.le_of_eq g260.symm)
  have ne_ra_b260 : ra ≠ b260 := own_ne VR.lt (Nat.le_of_eq g260.symm)
  have ge_b260 : n0 ≤ b260 := own_ge O0 (Nat.le_of_eq g260.symm)
  have sz_b260 : h0.size ≤ b260 := Nat.le_trans K0.1 (Nat.le_of_eq g260.symm)
  have O263 := O0.ext E260
  have K264 := K0.ext E260
  replace Ew := Ew.ext E260
  replace Fh := Fh.ext E260
  replace Fc := Fc.ext E260
  replace Fw := Fw.ext E260
  replace VH := VH.ext E260
  replace VA := VA.ext E260
  replace VB := VB.ext E260
  replace VR := VR.ext E260
  have V_b260 : Arv Z h260 b260 k260 .int (1 : Int32) [(.int (0 : Int32))] (.int (0 : Int32)) := (Arv.new A260 (by decide)).pad (pad_rep [] (.int (0 : Int32)) 1)
  have k266 : Rch p e below S0 T260 (mkF m 6 #[vR a1, vR ra, vR wN, vR b260, vU, vU, vU, vU] [(.ref wN)]) := fun t h => k262 t (by
      show Steps p.tables e below (T260.setTop (mkF m 4 #[vR a1, vR ra, vR wN, vU, vU, vU, vU, vU] [(.ref b260)])) _
      refine XS.astoreN X260.here hx rfl (hb hby d4_4) rfl rfl (l' := #[vR a1, vR ra, vR wN, vR b260, vU, vU, vU, vU]) rfl ?_
      refine XS.aloadN X260.here hx rfl (hb hby d4_5) rfl rfl ?_
      exact h)
  obtain ⟨T265, X265, e265, st265⟩ := getS2 X260 hx hZ hown (host := "") (Or.inl (hw _ (gm 32 rfl))) Via.refl e260 (SN.ext O263.2) (g := (mkF m 6 #[vR a1, vR ra, vR wN, vR b260, vU, vU, vU, vU] [(.ref wN)])) rfl (hb hby d4_6)
  have k267 : Rch p e below S0 T265 (mkF m 9 #[vR a1, vR ra, vR wN, vR b260, vU, vU, vU, vU] [(.ref wN), (.ref wN)]) := fun t h => k266 t (st265 t h)
  have k269 : Rch p e below S0 T265 (mkF m 17 #[vR a1, vR ra, vR wN, vR b260, vU, vU, vU, vU] [(.ref ra), (.int (0 : Int32)), (.ref ra), (.ref a1), (.ref b260)]) := fun t h => k267 t (by
      show Steps p.tables e below (T265.setTop (mkF m 9 #[vR a1, vR ra, vR wN, vR b260, vU, vU, vU, vU] [(.ref wN), (.ref wN)])) _
      refine Jvm.RoadKit.acmp (g := (mkF m 9 #[vR a1, vR ra, vR wN, vR b260, vU, vU, vU, vU] [(.ref wN), (.ref wN)])) X265 hx rfl rfl rfl (pc0 := 9) (pc' := 12) (same := true) rfl (hb hby d4_9) rfl (decide_eq_true rfl) (by decide) (by decide) ?_
      refine XS.aloadN X265.here hx rfl (hb hby d4_12) rfl rfl ?_
      refine XS.aloadN X265.here hx rfl (hb hby d4_13) rfl rfl ?_
      refine XS.aloadN X265.here hx rfl (hb hby d4_14) rfl rfl ?_
      refine XS.iconst X265.here hx rfl (hb hby d4_15) ?_
      refine XS.aloadN X265.here hx rfl (hb hby d4_16) rfl rfl ?_
      exact h)
  obtain ⟨cl268, Ar268, q268, Sz268, Ng268, Hs268, G268⟩ := id VR
  have k270 : Rch p e below S0 T265 (mkF m 18 #[vR a1, vR ra, vR wN, vR b260, vU, vU, vU, vU] [(.int (1 : Int32)), (.int (0 : Int32)), (.ref ra), (.ref a1), (.ref b260)]) := fun t h => k269 t (by
      show Steps p.tables e below (T265.setTop (mkF m 17 #[vR a1, vR ra, vR wN, vR b260, vU, vU, vU, vU] [(.ref ra), (.int (0 : Int32)), (.ref ra), (.ref a1), (.ref b260)])) _
      refine X265.arraylength hx (by rw [e265]; exact Ar268.1) (State.isArrayOf_alike hZ.alike Ar268.2.1) (g := (mkF m 17 #[vR a1, vR ra, vR wN, vR b260, vU, vU, vU, vU] [(.ref ra), (.int (0 : Int32)), (.ref ra), (.ref a1), (.ref b260)])) rfl rfl (hb hby d4_17) _ ?_
      rw [len_of Sz268 Ng268]
      exact h)
  obtain ⟨cq271, q271, q271'⟩ := Ew.cell
  obtain ⟨_, _, ⟨T271, L271, kk271, n271⟩, -, X271, ⟨Lc271, hQ271, l271, y271, z271⟩, st271⟩ := X265.privateBack hx (y := (⟨"com/example/lumenplan/lumenplan/simulation/Wavelengths", "lowestFree", "([III)I"⟩ : MethodName)) hown (mvT hZ (hw _ (gm 33 rfl))) (mvT hZ (hw _ (gm 34 rfl))) (mvT hZ (own_selects (hw _ (gm 6 rfl)) (hw _ (gm 34 rfl)) (hw _ (gm 35 rfl)) (by decide))) (Cond.privateMethod_at (mvP hZ (hw _ (gm 35 rfl)) (args := #[]))) (mvT hZ (hw _ (gm 36 rfl))) (by decide) (backOf (W := 1) (rmF_A1 l Z a0 hw []  a1 aH rA rB kH kL cn wd u vv ra kR r r h260 n0 O263 Fh VH VA VB Fc Fw VR hN hw0 (Or.inl ⟨hlt, rfl⟩)) hZ (hw _ (gm 36 rfl)) (hw _ (gm 7 rfl)) (by decide) (by decide)) (g := (mkF m 18 #[vR a1, vR ra, vR wN, vR b260, vU, vU, vU, vU] [(.int (1 : Int32)), (.int (0 : Int32)), (.ref ra), (.ref a1), (.ref b260)])) rfl (by rw [hml]; rfl) (Steps.refl _) (a := a1) (by rw [e265]; exact q271) q271' (argsL := [(.ref ra), (.int (0 : Int32)), (.int (1 : Int32))]) (rest := [(.ref b260)]) (lenOf pd_4 rfl) rfl (by show 2 * 0 + _ ≤ _; exact Nat.le_of_eq rfl) (hb hby d4_18) (fun _ _ => ⟨rfl, e265, (by decide : 1 + 0 ≤ _), (by decide : 1 + 0 ≤ _)⟩)
  dsimp only [Pt.U, Pt.locs, Pt.cells, Pt.slots] at X271 l271 y271 z271 st271 hQ271
  subst l271 y271 z271
  obtain ⟨rfl, Nq271, hh271⟩ := hQ271
  have N271 := Fr.app N0 Nq271
  have k272 : Rch p e below S0 T271 (mkF m 21 #[vR a1, vR ra, vR wN, vR b260, vU, vU, vU, vU] [(.int r), (.ref b260)]) := fun t h => k270 t (st271.trans h)
  obtain ⟨_, _, ⟨T273, L273, kk273, n273⟩, -, X273, ⟨Lc273, hQ273, l273, y273, z273⟩, st273⟩ := Jvm.LawKit.callS X271 hx (y := (⟨"java/util/Arrays", "fill", "([II)V"⟩ : MethodName)) hown (mvT hZ (hw _ (gm 46 rfl))) (mvT hZ (hw _ (gm 47 rfl))) (mvT hZ (hw _ (gm 48 rfl))) (mvT hZ (hw _ (gm 49 rfl))) (by decide) (backOf (W := 0) (rmAF1 l Z a0 hw [] b260 r k260 h260 n0 O263 ge_b260 V_b260) hZ (hw _ (gm 49 rfl)) (hw _ (gm 48 rfl)) (by decide) (by decide)) (g := (mkF m 21 #[vR a1, vR ra, vR wN, vR b260, vU, vU, vU, vU] [(.int r), (.ref b260)])) rfl (by rw [hml]; rfl) (argsL := [(.ref b260), (.int r)]) (rest := []) (lenOf pd_7 rfl) rfl (by show 2 * 0 + _ ≤ _; exact Nat.le_of_eq rfl) (hb hby d4_21) (fun _ _ => ⟨rfl, hh271, (by decide : 1 + 0 ≤ _), (by decide : 1 + 0 ≤ _)⟩)
  dsimp only [Pt.U, Pt.locs, Pt.cells, Pt.slots] at X273 l273 y273 z273 st273 hQ273
  subst l273 y273 z273
  obtain ⟨rfl, Nq273, K273, VX273⟩ := hQ273
  have N273 := Fr.app N271 Nq273
  have k274 : Rch p e below S0 T273 (mkF m 24 #[vR a1, vR ra, vR wN, vR b260, vU, vU, vU, vU] []) := fun t h => k272 t (st273 t h)
  have O275 := O263.keep K273 (allS ge_b260 all0)
  have K276 := K264.trans K273 (allS (Or.inr sz_b260) all0)
  replace Ew := Ew.keep K273
  replace Fh := Fh.keep K273 (ninS ne_a1_b260 nin0)
  replace Fc := Fc.keep K273 (ninS ne_a1_b260 nin0)
  replace Fw := Fw.keep K273 (ninS ne_a1_b260 nin0)
  replace VH := VH.keep K273 (ninS ne_aH_b260 nin0)
  replace VA := VA.keep K273 (ninS ne_rA_b260 nin0)
  replace VB := VB.keep K273 (ninS ne_rB_b260 nin0)
  replace VR := VR.keep K273 (ninS ne_ra_b260 nin0)
  have k278 : Rch p e below S0 T273 (mkF m 63 #[vR a1, vR ra, vR wN, vR b260, vR b260, vU, vU, vU] [(.ref b260)]) := fun t h => k274 t (by
      show Steps p.tables e below (T273.setTop (mkF m 24 #[vR a1, vR ra, vR wN, vR b260, vU, vU, vU, vU] [])) _
      refine XS.goto X273.here hx rfl (pc0 := 24) (pc' := 58) rfl (hb hby d4_24) (by decide) (by decide) ?_
      refine XS.aloadN X273.here hx rfl (hb hby d4_58) rfl rfl ?_
      refine XS.astore X273.here hx rfl (hb hby d4_59) rfl rfl (l' := #[vR a1, vR ra, vR wN, vR b260, vR b260, vU, vU, vU]) rfl ?_
      refine XS.aload X273.here hx rfl (hb hby d4_61) rfl rfl ?_
      exact h)
  obtain ⟨cl277, Ar277, q277, Sz277, Ng277, Hs277, G277⟩ := id VX273
  have k280 : Rch p e below S0 T273 (mkF m 80 #[vR a1, vR ra, vR wN, vR b260, vR b260, vI 1, vI 0, vU] [(.int (0 : Int32)), (.ref b260)]) := fun t h => k278 t (by
      show Steps p.tables e below (T273.setTop (mkF m 63 #[vR a1, vR ra, vR wN, vR b260, vR b260, vU, vU, vU] [(.ref b260)])) _
      refine X273.arraylength hx (by exact Ar277.1) (State.isArrayOf_alike hZ.alike Ar277.2.1) (g := (mkF m 63 #[vR a1, vR ra, vR wN, vR b260, vR b260, vU, vU, vU] [(.ref b260)])) rfl rfl (hb hby d4_63) _ ?_
      rw [len_of Sz277 Ng277]
      refine XS.istore X273.here hx rfl (hb hby d4_64) rfl (l' := #[vR a1, vR ra, vR wN, vR b260, vR b260, vI 1, vU, vU]) rfl ?_
      refine XS.iconst X273.here hx rfl (hb hby d4_66) ?_
      refine XS.istore X273.here hx rfl (hb hby d4_67) rfl (l' := #[vR a1, vR ra, vR wN, vR b260, vR b260, vI 1, vI 0, vU]) rfl ?_
      refine XS.iload X273.here hx rfl (hb hby d4_69) rfl ?_
      refine XS.iload X273.here hx rfl (hb hby d4_71) rfl ?_
      refine XS.icmpNo X273.here hx rfl (hb hby d4_73) rfl (tlt (by decide : (0 : Int32) < (1 : Int32))).2.1 ?_
      refine XS.aload X273.here hx rfl (hb hby d4_76) rfl rfl ?_
      refine XS.iload X273.here hx rfl (hb hby d4_78) rfl ?_
      exact h)
  obtain ⟨cl279, Ar279, q279, Sz279, Ng279, Hs279, G279⟩ := id VX273
  have hin279 : ¬ ((0 : Int32) < 0 ∨ cl279.slots.size ≤ ((0 : Int32)).toNatClampNeg) := inb_of Sz279 ⟨by decide, by decide⟩
  have hat279 : cl279.slots[((0 : Int32)).toNatClampNeg]? = some (.int r) := Hs279.at hin279 (rfl)
  have k282 : Rch p e below S0 T273 (mkF m 102 #[vR a1, vR ra, vR wN, vR b260, vI 0, vI 1, vI 1, vI r] [(.ref ra), (.int (0 : Int32))]) := fun t h => k280 t (by
      show Steps p.tables e below (T273.setTop (mkF m 80 #[vR a1, vR ra, vR wN, vR b260, vR b260, vI 1, vI 0, vU] [(.int (0 : Int32)), (.ref b260)])) _
      refine X273.iaload hx (j := (0 : Int32)) (v := (.int r)) (by exact Ar279.1) (State.isArrayOf_alike hZ.alike Ar279.2.1) Ar279.2.2 hin279 hat279 (g := (mkF m 80 #[vR a1, vR ra, vR wN, vR b260, vR b260, vI 1, vI 0, vU] [(.int (0 : Int32)), (.ref b260)])) rfl rfl (hb hby d4_80) _ ?_
      refine XS.istore X273.here hx rfl (hb hby d4_81) rfl (l' := #[vR a1, vR ra, vR wN, vR b260, vR b260, vI 1, vI 0, vI r]) rfl ?_
      refine XS.iload X273.here hx rfl (hb hby d4_83) rfl ?_
      refine XS.ifYes X273.here hx rfl (pc0 := 85) (pc' := 90) rfl (hb hby d4_85) rfl ((if0 _ _).trans (flt ((own_nn hN) : ¬ (r < (0 : Int32)))).2.1) (by decide) (by decide) ?_
      show Steps p.tables e below (T273.setTop (mkF m 90 #[vR a1, vR ra, vR wN, vR b260, vR b260, vI 1, vI 0, vI r] [])) _
      refine XS.iinc X273.here hx rfl (hb hby d4_90) rfl (l' := #[vR a1, vR ra, vR wN, vR b260, vR b260, vI 1, vI ((0 : Int32) + (1 : Int32)), vI r]) rfl ?_
      rw [(by decide : ((0 : Int32) + (1 : Int32)) = (1 : Int32))]
      refine XS.goto X273.here hx rfl (pc0 := 93) (pc' := 69) rfl (hb hby d4_93) (by decide) (by decide) ?_
      refine XS.iload X273.here hx rfl (hb hby d4_69) rfl ?_
      refine XS.iload X273.here hx rfl (hb hby d4_71) rfl ?_
      refine XS.icmpYes X273.here hx rfl (pc0 := 73) (pc' := 96) rfl (hb hby d4_73) rfl (flt (by decide : ¬ ((1 : Int32) < (1 : Int32)))).2.1 (by decide) (by decide) ?_
      refine XS.iconst X273.here hx rfl (hb hby d4_96) ?_
      refine XS.istore X273.here hx rfl (hb hby d4_97) rfl (l' := #[vR a1, vR ra, vR wN, vR b260, vI 0, vI 1, vI 1, vI r]) rfl ?_
      refine XS.iload X273.here hx rfl (hb hby d4_99) rfl ?_
      refine XS.aloadN X273.here hx rfl (hb hby d4_101) rfl rfl ?_
      exact h)
  obtain ⟨cl281, Ar281, q281, Sz281, Ng281, Hs281, G281⟩ := id VR
  have k284 : Rch p e below S0 T273 (mkF m 110 #[vR a1, vR ra, vR wN, vR b260, vI 0, vI 1, vI 1, vI r] [(.int (0 : Int32)), (.ref ra), (.ref a1)]) := fun t h => k282 t (by
      show Steps p.tables e below (T273.setTop (mkF m 102 #[vR a1, vR ra, vR wN, vR b260, vI 0, vI 1, vI 1, vI r] [(.ref ra), (.int (0 : Int32))])) _
      refine X273.arraylength hx (by exact Ar281.1) (State.isArrayOf_alike hZ.alike Ar281.2.1) (g := (mkF m 102 #[vR a1, vR ra, vR wN, vR b260, vI 0, vI 1, vI 1, vI r] [(.ref ra), (.int (0 : Int32))])) rfl rfl (hb hby d4_102) _ ?_
      rw [len_of Sz281 Ng281]
      refine XS.icmpNo X273.here hx rfl (hb hby d4_103) rfl (tlt (by decide : (0 : Int32) < (1 : Int32))).2.1 ?_
      refine XS.aloadN X273.here hx rfl (hb hby d4_106) rfl rfl ?_
      refine XS.aloadN X273.here hx rfl (hb hby d4_107) rfl rfl ?_
      refine XS.iload X273.here hx rfl (hb hby d4_108) rfl ?_
      exact h)
  obtain ⟨cl283, Ar283, q283, Sz283, Ng283, Hs283, G283⟩ := id VR
  have hin283 : ¬ ((0 : Int32) < 0 ∨ cl283.slots.size ≤ ((0 : Int32)).toNatClampNeg) := inb_of Sz283 ⟨by decide, by decide⟩
  have hat283 : cl283.slots[((0 : Int32)).toNatClampNeg]? = some (.int (0 : Int32)) := Hs283.at hin283 (rfl)
  have k286 : Rch p e below S0 T273 (mkF m 114 #[vR a1, vR ra, vR wN, vR b260, vI 0, vI 1, vI 1, vI r] [(.int (0 : Int32)), (.ref b260), (.int (0 : Int32)), (.ref a1)]) := fun t h => k284 t (by
      show Steps p.tables e below (T273.setTop (mkF m 110 #[vR a1, vR ra, vR wN, vR b260, vI 0, vI 1, vI 1, vI r] [(.int (0 : Int32)), (.ref ra), (.ref a1)])) _
      refine X273.iaload hx (j := (0 : Int32)) (v := (.int (0 : Int32))) (by exact Ar283.1) (State.isArrayOf_alike hZ.alike Ar283.2.1) Ar283.2.2 hin283 hat283 (g := (mkF m 110 #[vR a1, vR ra, vR wN, vR b260, vI 0, vI 1, vI 1, vI r] [(.int (0 : Int32)), (.ref ra), (.ref a1)])) rfl rfl (hb hby d4_110) _ ?_
      refine XS.aloadN X273.here hx rfl (hb hby d4_111) rfl rfl ?_
      refine XS.iload X273.here hx rfl (hb hby d4_112) rfl ?_
      exact h)
  obtain ⟨cl285, Ar285, q285, Sz285, Ng285, Hs285, G285⟩ := id VX273
  have hin285 : ¬ ((0 : Int32) < 0 ∨ cl285.slots.size ≤ ((0 : Int32)).toNatClampNeg) := inb_of Sz285 ⟨by decide, by decide⟩
  have hat285 : cl285.slots[((0 : Int32)).toNatClampNeg]? = some (.int r) := Hs285.at hin285 (rfl)
  have k287 : Rch p e below S0 T273 (mkF m 118 #[vR a1, vR ra, vR wN, vR b260, vI 0, vI 1, vI 1, vI r] [(.int (0 : Int32)), (.int (0 : Int32)), (.ref a1)]) := fun t h => k286 t (by
      show Steps p.tables e below (T273.setTop (mkF m 114 #[vR a1, vR ra, vR wN, vR b260, vI 0, vI 1, vI 1, vI r] [(.int (0 : Int32)), (.ref b260), (.int (0 : Int32)), (.ref a1)])) _
      refine X273.iaload hx (j := (0 : Int32)) (v := (.int r)) (by exact Ar285.1) (State.isArrayOf_alike hZ.alike Ar285.2.1) Ar285.2.2 hin285 hat285 (g := (mkF m 114 #[vR a1, vR ra, vR wN, vR b260, vI 0, vI 1, vI 1, vI r] [(.int (0 : Int32)), (.ref b260), (.int (0 : Int32)), (.ref a1)])) rfl rfl (hb hby d4_114) _ ?_
      refine XS.bipush X273.here hx rfl (hb hby d4_115) ?_
      show Steps p.tables e below (T273.setTop (mkF m 117 #[vR a1, vR ra, vR wN, vR b260, vI 0, vI 1, vI 1, vI r] [(.int (64 : Int32)), (.int r), (.int (0 : Int32)), (.ref a1)])) _
      refine XS.idiv X273.here hx rfl (hb hby d4_117) rfl (by decide) ?_
      rw [own_d64 hN]
      exact h)
  obtain ⟨cq288, q288, q288'⟩ := Ew.cell
  obtain ⟨_, _, ⟨T288, L288, kk288, n288⟩, -, X288, ⟨Lc288, hQ288, l288, y288, z288⟩, st288⟩ := X273.privateBack hx (y := (⟨"com/example/lumenplan/lumenplan/simulation/Wavelengths", "reaching", "(II)[J"⟩ : MethodName)) hown (mvT hZ (hw _ (gm 50 rfl))) (mvT hZ (hw _ (gm 51 rfl))) (mvT hZ (own_selects (hw _ (gm 6 rfl)) (hw _ (gm 51 rfl)) (hw _ (gm 52 rfl)) (by decide))) (Cond.privateMethod_at (mvP hZ (hw _ (gm 52 rfl)) (args := #[]))) (mvT hZ (hw _ (gm 53 rfl))) (by decide) (backOf (W := 0) (rmR_A l Z a0 hw []  a1 aH rA rB kH kL cn wd u vv T273.heap n0 O275 Fh VH VA VB) hZ (hw _ (gm 53 rfl)) (hw _ (gm 7 rfl)) (by decide) (by decide)) (g := (mkF m 118 #[vR a1, vR ra, vR wN, vR b260, vI 0, vI 1, vI 1, vI r] [(.int (0 : Int32)), (.int (0 : Int32)), (.ref a1)])) rfl (by rw [hml]; rfl) (Steps.refl _) (a := a1) (by exact q288) q288' (argsL := [(.int (0 : Int32)), (.int (0 : Int32))]) (rest := []) (lenOf pd_8 rfl) rfl (by show 2 * 0 + _ ≤ _; exact Nat.le_of_eq rfl) (hb hby d4_118) (fun _ _ => ⟨rfl, rfl, (by decide : 1 + 0 ≤ _), (by decide : 1 + 0 ≤ _)⟩)
  dsimp only [Pt.U, Pt.locs, Pt.cells, Pt.slots] at X288 l288 y288 z288 st288 hQ288
  subst l288 y288 z288
  obtain ⟨rfl, Nq288, hh288⟩ := hQ288
  have N288 := Fr.app N273 Nq288
  have k289 : Rch p e below S0 T288 (mkF m 121 #[vR a1, vR ra, vR wN, vR b260, vI 0, vI 1, vI 1, vI r] [(.ref rA)]) := fun t h => k287 t (st288.trans h)
  have k291 : Rch p e below S0 T288 (mkF m 128 #[vR a1, vR ra, vR wN, vR b260, vI 0, vR rA, vI 1, vI r] [(.int (0 : Int32)), (.ref b260), (.ref rA)]) := fun t h => k289 t (by
      show Steps p.tables e below (T288.setTop (mkF m 121 #[vR a1, vR ra, vR wN, vR b260, vI 0, vI 1, vI 1, vI r] [(.ref rA)])) _
      refine XS.astore X288.here hx rfl (hb hby d4_121) rfl rfl (l' := #[vR a1, vR ra, vR wN, vR b260, vI 0, vR rA, vI 1, vI r]) rfl ?_
      refine XS.aload X288.here hx rfl (hb hby d4_123) rfl rfl ?_
      refine XS.aloadN X288.here hx rfl (hb hby d4_125) rfl rfl ?_
      refine XS.iload X288.here hx rfl (hb hby d4_126) rfl ?_
      exact h)
  obtain ⟨cl290, Ar290, q290, Sz290, Ng290, Hs290, G290⟩ := id VX273
  have hin290 : ¬ ((0 : Int32) < 0 ∨ cl290.slots.size ≤ ((0 : Int32)).toNatClampNeg) := inb_of Sz290 ⟨by decide, by decide⟩
  have hat290 : cl290.slots[((0 : Int32)).toNatClampNeg]? = some (.int r) := Hs290.at hin290 (rfl)
  have k293 : Rch p e below S0 T288 (mkF m 133 #[vR a1, vR ra, vR wN, vR b260, vI 0, vR rA, vI 1, vI r] [(.int (0 : Int32)), (.ref rA), (.int (0 : Int32)), (.ref rA)]) := fun t h => k291 t (by
      show Steps p.tables e below (T288.setTop (mkF m 128 #[vR a1, vR ra, vR wN, vR b260, vI 0, vR rA, vI 1, vI r] [(.int (0 : Int32)), (.ref b260), (.ref rA)])) _
      refine X288.iaload hx (j := (0 : Int32)) (v := (.int r)) (by rw [hh288]; exact Ar290.1) (State.isArrayOf_alike hZ.alike Ar290.2.1) Ar290.2.2 hin290 hat290 (g := (mkF m 128 #[vR a1, vR ra, vR wN, vR b260, vI 0, vR rA, vI 1, vI r] [(.int (0 : Int32)), (.ref b260), (.ref rA)])) rfl rfl (hb hby d4_128) _ ?_
      refine XS.bipush X288.here hx rfl (hb hby d4_129) ?_
      show Steps p.tables e below (T288.setTop (mkF m 131 #[vR a1, vR ra, vR wN, vR b260, vI 0, vR rA, vI 1, vI r] [(.int (64 : Int32)), (.int r), (.ref rA)])) _
      refine XS.idiv X288.here hx rfl (hb hby d4_131) rfl (by decide) ?_
      rw [own_d64 hN]
      refine XT.dup2 X288.here hx rfl (hb hby d4_132) rfl rfl rfl ?_
      exact h)
  obtain ⟨cl292, Ar292, q292, Sz292, Ng292, Hs292, G292⟩ := id VA
  have hin292 : ¬ ((0 : Int32) < 0 ∨ cl292.slots.size ≤ ((0 : Int32)).toNatClampNeg) := inb_of Sz292 ⟨by decide, by decide⟩
  have hat292 : cl292.slots[((0 : Int32)).toNatClampNeg]? = some (.long u) := Hs292.at hin292 (rfl)
  have k295 : Rch p e below S0 T288 (mkF m 138 #[vR a1, vR ra, vR wN, vR b260, vI 0, vR rA, vI 1, vI r] [(.int (0 : Int32)), (.ref b260), (.long (1 : Int64)), (.long u), (.int (0 : Int32)), (.ref rA)]) := fun t h => k293 t (by
      show Steps p.tables e below (T288.setTop (mkF m 133 #[vR a1, vR ra, vR wN, vR b260, vI 0, vR rA, vI 1, vI r] [(.int (0 : Int32)), (.ref rA), (.int (0 : Int32)), (.ref rA)])) _
      refine X288.laload hx (j := (0 : Int32)) (v := (.long u)) (by rw [hh288]; exact Ar292.1) (State.isArrayOf_alike hZ.alike Ar292.2.1) Ar292.2.2 hin292 hat292 (g := (mkF m 133 #[vR a1, vR ra, vR wN, vR b260, vI 0, vR rA, vI 1, vI r] [(.int (0 : Int32)), (.ref rA), (.int (0 : Int32)), (.ref rA)])) rfl rfl (hb hby d4_133) _ ?_
      refine XS.lconst X288.here hx rfl (hb hby d4_134) ?_
      refine XS.aloadN X288.here hx rfl (hb hby d4_135) rfl rfl ?_
      refine XS.iload X288.here hx rfl (hb hby d4_136) rfl ?_
      show Steps p.tables e below (T288.setTop (mkF m 138 #[vR a1, vR ra, vR wN, vR b260, vI 0, vR rA, vI 1, vI r] [(.int (0 : Int32)), (.ref b260), (.long (1 : Int64)), (.long u), (.int (0 : Int32)), (.ref rA)])) _
      exact h)
  obtain ⟨cl294, Ar294, q294, Sz294, Ng294, Hs294, G294⟩ := id VX273
  have hin294 : ¬ ((0 : Int32) < 0 ∨ cl294.slots.size ≤ ((0 : Int32)).toNatClampNeg) := inb_of Sz294 ⟨by decide, by decide⟩
  have hat294 : cl294.slots[((0 : Int32)).toNatClampNeg]? = some (.int r) := Hs294.at hin294 (rfl)
  have k297 : Rch p e below S0 T288 (mkF m 141 #[vR a1, vR ra, vR wN, vR b260, vI 0, vR rA, vI 1, vI r] [(.long (u ||| ((1 : Int64) <<< (r &&& 0x3f).toInt64))), (.int (0 : Int32)), (.ref rA)]) := fun t h => k295 t (by
      show Steps p.tables e below (T288.setTop (mkF m 138 #[vR a1, vR ra, vR wN, vR b260, vI 0, vR rA, vI 1, vI r] [(.int (0 : Int32)), (.ref b260), (.long (1 : Int64)), (.long u), (.int (0 : Int32)), (.ref rA)])) _
      refine X288.iaload hx (j := (0 : Int32)) (v := (.int r)) (by rw [hh288]; exact Ar294.1) (State.isArrayOf_alike hZ.alike Ar294.2.1) Ar294.2.2 hin294 hat294 (g := (mkF m 138 #[vR a1, vR ra, vR wN, vR b260, vI 0, vR rA, vI 1, vI r] [(.int (0 : Int32)), (.ref b260), (.long (1 : Int64)), (.long u), (.int (0 : Int32)), (.ref rA)])) rfl rfl (hb hby d4_138) _ ?_
      refine XS.lshl X288.here hx rfl (hb hby d4_139) rfl ?_
      refine XS.lor X288.here hx rfl (hb hby d4_140) rfl ?_
      exact h)
  obtain ⟨cl296, Ar296, q296, Sz296, Ng296, Hs296, G296⟩ := id VA
  have hin296 : ¬ ((0 : Int32) < 0 ∨ cl296.slots.size ≤ ((0 : Int32)).toNatClampNeg) := inb_of Sz296 ⟨by decide, by decide⟩
  obtain ⟨T296, h296, X296, e296, W296, st296⟩ := stJ X288 hx hZ hh288 Ar296 (j := (0 : Int32)) hin296 (g := (mkF m 141 #[vR a1, vR ra, vR wN, vR b260, vI 0, vR rA, vI 1, vI r] [(.long (u ||| ((1 : Int64) <<< (r &&& 0x3f).toInt64))), (.int (0 : Int32)), (.ref rA)])) rfl rfl (hb hby d4_141)
  have k298 : Rch p e below S0 T296 (mkF m 142 #[vR a1, vR ra, vR wN, vR b260, vI 0, vR rA, vI 1, vI r] []) := fun t h => k297 t (st296 t h)
  have N296 := Fr.snoc X296 N288 ge_rA
  have VA' := Arv.set Ar296 q296 Sz296 Ng296 Hs296 G296 rfl W296 0 rfl (Nat.le_of_ble_eq_true rfl)
  replace VA : Arv Z h296 rA kL .long (1 : Int32) [(.long (u ||| ((1 : Int64) <<< (r &&& 0x3f).toInt64)))] (.long (0 : Int64)) := VA'
  have O299 := O275.wr W296 ge_rA
  have K300 := K276.wr W296 (Or.inl (gm 0 rfl))
  replace Ew := Ew.wr W296
  replace Fh := Fh.other W296 (Or.inl ne_a1_rA)
  replace Fc := Fc.other W296 (Or.inl ne_a1_rA)
  replace Fw := Fw.other W296 (Or.inl ne_a1_rA)
  replace VH := VH.other W296 ne_aH_rA
  replace VB := VB.other W296 (Ne.symm ne_rA_rB)
  replace VR := VR.other W296 ne_ra_rA
  replace VX273 := VX273.other W296 (Ne.symm ne_rA_b260)
  have k302 : Rch p e below S0 T296 (mkF m 102 #[vR a1, vR ra, vR wN, vR b260, vI 1, vR rA, vI 1, vI r] [(.ref ra), (.int (1 : Int32))]) := fun t h => k298 t (by
      show Steps p.tables e below (T296.setTop (mkF m 142 #[vR a1, vR ra, vR wN, vR b260, vI 0, vR rA, vI 1, vI r] [])) _
      refine XS.iinc X296.here hx rfl (hb hby d4_142) rfl (l' := #[vR a1, vR ra, vR wN, vR b260, vI ((0 : Int32) + (1 : Int32)), vR rA, vI 1, vI r]) rfl ?_
      rw [(by decide : ((0 : Int32) + (1 : Int32)) = (1 : Int32))]
      refine XS.goto X296.here hx rfl (pc0 := 145) (pc' := 99) rfl (hb hby d4_145) (by decide) (by decide) ?_
      refine XS.iload X296.here hx rfl (hb hby d4_99) rfl ?_
      refine XS.aloadN X296.here hx rfl (hb hby d4_101) rfl rfl ?_
      exact h)
  obtain ⟨cl301, Ar301, q301, Sz301, Ng301, Hs301, G301⟩ := id VR
  have k303 : Rch p e below S0 T296 (mkF m 149 #[vR a1, vR ra, vR wN, vR b260, vI 1, vR rA, vI 1, vI r] [(.ref b260)]) := fun t h => k302 t (by
      show Steps p.tables e below (T296.setTop (mkF m 102 #[vR a1, vR ra, vR wN, vR b260, vI 1, vR rA, vI 1, vI r] [(.ref ra), (.int (1 : Int32))])) _
      refine X296.arraylength hx (by rw [e296]; exact Ar301.1) (State.isArrayOf_alike hZ.alike Ar301.2.1) (g := (mkF m 102 #[vR a1, vR ra, vR wN, vR b260, vI 1, vR rA, vI 1, vI r] [(.ref ra), (.int (1 : Int32))])) rfl rfl (hb hby d4_102) _ ?_
      rw [len_of Sz301 Ng301]
      refine XS.icmpYes X296.here hx rfl (pc0 := 103) (pc' := 148) rfl (hb hby d4_103) rfl (flt (by decide : ¬ ((1 : Int32) < (1 : Int32)))).2.1 (by decide) (by decide) ?_
      refine XS.aloadN X296.here hx rfl (hb hby d4_148) rfl rfl ?_
      exact h)
  obtain ⟨fs, hr, hrun, hended, hW, hsame⟩ := X296.leave (v := (some (.ref b260))) (fun h => by rw [Bd.returns] at h; cases h)
  refine ⟨_, _, ?_, hrun, hended, _, _, rfl, ?_, ⟨_, rfl⟩, hW, hsame.mono (by decide) (by decide)⟩
  · rw [← hS0]
    refine k303 _ ?_
    show Steps p.tables e below (T296.setTop (mkF m 149 #[vR a1, vR ra, vR wN, vR b260, vI 1, vR rA, vI 1, vI r] [(.ref b260)])) _
    jvm_step X296.here [X296.here.top, hx, (hb hby d4_149), X296.method', Bd.returns, Value.isRef, FieldType.isReference]
    first | (intro acts; rw [hr _ acts rfl rfl rfl]) | rw [hr _ _ rfl rfl rfl]
    exact Steps.refl _
  · show Q_rmT_A Z rA rB kL u vv r h0 n0 _ T296.heap _
    rw [e296]
    exact ⟨b260, k260, rfl, N296, K300, sz_b260, VX273, VA, VB⟩
def Q_rmT_B (Z : State) (rA : Addr) (rB : Addr) (kL : ClassId) (u : Int64) (vv : Int64) (r : Int32) (h0 : Heap) (n0 : Nat) (v : Option Value) (h : Heap) (L : List Loc) : Prop := ∃ x kx, v = some (.ref x) ∧ Fr n0 L ∧ Keep h0 h [rA, rB] ∧ h0.size ≤ x ∧ Arv Z h x kx .int (1 : Int32) [(.int r)] (.int (0 : Int32)) ∧ Arv Z h rA kL .long (1 : Int32) [(.long u)] (.long (0 : Int64)) ∧ Arv Z h rB kL .long (1 : Int32) [(.long (vv ||| ((1 : Int64) <<< (r &&& 0x3f).toInt64)))] (.long (0 : Int64))
set_option maxRecDepth 65536 in
set_option maxHeartbeats 40000000 in
theorem rmT_B (l : Launch) (Z : State) (a0 : Array Value) (hw : ∀ d ∈ tables_1, d.before a0 Z = true) (ws : List Jvm.Cond) (a1 : Addr) (aH : Addr) (rA : Addr) (rB : Addr) (kH : ClassId) (kL : ClassId) (cn : Int32) (wd : Int32) (u : Int64) (vv : Int64) (ra : Addr) (kR : ClassId) (r : Int32) (wN : Addr) (h0 : Heap) (n0 : Nat) (O0 : Old Z n0 h0) (ge_rA : n0 ≤ rA) (ge_rB : n0 ≤ rB) (Ew : Exa Z h0 a1 "com/example/lumenplan/lumenplan/simulation/Wavelengths") (Fh : Fld Z h0 a1 "com/example/lumenplan/lumenplan/simulation/Wavelengths" "held" "[[J" (.ref aH)) (VH : Arv Z h0 aH kH (.array .long) (2 : Int32) [(.ref rA), (.ref rB)] .null) (VA : Arv Z h0 rA kL .long (1 : Int32) [(.long u)] (.long (0 : Int64))) (VB : Arv Z h0 rB kL .long (1 : Int32) [(.long vv)] (.long (0 : Int64))) (Fc : Fld Z h0 a1 "com/example/lumenplan/lumenplan/simulation/Wavelengths" "count" "I" (.int cn)) (Fw : Fld Z h0 a1 "com/example/lumenplan/lumenplan/simulation/Wavelengths" "words" "I" (.int wd)) (VR : Arv Z h0 ra kR .int (1 : Int32) [(.int (1 : Int32))] (.int (0 : Int32))) (SN : Sta Z Z.heap "com/example/lumenplan/lumenplan/simulation/Conversion" "NONE" "Lcom/example/lumenplan/lumenplan/simulation/Conversion;" (.ref wN)) (hN : NT vv r) (hw0 : (0 : Int32) < wd) (hlt : r < cn) (ne_a1_rA : a1 ≠ rA) (ne_a1_rB : a1 ≠ rB) (ne_aH_rA : aH ≠ rA) (ne_aH_rB : aH ≠ rB) (ne_rA_rB : rA ≠ rB) (ne_ra_rA : ra ≠ rA) (ne_ra_rB : ra ≠ rB) :
    MetFree l (⟨"com/example/lumenplan/lumenplan/simulation/Wavelengths", "take", "([ILcom/example/lumenplan/lumenplan/simulation/Conversion;)[I"⟩ : MethodName) (head1 (Jvm.Cond.code (⟨"com/example/lumenplan/lumenplan/simulation/Wavelengths", "take", "([ILcom/example/lumenplan/lumenplan/simulation/Conversion;)[I"⟩ : MethodName) prog_37_method_2_code 8 (some (.array .int)) :: ws) ({ frames := 3, cells := 1, slots := 2, locals := 110 } : Room)) (fun a U => a = #[(.ref a1), (.ref ra), (.ref wN)] ∧ Z.Warmed39 U.vm ∧ U.heap = h0) (fun _ _ _ _ _ => True) (fun _ U o U' => ∃ v L, o = .returned v ∧ Q_rmT_B Z rA rB kL u vv r h0 n0 v U'.heap L ∧ FrameEnd U o U' L ({ frames := 3, cells := 1, slots := 2, locals := 110 } : Room).cells ({ frames := 3, cells := 1, slots := 2, locals := 110 } : Room).slots) := by
  refine MetFree.of_bodySF (plainFor_of_name pn_Wavelengths) hisR ?_
  intro p e s m args below meth c s₁ Bd hml0 hP hK
  obtain ⟨rfl, hZ, hh⟩ := hP
  have hx := Bd.exec
  have hby := Bd.bytes
  have hml : c.maxLocals = 8 := hml0
  have hown : s.vm.findClass "com/example/lumenplan/lumenplan/simulation/Wavelengths" = some m.cls := findClass_of_methodNamed Bd.named
  have hnm := (name_of_methodNamed Bd.named Bd.method).1
  have X0 : Stand p l e ({ frames := 3, cells := 1, slots := 2, locals := 110 } : Room) s m #[(.ref a1), (.ref ra), (.ref wN)] below meth c s₁ [] 0 0 := Stand.of_body Bd
  have e0 : s₁.heap = h0 := by rw [← hh, Bd.state]; rfl
  have N0 := Fr.nil n0
  obtain ⟨S0, hS0⟩ : ∃ z, z = s₁.setTop (entryFrame m #[(.ref a1), (.ref ra), (.ref wN)] 8) := ⟨_, rfl⟩
  have k0 : Rch p e below S0 s₁ (mkF m 0 #[vR a1, vR ra, vR wN, vU, vU, vU, vU, vU] []) := fun t kq => hS0 ▸ castTop (ef_4 m a1 ra wN) kq
  have K0 : Keep h0 h0 [rA, rB] := Keep.refl h0 _
  have k305 : Rch p e below S0 s₁ (mkF m 1 #[vR a1, vR ra, vR wN, vU, vU, vU, vU, vU] [(.ref ra)]) := fun t h => k0 t (by
      show Steps p.tables e below (s₁.setTop (mkF m 0 #[vR a1, vR ra, vR wN, vU, vU, vU, vU, vU] [])) _
      refine XS.aloadN X0.here hx rfl (hb hby d4_0) rfl rfl ?_
      exact h)
  obtain ⟨cl304, Ar304, q304, Sz304, Ng304, Hs304, G304⟩ := id VR
  have k307 : Rch p e below S0 s₁ (mkF m 2 #[vR a1, vR ra, vR wN, vU, vU, vU, vU, vU] [(.int (1 : Int32))]) := fun t h => k305 t (by
      show Steps p.tables e below (s₁.setTop (mkF m 1 #[vR a1, vR ra, vR wN, vU, vU, vU, vU, vU] [(.ref ra)])) _
      refine X0.arraylength hx (by rw [e0]; exact Ar304.1) (State.isArrayOf_alike hZ.alike Ar304.2.1) (g := (mkF m 1 #[vR a1, vR ra, vR wN, vU, vU, vU, vU, vU] [(.ref ra)])) rfl rfl (hb hby d4_1) _ ?_
      rw [len_of Sz304 Ng304]
      exact h)
  obtain ⟨T306, h306, k306, X306, e306, E306, A306, st306⟩ := newP X0 hx hZ (hw _ (gm 4 rfl)) e0 (g := (mkF m 2 #[vR a1, vR ra, vR wN, vU, vU, vU, vU, vU] [(.int (1 : Int32))])) rfl (hb hby d4_2) rfl (by decide) (cap := 1) (by decide) (by decide) (by decide) (by decide)
  obtain ⟨b306, g306⟩ : ∃ z, z = h0.size := ⟨_, rfl⟩
  rw [← g306] at A306 st306
  have k308 : Rch p e below S0 T306 (mkF m 4 #[vR a1, vR ra, vR wN, vU, vU, vU, vU, vU] [(.ref b306)]) := fun t h => k307 t (st306 t h)
  have ne_a1_b306 : a1 ≠ b306 := own_ne Ew.lt (Nat.le_of_eq g306.symm)
  have ne_aH_b306 : aH ≠ b306 := own_ne VH.lt (Nat.le_of_eq g306.symm)
  have ne_rA_b306 : rA ≠ b306 := own_ne VA.lt (Nat.le_of_eq g306.symm)
  have ne_rB_b306 : rB ≠ b306 := own_ne VB.lt (Nat.le_of_eq g306.symm)
  have ne_ra_b306 : ra ≠ b306 := own_ne VR.lt (Nat.le_of_eq g306.symm)
  have ge_b306 : n0 ≤ b306 := own_ge O0 (Nat.le_of_eq g306.symm)
  have sz_b306 : h0.size ≤ b306 := Nat.le_trans K0.1 (Nat.le_of_eq g306.symm)
  have O309 := O0.ext E306
  have K310 := K0.ext E306
  replace Ew := Ew.ext E306
  replace Fh := Fh.ext E306
  replace Fc := Fc.ext E306
  replace Fw := Fw.ext E306
  replace VH := VH.ext E306
  replace VA := VA.ext E306
  replace VB := VB.ext E306
  replace VR := VR.ext E306
  have V_b306 : Arv Z h306 b306 k306 .int (1 : Int32) [(.int (0 : Int32))] (.int (0 : Int32)) := (Arv.new A306 (by decide)).pad (pad_rep [] (.int (0 : Int32)) 1)
  have k312 : Rch p e below S0 T306 (mkF m 6 #[vR a1, vR ra, vR wN, vR b306, vU, vU, vU, vU] [(.ref wN)]) := fun t h => k308 t (by
      show Steps p.tables e below (T306.setTop (mkF m 4 #[vR a1, vR ra, vR wN, vU, vU, vU, vU, vU] [(.ref b306)])) _
      refine XS.astoreN X306.here hx rfl (hb hby d4_4) rfl rfl (l' := #[vR a1, vR ra, vR wN, vR b306, vU, vU, vU, vU]) rfl ?_
      refine XS.aloadN X306.here hx rfl (hb hby d4_5) rfl rfl ?_
      exact h)
  obtain ⟨T311, X311, e311, st311⟩ := getS2 X306 hx hZ hown (host := "") (Or.inl (hw _ (gm 32 rfl))) Via.refl e306 (SN.ext O309.2) (g := (mkF m 6 #[vR a1, vR ra, vR wN, vR b306, vU, vU, vU, vU] [(.ref wN)])) rfl (hb hby d4_6)
  have k313 : Rch p e below S0 T311 (mkF m 9 #[vR a1, vR ra, vR wN, vR b306, vU, vU, vU, vU] [(.ref wN), (.ref wN)]) := fun t h => k312 t (st311 t h)
  have k315 : Rch p e below S0 T311 (mkF m 17 #[vR a1, vR ra, vR wN, vR b306, vU, vU, vU, vU] [(.ref ra), (.int (0 : Int32)), (.ref ra), (.ref a1), (.ref b306)]) := fun t h => k313 t (by
      show Steps p.tables e below (T311.setTop (mkF m 9 #[vR a1, vR ra, vR wN, vR b306, vU, vU, vU, vU] [(.ref wN), (.ref wN)])) _
      refine Jvm.RoadKit.acmp (g := (mkF m 9 #[vR a1, vR ra, vR wN, vR b306, vU, vU, vU, vU] [(.ref wN), (.ref wN)])) X311 hx rfl rfl rfl (pc0 := 9) (pc' := 12) (same := true) rfl (hb hby d4_9) rfl (decide_eq_true rfl) (by decide) (by decide) ?_
      refine XS.aloadN X311.here hx rfl (hb hby d4_12) rfl rfl ?_
      refine XS.aloadN X311.here hx rfl (hb hby d4_13) rfl rfl ?_
      refine XS.aloadN X311.here hx rfl (hb hby d4_14) rfl rfl ?_
      refine XS.iconst X311.here hx rfl (hb hby d4_15) ?_
      refine XS.aloadN X311.here hx rfl (hb hby d4_16) rfl rfl ?_
      exact h)
  obtain ⟨cl314, Ar314, q314, Sz314, Ng314, Hs314, G314⟩ := id VR
  have k316 : Rch p e below S0 T311 (mkF m 18 #[vR a1, vR ra, vR wN, vR b306, vU, vU, vU, vU] [(.int (1 : Int32)), (.int (0 : Int32)), (.ref ra), (.ref a1), (.ref b306)]) := fun t h => k315 t (by
      show Steps p.tables e below (T311.setTop (mkF m 17 #[vR a1, vR ra, vR wN, vR b306, vU, vU, vU, vU] [(.ref ra), (.int (0 : Int32)), (.ref ra), (.ref a1), (.ref b306)])) _
      refine X311.arraylength hx (by rw [e311]; exact Ar314.1) (State.isArrayOf_alike hZ.alike Ar314.2.1) (g := (mkF m 17 #[vR a1, vR ra, vR wN, vR b306, vU, vU, vU, vU] [(.ref ra), (.int (0 : Int32)), (.ref ra), (.ref a1), (.ref b306)])) rfl rfl (hb hby d4_17) _ ?_
      rw [len_of Sz314 Ng314]
      exact h)
  obtain ⟨cq317, q317, q317'⟩ := Ew.cell
  obtain ⟨_, _, ⟨T317, L317, kk317, n317⟩, -, X317, ⟨Lc317, hQ317, l317, y317, z317⟩, st317⟩ := X311.privateBack hx (y := (⟨"com/example/lumenplan/lumenplan/simulation/Wavelengths", "lowestFree", "([III)I"⟩ : MethodName)) hown (mvT hZ (hw _ (gm 33 rfl))) (mvT hZ (hw _ (gm 34 rfl))) (mvT hZ (own_selects (hw _ (gm 6 rfl)) (hw _ (gm 34 rfl)) (hw _ (gm 35 rfl)) (by decide))) (Cond.privateMethod_at (mvP hZ (hw _ (gm 35 rfl)) (args := #[]))) (mvT hZ (hw _ (gm 36 rfl))) (by decide) (backOf (W := 1) (rmF_B1 l Z a0 hw []  a1 aH rA rB kH kL cn wd u vv ra kR r r h306 n0 O309 Fh VH VA VB Fc Fw VR hN hw0 (Or.inl ⟨hlt, rfl⟩)) hZ (hw _ (gm 36 rfl)) (hw _ (gm 7 rfl)) (by decide) (by decide)) (g := (mkF m 18 #[vR a1, vR ra, vR wN, vR b306, vU, vU, vU, vU] [(.int (1 : Int32)), (.int (0 : Int32)), (.ref ra), (.ref a1), (.ref b306)])) rfl (by rw [hml]; rfl) (Steps.refl _) (a := a1) (by rw [e311]; exact q317) q317' (argsL := [(.ref ra), (.int (0 : Int32)), (.int (1 : Int32))]) (rest := [(.ref b306)]) (lenOf pd_4 rfl) rfl (by show 2 * 0 + _ ≤ _; exact Nat.le_of_eq rfl) (hb hby d4_18) (fun _ _ => ⟨rfl, e311, (by decide : 1 + 0 ≤ _), (by decide : 1 + 0 ≤ _)⟩)
  dsimp only [Pt.U, Pt.locs, Pt.cells, Pt.slots] at X317 l317 y317 z317 st317 hQ317
  subst l317 y317 z317
  obtain ⟨rfl, Nq317, hh317⟩ := hQ317
  have N317 := Fr.app N0 Nq317
  have k318 : Rch p e below S0 T317 (mkF m 21 #[vR a1, vR ra, vR wN, vR b306, vU, vU, vU, vU] [(.int r), (.ref b306)]) := fun t h => k316 t (st317.trans h)
  obtain ⟨_, _, ⟨T319, L319, kk319, n319⟩, -, X319, ⟨Lc319, hQ319, l319, y319, z319⟩, st319⟩ := Jvm.LawKit.callS X317 hx (y := (⟨"java/util/Arrays", "fill", "([II)V"⟩ : MethodName)) hown (mvT hZ (hw _ (gm 46 rfl))) (mvT hZ (hw _ (gm 47 rfl))) (mvT hZ (hw _ (gm 48 rfl))) (mvT hZ (hw _ (gm 49 rfl))) (by decide) (backOf (W := 0) (rmAF1 l Z a0 hw [] b306 r k306 h306 n0 O309 ge_b306 V_b306) hZ (hw _ (gm 49 rfl)) (hw _ (gm 48 rfl)) (by decide) (by decide)) (g := (mkF m 21 #[vR a1, vR ra, vR wN, vR b306, vU, vU, vU, vU] [(.int r), (.ref b306)])) rfl (by rw [hml]; rfl) (argsL := [(.ref b306), (.int r)]) (rest := []) (lenOf pd_7 rfl) rfl (by show 2 * 0 + _ ≤ _; exact Nat.le_of_eq rfl) (hb hby d4_21) (fun _ _ => ⟨rfl, hh317, (by decide : 1 + 0 ≤ _), (by decide : 1 + 0 ≤ _)⟩)
  dsimp only [Pt.U, Pt.locs, Pt.cells, Pt.slots] at X319 l319 y319 z319 st319 hQ319
  subst l319 y319 z319
  obtain ⟨rfl, Nq319, K319, VX319⟩ := hQ319
  have N319 := Fr.app N317 Nq319
  have k320 : Rch p e below S0 T319 (mkF m 24 #[vR a1, vR ra, vR wN, vR b306, vU, vU, vU, vU] []) := fun t h => k318 t (st319 t h)
  have O321 := O309.keep K319 (allS ge_b306 all0)
  have K322 := K310.trans K319 (allS (Or.inr sz_b306) all0)
  replace Ew := Ew.keep K319
  replace Fh := Fh.keep K319 (ninS ne_a1_b306 nin0)
  replace Fc := Fc.keep K319 (ninS ne_a1_b306 nin0)
  replace Fw := Fw.keep K319 (ninS ne_a1_b306 nin0)
  replace VH := VH.keep K319 (ninS ne_aH_b306 nin0)
  replace VA := VA.keep K319 (ninS ne_rA_b306 nin0)
  replace VB := VB.keep K319 (ninS ne_rB_b306 nin0)
  replace VR := VR.keep K319 (ninS ne_ra_b306 nin0)
  have k324 : Rch p e below S0 T319 (mkF m 63 #[vR a1, vR ra, vR wN, vR b306, vR b306, vU, vU, vU] [(.ref b306)]) := fun t h => k320 t (by
      show Steps p.tables e below (T319.setTop (mkF m 24 #[vR a1, vR ra, vR wN, vR b306, vU, vU, vU, vU] [])) _
      refine XS.goto X319.here hx rfl (pc0 := 24) (pc' := 58) rfl (hb hby d4_24) (by decide) (by decide) ?_
      refine XS.aloadN X319.here hx rfl (hb hby d4_58) rfl rfl ?_
      refine XS.astore X319.here hx rfl (hb hby d4_59) rfl rfl (l' := #[vR a1, vR ra, vR wN, vR b306, vR b306, vU, vU, vU]) rfl ?_
      refine XS.aload X319.here hx rfl (hb hby d4_61) rfl rfl ?_
      exact h)
  obtain ⟨cl323, Ar323, q323, Sz323, Ng323, Hs323, G323⟩ := id VX319
  have k326 : Rch p e below S0 T319 (mkF m 80 #[vR a1, vR ra, vR wN, vR b306, vR b306, vI 1, vI 0, vU] [(.int (0 : Int32)), (.ref b306)]) := fun t h => k324 t (by
      show Steps p.tables e below (T319.setTop (mkF m 63 #[vR a1, vR ra, vR wN, vR b306, vR b306, vU, vU, vU] [(.ref b306)])) _
      refine X319.arraylength hx (by exact Ar323.1) (State.isArrayOf_alike hZ.alike Ar323.2.1) (g := (mkF m 63 #[vR a1, vR ra, vR wN, vR b306, vR b306, vU, vU, vU] [(.ref b306)])) rfl rfl (hb hby d4_63) _ ?_
      rw [len_of Sz323 Ng323]
      refine XS.istore X319.here hx rfl (hb hby d4_64) rfl (l' := #[vR a1, vR ra, vR wN, vR b306, vR b306, vI 1, vU, vU]) rfl ?_
      refine XS.iconst X319.here hx rfl (hb hby d4_66) ?_
      refine XS.istore X319.here hx rfl (hb hby d4_67) rfl (l' := #[vR a1, vR ra, vR wN, vR b306, vR b306, vI 1, vI 0, vU]) rfl ?_
      refine XS.iload X319.here hx rfl (hb hby d4_69) rfl ?_
      refine XS.iload X319.here hx rfl (hb hby d4_71) rfl ?_
      refine XS.icmpNo X319.here hx rfl (hb hby d4_73) rfl (tlt (by decide : (0 : Int32) < (1 : Int32))).2.1 ?_
      refine XS.aload X319.here hx rfl (hb hby d4_76) rfl rfl ?_
      refine XS.iload X319.here hx rfl (hb hby d4_78) rfl ?_
      exact h)
  obtain ⟨cl325, Ar325, q325, Sz325, Ng325, Hs325, G325⟩ := id VX319
  have hin325 : ¬ ((0 : Int32) < 0 ∨ cl325.slots.size ≤ ((0 : Int32)).toNatClampNeg) := inb_of Sz325 ⟨by decide, by decide⟩
  have hat325 : cl325.slots[((0 : Int32)).toNatClampNeg]? = some (.int r) := Hs325.at hin325 (rfl)
  have k328 : Rch p e below S0 T319 (mkF m 102 #[vR a1, vR ra, vR wN, vR b306, vI 0, vI 1, vI 1, vI r] [(.ref ra), (.int (0 : Int32))]) := fun t h => k326 t (by
      show Steps p.tables e below (T319.setTop (mkF m 80 #[vR a1, vR ra, vR wN, vR b306, vR b306, vI 1, vI 0, vU] [(.int (0 : Int32)), (.ref b306)])) _
      refine X319.iaload hx (j := (0 : Int32)) (v := (.int r)) (by exact Ar325.1) (State.isArrayOf_alike hZ.alike Ar325.2.1) Ar325.2.2 hin325 hat325 (g := (mkF m 80 #[vR a1, vR ra, vR wN, vR b306, vR b306, vI 1, vI 0, vU] [(.int (0 : Int32)), (.ref b306)])) rfl rfl (hb hby d4_80) _ ?_
      refine XS.istore X319.here hx rfl (hb hby d4_81) rfl (l' := #[vR a1, vR ra, vR wN, vR b306, vR b306, vI 1, vI 0, vI r]) rfl ?_
      refine XS.iload X319.here hx rfl (hb hby d4_83) rfl ?_
      refine XS.ifYes X319.here hx rfl (pc0 := 85) (pc' := 90) rfl (hb hby d4_85) rfl ((if0 _ _).trans (flt ((own_nn hN) : ¬ (r < (0 : Int32)))).2.1) (by decide) (by decide) ?_
      show Steps p.tables e below (T319.setTop (mkF m 90 #[vR a1, vR ra, vR wN, vR b306, vR b306, vI 1, vI 0, vI r] [])) _
      refine XS.iinc X319.here hx rfl (hb hby d4_90) rfl (l' := #[vR a1, vR ra, vR wN, vR b306, vR b306, vI 1, vI ((0 : Int32) + (1 : Int32)), vI r]) rfl ?_
      rw [(by decide : ((0 : Int32) + (1 : Int32)) = (1 : Int32))]
      refine XS.goto X319.here hx rfl (pc0 := 93) (pc' := 69) rfl (hb hby d4_93) (by decide) (by decide) ?_
      refine XS.iload X319.here hx rfl (hb hby d4_69) rfl ?_
      refine XS.iload X319.here hx rfl (hb hby d4_71) rfl ?_
      refine XS.icmpYes X319.here hx rfl (pc0 := 73) (pc' := 96) rfl (hb hby d4_73) rfl (flt (by decide : ¬ ((1 : Int32) < (1 : Int32)))).2.1 (by decide) (by decide) ?_
      refine XS.iconst X319.here hx rfl (hb hby d4_96) ?_
      refine XS.istore X319.here hx rfl (hb hby d4_97) rfl (l' := #[vR a1, vR ra, vR wN, vR b306, vI 0, vI 1, vI 1, vI r]) rfl ?_
      refine XS.iload X319.here hx rfl (hb hby d4_99) rfl ?_
      refine XS.aloadN X319.here hx rfl (hb hby d4_101) rfl rfl ?_
      exact h)
  obtain ⟨cl327, Ar327, q327, Sz327, Ng327, Hs327, G327⟩ := id VR
  have k330 : Rch p e below S0 T319 (mkF m 110 #[vR a1, vR ra, vR wN, vR b306, vI 0, vI 1, vI 1, vI r] [(.int (0 : Int32)), (.ref ra), (.ref a1)]) := fun t h => k328 t (by
      show Steps p.tables e below (T319.setTop (mkF m 102 #[vR a1, vR ra, vR wN, vR b306, vI 0, vI 1, vI 1, vI r] [(.ref ra), (.int (0 : Int32))])) _
      refine X319.arraylength hx (by exact Ar327.1) (State.isArrayOf_alike hZ.alike Ar327.2.1) (g := (mkF m 102 #[vR a1, vR ra, vR wN, vR b306, vI 0, vI 1, vI 1, vI r] [(.ref ra), (.int (0 : Int32))])) rfl rfl (hb hby d4_102) _ ?_
      rw [len_of Sz327 Ng327]
      refine XS.icmpNo X319.here hx rfl (hb hby d4_103) rfl (tlt (by decide : (0 : Int32) < (1 : Int32))).2.1 ?_
      refine XS.aloadN X319.here hx rfl (hb hby d4_106) rfl rfl ?_
      refine XS.aloadN X319.here hx rfl (hb hby d4_107) rfl rfl ?_
      refine XS.iload X319.here hx rfl (hb hby d4_108) rfl ?_
      exact h)
  obtain ⟨cl329, Ar329, q329, Sz329, Ng329, Hs329, G329⟩ := id VR
  have hin329 : ¬ ((0 : Int32) < 0 ∨ cl329.slots.size ≤ ((0 : Int32)).toNatClampNeg) := inb_of Sz329 ⟨by decide, by decide⟩
  have hat329 : cl329.slots[((0 : Int32)).toNatClampNeg]? = some (.int (1 : Int32)) := Hs329.at hin329 (rfl)
  have k332 : Rch p e below S0 T319 (mkF m 114 #[vR a1, vR ra, vR wN, vR b306, vI 0, vI 1, vI 1, vI r] [(.int (0 : Int32)), (.ref b306), (.int (1 : Int32)), (.ref a1)]) := fun t h => k330 t (by
      show Steps p.tables e below (T319.setTop (mkF m 110 #[vR a1, vR ra, vR wN, vR b306, vI 0, vI 1, vI 1, vI r] [(.int (0 : Int32)), (.ref ra), (.ref a1)])) _
      refine X319.iaload hx (j := (0 : Int32)) (v := (.int (1 : Int32))) (by exact Ar329.1) (State.isArrayOf_alike hZ.alike Ar329.2.1) Ar329.2.2 hin329 hat329 (g := (mkF m 110 #[vR a1, vR ra, vR wN, vR b306, vI 0, vI 1, vI 1, vI r] [(.int (0 : Int32)), (.ref ra), (.ref a1)])) rfl rfl (hb hby d4_110) _ ?_
      refine XS.aloadN X319.here hx rfl (hb hby d4_111) rfl rfl ?_
      refine XS.iload X319.here hx rfl (hb hby d4_112) rfl ?_
      exact h)
  obtain ⟨cl331, Ar331, q331, Sz331, Ng331, Hs331, G331⟩ := id VX319
  have hin331 : ¬ ((0 : Int32) < 0 ∨ cl331.slots.size ≤ ((0 : Int32)).toNatClampNeg) := inb_of Sz331 ⟨by decide, by decide⟩
  have hat331 : cl331.slots[((0 : Int32)).toNatClampNeg]? = some (.int r) := Hs331.at hin331 (rfl)
  have k333 : Rch p e below S0 T319 (mkF m 118 #[vR a1, vR ra, vR wN, vR b306, vI 0, vI 1, vI 1, vI r] [(.int (0 : Int32)), (.int (1 : Int32)), (.ref a1)]) := fun t h => k332 t (by
      show Steps p.tables e below (T319.setTop (mkF m 114 #[vR a1, vR ra, vR wN, vR b306, vI 0, vI 1, vI 1, vI r] [(.int (0 : Int32)), (.ref b306), (.int (1 : Int32)), (.ref a1)])) _
      refine X319.iaload hx (j := (0 : Int32)) (v := (.int r)) (by exact Ar331.1) (State.isArrayOf_alike hZ.alike Ar331.2.1) Ar331.2.2 hin331 hat331 (g := (mkF m 114 #[vR a1, vR ra, vR wN, vR b306, vI 0, vI 1, vI 1, vI r] [(.int (0 : Int32)), (.ref b306), (.int (1 : Int32)), (.ref a1)])) rfl rfl (hb hby d4_114) _ ?_
      refine XS.bipush X319.here hx rfl (hb hby d4_115) ?_
      show Steps p.tables e below (T319.setTop (mkF m 117 #[vR a1, vR ra, vR wN, vR b306, vI 0, vI 1, vI 1, vI r] [(.int (64 : Int32)), (.int r), (.int (1 : Int32)), (.ref a1)])) _
      refine XS.idiv X319.here hx rfl (hb hby d4_117) rfl (by decide) ?_
      rw [own_d64 hN]
      exact h)
  obtain ⟨cq334, q334, q334'⟩ := Ew.cell
  obtain ⟨_, _, ⟨T334, L334, kk334, n334⟩, -, X334, ⟨Lc334, hQ334, l334, y334, z334⟩, st334⟩ := X319.privateBack hx (y := (⟨"com/example/lumenplan/lumenplan/simulation/Wavelengths", "reaching", "(II)[J"⟩ : MethodName)) hown (mvT hZ (hw _ (gm 50 rfl))) (mvT hZ (hw _ (gm 51 rfl))) (mvT hZ (own_selects (hw _ (gm 6 rfl)) (hw _ (gm 51 rfl)) (hw _ (gm 52 rfl)) (by decide))) (Cond.privateMethod_at (mvP hZ (hw _ (gm 52 rfl)) (args := #[]))) (mvT hZ (hw _ (gm 53 rfl))) (by decide) (backOf (W := 0) (rmR_B l Z a0 hw []  a1 aH rA rB kH kL cn wd u vv T319.heap n0 O321 Fh VH VA VB) hZ (hw _ (gm 53 rfl)) (hw _ (gm 7 rfl)) (by decide) (by decide)) (g := (mkF m 118 #[vR a1, vR ra, vR wN, vR b306, vI 0, vI 1, vI 1, vI r] [(.int (0 : Int32)), (.int (1 : Int32)), (.ref a1)])) rfl (by rw [hml]; rfl) (Steps.refl _) (a := a1) (by exact q334) q334' (argsL := [(.int (1 : Int32)), (.int (0 : Int32))]) (rest := []) (lenOf pd_8 rfl) rfl (by show 2 * 0 + _ ≤ _; exact Nat.le_of_eq rfl) (hb hby d4_118) (fun _ _ => ⟨rfl, rfl, (by decide : 1 + 0 ≤ _), (by decide : 1 + 0 ≤ _)⟩)
  dsimp only [Pt.U, Pt.locs, Pt.cells, Pt.slots] at X334 l334 y334 z334 st334 hQ334
  subst l334 y334 z334
  obtain ⟨rfl, Nq334, hh334⟩ := hQ334
  have N334 := Fr.app N319 Nq334
  have k335 : Rch p e below S0 T334 (mkF m 121 #[vR a1, vR ra, vR wN, vR b306, vI 0, vI 1, vI 1, vI r] [(.ref rB)]) := fun t h => k333 t (st334.trans h)
  have k337 : Rch p e below S0 T334 (mkF m 128 #[vR a1, vR ra, vR wN, vR b306, vI 0, vR rB, vI 1, vI r] [(.int (0 : Int32)), (.ref b306), (.ref rB)]) := fun t h => k335 t (by
      show Steps p.tables e below (T334.setTop (mkF m 121 #[vR a1, vR ra, vR wN, vR b306, vI 0, vI 1, vI 1, vI r] [(.ref rB)])) _
      refine XS.astore X334.here hx rfl (hb hby d4_121) rfl rfl (l' := #[vR a1, vR ra, vR wN, vR b306, vI 0, vR rB, vI 1, vI r]) rfl ?_
      refine XS.aload X334.here hx rfl (hb hby d4_123) rfl rfl ?_
      refine XS.aloadN X334.here hx rfl (hb hby d4_125) rfl rfl ?_
      refine XS.iload X334.here hx rfl (hb hby d4_126) rfl ?_
      exact h)
  obtain ⟨cl336, Ar336, q336, Sz336, Ng336, Hs336, G336⟩ := id VX319
  have hin336 : ¬ ((0 : Int32) < 0 ∨ cl336.slots.size ≤ ((0 : Int32)).toNatClampNeg) := inb_of Sz336 ⟨by decide, by decide⟩
  have hat336 : cl336.slots[((0 : Int32)).toNatClampNeg]? = some (.int r) := Hs336.at hin336 (rfl)
  have k339 : Rch p e below S0 T334 (mkF m 133 #[vR a1, vR ra, vR wN, vR b306, vI 0, vR rB, vI 1, vI r] [(.int (0 : Int32)), (.ref rB), (.int (0 : Int32)), (.ref rB)]) := fun t h => k337 t (by
      show Steps p.tables e below (T334.setTop (mkF m 128 #[vR a1, vR ra, vR wN, vR b306, vI 0, vR rB, vI 1, vI r] [(.int (0 : Int32)), (.ref b306), (.ref rB)])) _
      refine X334.iaload hx (j := (0 : Int32)) (v := (.int r)) (by rw [hh334]; exact Ar336.1) (State.isArrayOf_alike hZ.alike Ar336.2.1) Ar336.2.2 hin336 hat336 (g := (mkF m 128 #[vR a1, vR ra, vR wN, vR b306, vI 0, vR rB, vI 1, vI r] [(.int (0 : Int32)), (.ref b306), (.ref rB)])) rfl rfl (hb hby d4_128) _ ?_
      refine XS.bipush X334.here hx rfl (hb hby d4_129) ?_
      show Steps p.tables e below (T334.setTop (mkF m 131 #[vR a1, vR ra, vR wN, vR b306, vI 0, vR rB, vI 1, vI r] [(.int (64 : Int32)), (.int r), (.ref rB)])) _
      refine XS.idiv X334.here hx rfl (hb hby d4_131) rfl (by decide) ?_
      rw [own_d64 hN]
      refine XT.dup2 X334.here hx rfl (hb hby d4_132) rfl rfl rfl ?_
      exact h)
  obtain ⟨cl338, Ar338, q338, Sz338, Ng338, Hs338, G338⟩ := id VB
  have hin338 : ¬ ((0 : Int32) < 0 ∨ cl338.slots.size ≤ ((0 : Int32)).toNatClampNeg) := inb_of Sz338 ⟨by decide, by decide⟩
  have hat338 : cl338.slots[((0 : Int32)).toNatClampNeg]? = some (.long vv) := Hs338.at hin338 (rfl)
  have k341 : Rch p e below S0 T334 (mkF m 138 #[vR a1, vR ra, vR wN, vR b306, vI 0, vR rB, vI 1, vI r] [(.int (0 : Int32)), (.ref b306), (.long (1 : Int64)), (.long vv), (.int (0 : Int32)), (.ref rB)]) := fun t h => k339 t (by
      show Steps p.tables e below (T334.setTop (mkF m 133 #[vR a1, vR ra, vR wN, vR b306, vI 0, vR rB, vI 1, vI r] [(.int (0 : Int32)), (.ref rB), (.int (0 : Int32)), (.ref rB)])) _
      refine X334.laload hx (j := (0 : Int32)) (v := (.long vv)) (by rw [hh334]; exact Ar338.1) (State.isArrayOf_alike hZ.alike Ar338.2.1) Ar338.2.2 hin338 hat338 (g := (mkF m 133 #[vR a1, vR ra, vR wN, vR b306, vI 0, vR rB, vI 1, vI r] [(.int (0 : Int32)), (.ref rB), (.int (0 : Int32)), (.ref rB)])) rfl rfl (hb hby d4_133) _ ?_
      refine XS.lconst X334.here hx rfl (hb hby d4_134) ?_
      refine XS.aloadN X334.here hx rfl (hb hby d4_135) rfl rfl ?_
      refine XS.iload X334.here hx rfl (hb hby d4_136) rfl ?_
      show Steps p.tables e below (T334.setTop (mkF m 138 #[vR a1, vR ra, vR wN, vR b306, vI 0, vR rB, vI 1, vI r] [(.int (0 : Int32)), (.ref b306), (.long (1 : Int64)), (.long vv), (.int (0 : Int32)), (.ref rB)])) _
      exact h)
  obtain ⟨cl340, Ar340, q340, Sz340, Ng340, Hs340, G340⟩ := id VX319
  have hin340 : ¬ ((0 : Int32) < 0 ∨ cl340.slots.size ≤ ((0 : Int32)).toNatClampNeg) := inb_of Sz340 ⟨by decide, by decide⟩
  have hat340 : cl340.slots[((0 : Int32)).toNatClampNeg]? = some (.int r) := Hs340.at hin340 (rfl)
  have k343 : Rch p e below S0 T334 (mkF m 141 #[vR a1, vR ra, vR wN, vR b306, vI 0, vR rB, vI 1, vI r] [(.long (vv ||| ((1 : Int64) <<< (r &&& 0x3f).toInt64))), (.int (0 : Int32)), (.ref rB)]) := fun t h => k341 t (by
      show Steps p.tables e below (T334.setTop (mkF m 138 #[vR a1, vR ra, vR wN, vR b306, vI 0, vR rB, vI 1, vI r] [(.int (0 : Int32)), (.ref b306), (.long (1 : Int64)), (.long vv), (.int (0 : Int32)), (.ref rB)])) _
      refine X334.iaload hx (j := (0 : Int32)) (v := (.int r)) (by rw [hh334]; exact Ar340.1) (State.isArrayOf_alike hZ.alike Ar340.2.1) Ar340.2.2 hin340 hat340 (g := (mkF m 138 #[vR a1, vR ra, vR wN, vR b306, vI 0, vR rB, vI 1, vI r] [(.int (0 : Int32)), (.ref b306), (.long (1 : Int64)), (.long vv), (.int (0 : Int32)), (.ref rB)])) rfl rfl (hb hby d4_138) _ ?_
      refine XS.lshl X334.here hx rfl (hb hby d4_139) rfl ?_
      refine XS.lor X334.here hx rfl (hb hby d4_140) rfl ?_
      exact h)
  obtain ⟨cl342, Ar342, q342, Sz342, Ng342, Hs342, G342⟩ := id VB
  have hin342 : ¬ ((0 : Int32) < 0 ∨ cl342.slots.size ≤ ((0 : Int32)).toNatClampNeg) := inb_of Sz342 ⟨by decide, by decide⟩
  obtain ⟨T342, h342, X342, e342, W342, st342⟩ := stJ X334 hx hZ hh334 Ar342 (j := (0 : Int32)) hin342 (g := (mkF m 141 #[vR a1, vR ra, vR wN, vR b306, vI 0, vR rB, vI 1, vI r] [(.long (vv ||| ((1 : Int64) <<< (r &&& 0x3f).toInt64))), (.int (0 : Int32)), (.ref rB)])) rfl rfl (hb hby d4_141)
  have k344 : Rch p e below S0 T342 (mkF m 142 #[vR a1, vR ra, vR wN, vR b306, vI 0, vR rB, vI 1, vI r] []) := fun t h => k343 t (st342 t h)
  have N342 := Fr.snoc X342 N334 ge_rB
  have VB' := Arv.set Ar342 q342 Sz342 Ng342 Hs342 G342 rfl W342 0 rfl (Nat.le_of_ble_eq_true rfl)
  replace VB : Arv Z h342 rB kL .long (1 : Int32) [(.long (vv ||| ((1 : Int64) <<< (r &&& 0x3f).toInt64)))] (.long (0 : Int64)) := VB'
  have O345 := O321.wr W342 ge_rB
  have K346 := K322.wr W342 (Or.inl (gm 1 rfl))
  replace Ew := Ew.wr W342
  replace Fh := Fh.other W342 (Or.inl ne_a1_rB)
  replace Fc := Fc.other W342 (Or.inl ne_a1_rB)
  replace Fw := Fw.other W342 (Or.inl ne_a1_rB)
  replace VH := VH.other W342 ne_aH_rB
  replace VA := VA.other W342 ne_rA_rB
  replace VR := VR.other W342 ne_ra_rB
  replace VX319 := VX319.other W342 (Ne.symm ne_rB_b306)
  have k348 : Rch p e below S0 T342 (mkF m 102 #[vR a1, vR ra, vR wN, vR b306, vI 1, vR rB, vI 1, vI r] [(.ref ra), (.int (1 : Int32))]) := fun t h => k344 t (by
      show Steps p.tables e below (T342.setTop (mkF m 142 #[vR a1, vR ra, vR wN, vR b306, vI 0, vR rB, vI 1, vI r] [])) _
      refine XS.iinc X342.here hx rfl (hb hby d4_142) rfl (l' := #[vR a1, vR ra, vR wN, vR b306, vI ((0 : Int32) + (1 : Int32)), vR rB, vI 1, vI r]) rfl ?_
      rw [(by decide : ((0 : Int32) + (1 : Int32)) = (1 : Int32))]
      refine XS.goto X342.here hx rfl (pc0 := 145) (pc' := 99) rfl (hb hby d4_145) (by decide) (by decide) ?_
      refine XS.iload X342.here hx rfl (hb hby d4_99) rfl ?_
      refine XS.aloadN X342.here hx rfl (hb hby d4_101) rfl rfl ?_
      exact h)
  obtain ⟨cl347, Ar347, q347, Sz347, Ng347, Hs347, G347⟩ := id VR
  have k349 : Rch p e below S0 T342 (mkF m 149 #[vR a1, vR ra, vR wN, vR b306, vI 1, vR rB, vI 1, vI r] [(.ref b306)]) := fun t h => k348 t (by
      show Steps p.tables e below (T342.setTop (mkF m 102 #[vR a1, vR ra, vR wN, vR b306, vI 1, vR rB, vI 1, vI r] [(.ref ra), (.int (1 : Int32))])) _
      refine X342.arraylength hx (by rw [e342]; exact Ar347.1) (State.isArrayOf_alike hZ.alike Ar347.2.1) (g := (mkF m 102 #[vR a1, vR ra, vR wN, vR b306, vI 1, vR rB, vI 1, vI r] [(.ref ra), (.int (1 : Int32))])) rfl rfl (hb hby d4_102) _ ?_
      rw [len_of Sz347 Ng347]
      refine XS.icmpYes X342.here hx rfl (pc0 := 103) (pc' := 148) rfl (hb hby d4_103) rfl (flt (by decide : ¬ ((1 : Int32) < (1 : Int32)))).2.1 (by decide) (by decide) ?_
      refine XS.aloadN X342.here hx rfl (hb hby d4_148) rfl rfl ?_
      exact h)
  obtain ⟨fs, hr, hrun, hended, hW, hsame⟩ := X342.leave (v := (some (.ref b306))) (fun h => by rw [Bd.returns] at h; cases h)
  refine ⟨_, _, ?_, hrun, hended, _, _, rfl, ?_, ⟨_, rfl⟩, hW, hsame.mono (by decide) (by decide)⟩
  · rw [← hS0]
    refine k349 _ ?_
    show Steps p.tables e below (T342.setTop (mkF m 149 #[vR a1, vR ra, vR wN, vR b306, vI 1, vR rB, vI 1, vI r] [(.ref b306)])) _
    jvm_step X342.here [X342.here.top, hx, (hb hby d4_149), X342.method', Bd.returns, Value.isRef, FieldType.isReference]
    first | (intro acts; rw [hr _ acts rfl rfl rfl]) | rw [hr _ _ rfl rfl rfl]
    exact Steps.refl _
  · show Q_rmT_B Z rA rB kL u vv r h0 n0 _ T342.heap _
    rw [e342]
    exact ⟨b306, k306, rfl, N342, K346, sz_b306, VX319, VA, VB⟩
def Q_rmT_F (Z : State) (rA : Addr) (rB : Addr) (kL : ClassId) (u : Int64) (vv : Int64) (r : Int32) (h0 : Heap) (n0 : Nat) (v : Option Value) (h : Heap) (L : List Loc) : Prop := ∃ x kx, v = some (.ref x) ∧ Fr n0 L ∧ Keep h0 h [rA, rB] ∧ h0.size ≤ x ∧ Arv Z h x kx .int (2 : Int32) [(.int r), (.int r)] (.int (0 : Int32)) ∧ Arv Z h rA kL .long (1 : Int32) [(.long (u ||| ((1 : Int64) <<< (r &&& 0x3f).toInt64)))] (.long (0 : Int64)) ∧ Arv Z h rB kL .long (1 : Int32) [(.long (vv ||| ((1 : Int64) <<< (r &&& 0x3f).toInt64)))] (.long (0 : Int64))
set_option maxRecDepth 65536 in
set_option maxHeartbeats 40000000 in
theorem rmT_F (l : Launch) (Z : State) (a0 : Array Value) (hw : ∀ d ∈ tables_1, d.before a0 Z = true) (ws : List Jvm.Cond) (a1 : Addr) (aH : Addr) (rA : Addr) (rB : Addr) (kH : ClassId) (kL : ClassId) (cn : Int32) (wd : Int32) (u : Int64) (vv : Int64) (ra : Addr) (kR : ClassId) (r : Int32) (wN : Addr) (h0 : Heap) (n0 : Nat) (O0 : Old Z n0 h0) (ge_rA : n0 ≤ rA) (ge_rB : n0 ≤ rB) (Ew : Exa Z h0 a1 "com/example/lumenplan/lumenplan/simulation/Wavelengths") (Fh : Fld Z h0 a1 "com/example/lumenplan/lumenplan/simulation/Wavelengths" "held" "[[J" (.ref aH)) (VH : Arv Z h0 aH kH (.array .long) (2 : Int32) [(.ref rA), (.ref rB)] .null) (VA : Arv Z h0 rA kL .long (1 : Int32) [(.long u)] (.long (0 : Int64))) (VB : Arv Z h0 rB kL .long (1 : Int32) [(.long vv)] (.long (0 : Int64))) (Fc : Fld Z h0 a1 "com/example/lumenplan/lumenplan/simulation/Wavelengths" "count" "I" (.int cn)) (Fw : Fld Z h0 a1 "com/example/lumenplan/lumenplan/simulation/Wavelengths" "words" "I" (.int wd)) (VR : Arv Z h0 ra kR .int (2 : Int32) [(.int (0 : Int32)), (.int (1 : Int32))] (.int (0 : Int32))) (SN : Sta Z Z.heap "com/example/lumenplan/lumenplan/simulation/Conversion" "NONE" "Lcom/example/lumenplan/lumenplan/simulation/Conversion;" (.ref wN)) (hN : NT (u ||| vv) r) (hw0 : (0 : Int32) < wd) (hlt : r < cn) (ne_a1_rA : a1 ≠ rA) (ne_a1_rB : a1 ≠ rB) (ne_aH_rA : aH ≠ rA) (ne_aH_rB : aH ≠ rB) (ne_rA_rB : rA ≠ rB) (ne_ra_rA : ra ≠ rA) (ne_ra_rB : ra ≠ rB) :
    MetFree l (⟨"com/example/lumenplan/lumenplan/simulation/Wavelengths", "take", "([ILcom/example/lumenplan/lumenplan/simulation/Conversion;)[I"⟩ : MethodName) (head1 (Jvm.Cond.code (⟨"com/example/lumenplan/lumenplan/simulation/Wavelengths", "take", "([ILcom/example/lumenplan/lumenplan/simulation/Conversion;)[I"⟩ : MethodName) prog_37_method_2_code 8 (some (.array .int)) :: ws) ({ frames := 3, cells := 1, slots := 2, locals := 110 } : Room)) (fun a U => a = #[(.ref a1), (.ref ra), (.ref wN)] ∧ Z.Warmed39 U.vm ∧ U.heap = h0) (fun _ _ _ _ _ => True) (fun _ U o U' => ∃ v L, o = .returned v ∧ Q_rmT_F Z rA rB kL u vv r h0 n0 v U'.heap L ∧ FrameEnd U o U' L ({ frames := 3, cells := 1, slots := 2, locals := 110 } : Room).cells ({ frames := 3, cells := 1, slots := 2, locals := 110 } : Room).slots) := by
  refine MetFree.of_bodySF (plainFor_of_name pn_Wavelengths) hisR ?_
  intro p e s m args below meth c s₁ Bd hml0 hP hK
  obtain ⟨rfl, hZ, hh⟩ := hP
  have hx := Bd.exec
  have hby := Bd.bytes
  have hml : c.maxLocals = 8 := hml0
  have hown : s.vm.findClass "com/example/lumenplan/lumenplan/simulation/Wavelengths" = some m.cls := findClass_of_methodNamed Bd.named
  have hnm := (name_of_methodNamed Bd.named Bd.method).1
  have X0 : Stand p l e ({ frames := 3, cells := 1, slots := 2, locals := 110 } : Room) s m #[(.ref a1), (.ref ra), (.ref wN)] below meth c s₁ [] 0 0 := Stand.of_body Bd
  have e0 : s₁.heap = h0 := by rw [← hh, Bd.state]; rfl
  have N0 := Fr.nil n0
  obtain ⟨S0, hS0⟩ : ∃ z, z = s₁.setTop (entryFrame m #[(.ref a1), (.ref ra), (.ref wN)] 8) := ⟨_, rfl⟩
  have k0 : Rch p e below S0 s₁ (mkF m 0 #[vR a1, vR ra, vR wN, vU, vU, vU, vU, vU] []) := fun t kq => hS0 ▸ castTop (ef_4 m a1 ra wN) kq
  have K0 : Keep h0 h0 [rA, rB] := Keep.refl h0 _
  have k351 : Rch p e below S0 s₁ (mkF m 1 #[vR a1, vR ra, vR wN, vU, vU, vU, vU, vU] [(.ref ra)]) := fun t h => k0 t (by
      show Steps p.tables e below (s₁.setTop (mkF m 0 #[vR a1, vR ra, vR wN, vU, vU, vU, vU, vU] [])) _
      refine XS.aloadN X0.here hx rfl (hb hby d4_0) rfl rfl ?_
      exact h)
  obtain ⟨cl350, Ar350, q350, Sz350, Ng350, Hs350, G350⟩ := id VR
  have k353 : Rch p e below S0 s₁ (mkF m 2 #[vR a1, vR ra, vR wN, vU, vU, vU, vU, vU] [(.int (2 : Int32))]) := fun t h => k351 t (by
      show Steps p.tables e below (s₁.setTop (mkF m 1 #[vR a1, vR ra, vR wN, vU, vU, vU, vU, vU] [(.ref ra)])) _
      refine X0.arraylength hx (by rw [e0]; exact Ar350.1) (State.isArrayOf_alike hZ.alike Ar350.2.1) (g := (mkF m 1 #[vR a1, vR ra, vR wN, vU, vU, vU, vU, vU] [(.ref ra)])) rfl rfl (hb hby d4_1) _ ?_
      rw [len_of Sz350 Ng350]
      exact h)
  obtain ⟨T352, h352, k352, X352, e352, E352, A352, st352⟩ := newP X0 hx hZ (hw _ (gm 4 rfl)) e0 (g := (mkF m 2 #[vR a1, vR ra, vR wN, vU, vU, vU, vU, vU] [(.int (2 : Int32))])) rfl (hb hby d4_2) rfl (by decide) (cap := 2) (by decide) (by decide) (by decide) (by decide)
  obtain ⟨b352, g352⟩ : ∃ z, z = h0.size := ⟨_, rfl⟩
  rw [← g352] at A352 st352
  have k354 : Rch p e below S0 T352 (mkF m 4 #[vR a1, vR ra, vR wN, vU, vU, vU, vU, vU] [(.ref b352)]) := fun t h => k353 t (st352 t h)
  have ne_a1_b352 : a1 ≠ b352 := own_ne Ew.lt (Nat.le_of_eq g352.symm)
  have ne_aH_b352 : aH ≠ b352 := own_ne VH.lt (Nat.le_of_eq g352.symm)
  have ne_rA_b352 : rA ≠ b352 := own_ne VA.lt (Nat.le_of_eq g352.symm)
  have ne_rB_b352 : rB ≠ b352 := own_ne VB.lt (Nat.le_of_eq g352.symm)
  have ne_ra_b352 : ra ≠ b352 := own_ne VR.lt (Nat.le_of_eq g352.symm)
  have ge_b352 : n0 ≤ b352 := own_ge O0 (Nat.le_of_eq g352.symm)
  have sz_b352 : h0.size ≤ b352 := Nat.le_trans K0.1 (Nat.le_of_eq g352.symm)
  have O355 := O0.ext E352
  have K356 := K0.ext E352
  replace Ew := Ew.ext E352
  replace Fh := Fh.ext E352
  replace Fc := Fc.ext E352
  replace Fw := Fw.ext E352
  replace VH := VH.ext E352
  replace VA := VA.ext E352
  replace VB := VB.ext E352
  replace VR := VR.ext E352
  have V_b352 : Arv Z h352 b352 k352 .int (2 : Int32) [(.int (0 : Int32)), (.int (0 : Int32))] (.int (0 : Int32)) := (Arv.new A352 (by decide)).pad (pad_rep [] (.int (0 : Int32)) 2)
  have k358 : Rch p e below S0 T352 (mkF m 6 #[vR a1, vR ra, vR wN, vR b352, vU, vU, vU, vU] [(.ref wN)]) := fun t h => k354 t (by
      show Steps p.tables e below (T352.setTop (mkF m 4 #[vR a1, vR ra, vR wN, vU, vU, vU, vU, vU] [(.ref b352)])) _
      refine XS.astoreN X352.here hx rfl (hb hby d4_4) rfl rfl (l' := #[vR a1, vR ra, vR wN, vR b352, vU, vU, vU, vU]) rfl ?_
      refine XS.aloadN X352.here hx rfl (hb hby d4_5) rfl rfl ?_
      exact h)
  obtain ⟨T357, X357, e357, st357⟩ := getS2 X352 hx hZ hown (host := "") (Or.inl (hw _ (gm 32 rfl))) Via.refl e352 (SN.ext O355.2) (g := (mkF m 6 #[vR a1, vR ra, vR wN, vR b352, vU, vU, vU, vU] [(.ref wN)])) rfl (hb hby d4_6)
  have k359 : Rch p e below S0 T357 (mkF m 9 #[vR a1, vR ra, vR wN, vR b352, vU, vU, vU, vU] [(.ref wN), (.ref wN)]) := fun t h => k358 t (st357 t h)
  have k361 : Rch p e below S0 T357 (mkF m 17 #[vR a1, vR ra, vR wN, vR b352, vU, vU, vU, vU] [(.ref ra), (.int (0 : Int32)), (.ref ra), (.ref a1), (.ref b352)]) := fun t h => k359 t (by
      show Steps p.tables e below (T357.setTop (mkF m 9 #[vR a1, vR ra, vR wN, vR b352, vU, vU, vU, vU] [(.ref wN), (.ref wN)])) _
      refine Jvm.RoadKit.acmp (g := (mkF m 9 #[vR a1, vR ra, vR wN, vR b352, vU, vU, vU, vU] [(.ref wN), (.ref wN)])) X357 hx rfl rfl rfl (pc0 := 9) (pc' := 12) (same := true) rfl (hb hby d4_9) rfl (decide_eq_true rfl) (by decide) (by decide) ?_
      refine XS.aloadN X357.here hx rfl (hb hby d4_12) rfl rfl ?_
      refine XS.aloadN X357.here hx rfl (hb hby d4_13) rfl rfl ?_
      refine XS.aloadN X357.here hx rfl (hb hby d4_14) rfl rfl ?_
      refine XS.iconst X357.here hx rfl (hb hby d4_15) ?_
      refine XS.aloadN X357.here hx rfl (hb hby d4_16) rfl rfl ?_
      exact h)
  obtain ⟨cl360, Ar360, q360, Sz360, Ng360, Hs360, G360⟩ := id VR
  have k362 : Rch p e below S0 T357 (mkF m 18 #[vR a1, vR ra, vR wN, vR b352, vU, vU, vU, vU] [(.int (2 : Int32)), (.int (0 : Int32)), (.ref ra), (.ref a1), (.ref b352)]) := fun t h => k361 t (by
      show Steps p.tables e below (T357.setTop (mkF m 17 #[vR a1, vR ra, vR wN, vR b352, vU, vU, vU, vU] [(.ref ra), (.int (0 : Int32)), (.ref ra), (.ref a1), (.ref b352)])) _
      refine X357.arraylength hx (by rw [e357]; exact Ar360.1) (State.isArrayOf_alike hZ.alike Ar360.2.1) (g := (mkF m 17 #[vR a1, vR ra, vR wN, vR b352, vU, vU, vU, vU] [(.ref ra), (.int (0 : Int32)), (.ref ra), (.ref a1), (.ref b352)])) rfl rfl (hb hby d4_17) _ ?_
      rw [len_of Sz360 Ng360]
      exact h)
  obtain ⟨cq363, q363, q363'⟩ := Ew.cell
  obtain ⟨_, _, ⟨T363, L363, kk363, n363⟩, -, X363, ⟨Lc363, hQ363, l363, y363, z363⟩, st363⟩ := X357.privateBack hx (y := (⟨"com/example/lumenplan/lumenplan/simulation/Wavelengths", "lowestFree", "([III)I"⟩ : MethodName)) hown (mvT hZ (hw _ (gm 33 rfl))) (mvT hZ (hw _ (gm 34 rfl))) (mvT hZ (own_selects (hw _ (gm 6 rfl)) (hw _ (gm 34 rfl)) (hw _ (gm 35 rfl)) (by decide))) (Cond.privateMethod_at (mvP hZ (hw _ (gm 35 rfl)) (args := #[]))) (mvT hZ (hw _ (gm 36 rfl))) (by decide) (backOf (W := 1) (rmF_F l Z a0 hw []  a1 aH rA rB kH kL cn wd u vv ra kR r r h352 n0 O355 Fh VH VA VB Fc Fw VR hN hw0 (Or.inl ⟨hlt, rfl⟩)) hZ (hw _ (gm 36 rfl)) (hw _ (gm 7 rfl)) (by decide) (by decide)) (g := (mkF m 18 #[vR a1, vR ra, vR wN, vR b352, vU, vU, vU, vU] [(.int (2 : Int32)), (.int (0 : Int32)), (.ref ra), (.ref a1), (.ref b352)])) rfl (by rw [hml]; rfl) (Steps.refl _) (a := a1) (by rw [e357]; exact q363) q363' (argsL := [(.ref ra), (.int (0 : Int32)), (.int (2 : Int32))]) (rest := [(.ref b352)]) (lenOf pd_4 rfl) rfl (by show 2 * 0 + _ ≤ _; exact Nat.le_of_eq rfl) (hb hby d4_18) (fun _ _ => ⟨rfl, e357, (by decide : 1 + 0 ≤ _), (by decide : 2 + 0 ≤ _)⟩)
  dsimp only [Pt.U, Pt.locs, Pt.cells, Pt.slots] at X363 l363 y363 z363 st363 hQ363
  subst l363 y363 z363
  obtain ⟨rfl, Nq363, hh363⟩ := hQ363
  have N363 := Fr.app N0 Nq363
  have k364 : Rch p e below S0 T363 (mkF m 21 #[vR a1, vR ra, vR wN, vR b352, vU, vU, vU, vU] [(.int r), (.ref b352)]) := fun t h => k362 t (st363.trans h)
  obtain ⟨_, _, ⟨T365, L365, kk365, n365⟩, -, X365, ⟨Lc365, hQ365, l365, y365, z365⟩, st365⟩ := Jvm.LawKit.callS X363 hx (y := (⟨"java/util/Arrays", "fill", "([II)V"⟩ : MethodName)) hown (mvT hZ (hw _ (gm 46 rfl))) (mvT hZ (hw _ (gm 47 rfl))) (mvT hZ (hw _ (gm 48 rfl))) (mvT hZ (hw _ (gm 49 rfl))) (by decide) (backOf (W := 0) (rmAF2 l Z a0 hw [] b352 r k352 h352 n0 O355 ge_b352 V_b352) hZ (hw _ (gm 49 rfl)) (hw _ (gm 48 rfl)) (by decide) (by decide)) (g := (mkF m 21 #[vR a1, vR ra, vR wN, vR b352, vU, vU, vU, vU] [(.int r), (.ref b352)])) rfl (by rw [hml]; rfl) (argsL := [(.ref b352), (.int r)]) (rest := []) (lenOf pd_7 rfl) rfl (by show 2 * 0 + _ ≤ _; exact Nat.le_of_eq rfl) (hb hby d4_21) (fun _ _ => ⟨rfl, hh363, (by decide : 1 + 0 ≤ _), (by decide : 2 + 0 ≤ _)⟩)
  dsimp only [Pt.U, Pt.locs, Pt.cells, Pt.slots] at X365 l365 y365 z365 st365 hQ365
  subst l365 y365 z365
  obtain ⟨rfl, Nq365, K365, VX365⟩ := hQ365
  have N365 := Fr.app N363 Nq365
  have k366 : Rch p e below S0 T365 (mkF m 24 #[vR a1, vR ra, vR wN, vR b352, vU, vU, vU, vU] []) := fun t h => k364 t (st365 t h)
  have O367 := O355.keep K365 (allS ge_b352 all0)
  have K368 := K356.trans K365 (allS (Or.inr sz_b352) all0)
  replace Ew := Ew.keep K365
  replace Fh := Fh.keep K365 (ninS ne_a1_b352 nin0)
  replace Fc := Fc.keep K365 (ninS ne_a1_b352 nin0)
  replace Fw := Fw.keep K365 (ninS ne_a1_b352 nin0)
  replace VH := VH.keep K365 (ninS ne_aH_b352 nin0)
  replace VA := VA.keep K365 (ninS ne_rA_b352 nin0)
  replace VB := VB.keep K365 (ninS ne_rB_b352 nin0)
  replace VR := VR.keep K365 (ninS ne_ra_b352 nin0)
  have k370 : Rch p e below S0 T365 (mkF m 63 #[vR a1, vR ra, vR wN, vR b352, vR b352, vU, vU, vU] [(.ref b352)]) := fun t h => k366 t (by
      show Steps p.tables e below (T365.setTop (mkF m 24 #[vR a1, vR ra, vR wN, vR b352, vU, vU, vU, vU] [])) _
      refine XS.goto X365.here hx rfl (pc0 := 24) (pc' := 58) rfl (hb hby d4_24) (by decide) (by decide) ?_
      refine XS.aloadN X365.here hx rfl (hb hby d4_58) rfl rfl ?_
      refine XS.astore X365.here hx rfl (hb hby d4_59) rfl rfl (l' := #[vR a1, vR ra, vR wN, vR b352, vR b352, vU, vU, vU]) rfl ?_
      refine XS.aload X365.here hx rfl (hb hby d4_61) rfl rfl ?_
      exact h)
  obtain ⟨cl369, Ar369, q369, Sz369, Ng369, Hs369, G369⟩ := id VX365
  have k372 : Rch p e below S0 T365 (mkF m 80 #[vR a1, vR ra, vR wN, vR b352, vR b352, vI 2, vI 0, vU] [(.int (0 : Int32)), (.ref b352)]) := fun t h => k370 t (by
      show Steps p.tables e below (T365.setTop (mkF m 63 #[vR a1, vR ra, vR wN, vR b352, vR b352, vU, vU, vU] [(.ref b352)])) _
      refine X365.arraylength hx (by exact Ar369.1) (State.isArrayOf_alike hZ.alike Ar369.2.1) (g := (mkF m 63 #[vR a1, vR ra, vR wN, vR b352, vR b352, vU, vU, vU] [(.ref b352)])) rfl rfl (hb hby d4_63) _ ?_
      rw [len_of Sz369 Ng369]
      refine XS.istore X365.here hx rfl (hb hby d4_64) rfl (l' := #[vR a1, vR ra, vR wN, vR b352, vR b352, vI 2, vU, vU]) rfl ?_
      refine XS.iconst X365.here hx rfl (hb hby d4_66) ?_
      refine XS.istore X365.here hx rfl (hb hby d4_67) rfl (l' := #[vR a1, vR ra, vR wN, vR b352, vR b352, vI 2, vI 0, vU]) rfl ?_
      refine XS.iload X365.here hx rfl (hb hby d4_69) rfl ?_
      refine XS.iload X365.here hx rfl (hb hby d4_71) rfl ?_
      refine XS.icmpNo X365.here hx rfl (hb hby d4_73) rfl (tlt (by decide : (0 : Int32) < (2 : Int32))).2.1 ?_
      refine XS.aload X365.here hx rfl (hb hby d4_76) rfl rfl ?_
      refine XS.iload X365.here hx rfl (hb hby d4_78) rfl ?_
      exact h)
  obtain ⟨cl371, Ar371, q371, Sz371, Ng371, Hs371, G371⟩ := id VX365
  have hin371 : ¬ ((0 : Int32) < 0 ∨ cl371.slots.size ≤ ((0 : Int32)).toNatClampNeg) := inb_of Sz371 ⟨by decide, by decide⟩
  have hat371 : cl371.slots[((0 : Int32)).toNatClampNeg]? = some (.int r) := Hs371.at hin371 (rfl)
  have k374 : Rch p e below S0 T365 (mkF m 80 #[vR a1, vR ra, vR wN, vR b352, vR b352, vI 2, vI 1, vI r] [(.int (1 : Int32)), (.ref b352)]) := fun t h => k372 t (by
      show Steps p.tables e below (T365.setTop (mkF m 80 #[vR a1, vR ra, vR wN, vR b352, vR b352, vI 2, vI 0, vU] [(.int (0 : Int32)), (.ref b352)])) _
      refine X365.iaload hx (j := (0 : Int32)) (v := (.int r)) (by exact Ar371.1) (State.isArrayOf_alike hZ.alike Ar371.2.1) Ar371.2.2 hin371 hat371 (g := (mkF m 80 #[vR a1, vR ra, vR wN, vR b352, vR b352, vI 2, vI 0, vU] [(.int (0 : Int32)), (.ref b352)])) rfl rfl (hb hby d4_80) _ ?_
      refine XS.istore X365.here hx rfl (hb hby d4_81) rfl (l' := #[vR a1, vR ra, vR wN, vR b352, vR b352, vI 2, vI 0, vI r]) rfl ?_
      refine XS.iload X365.here hx rfl (hb hby d4_83) rfl ?_
      refine XS.ifYes X365.here hx rfl (pc0 := 85) (pc' := 90) rfl (hb hby d4_85) rfl ((if0 _ _).trans (flt ((own_nn hN) : ¬ (r < (0 : Int32)))).2.1) (by decide) (by decide) ?_
      show Steps p.tables e below (T365.setTop (mkF m 90 #[vR a1, vR ra, vR wN, vR b352, vR b352, vI 2, vI 0, vI r] [])) _
      refine XS.iinc X365.here hx rfl (hb hby d4_90) rfl (l' := #[vR a1, vR ra, vR wN, vR b352, vR b352, vI 2, vI ((0 : Int32) + (1 : Int32)), vI r]) rfl ?_
      rw [(by decide : ((0 : Int32) + (1 : Int32)) = (1 : Int32))]
      refine XS.goto X365.here hx rfl (pc0 := 93) (pc' := 69) rfl (hb hby d4_93) (by decide) (by decide) ?_
      refine XS.iload X365.here hx rfl (hb hby d4_69) rfl ?_
      refine XS.iload X365.here hx rfl (hb hby d4_71) rfl ?_
      refine XS.icmpNo X365.here hx rfl (hb hby d4_73) rfl (tlt (by decide : (1 : Int32) < (2 : Int32))).2.1 ?_
      refine XS.aload X365.here hx rfl (hb hby d4_76) rfl rfl ?_
      refine XS.iload X365.here hx rfl (hb hby d4_78) rfl ?_
      exact h)
  obtain ⟨cl373, Ar373, q373, Sz373, Ng373, Hs373, G373⟩ := id VX365
  have hin373 : ¬ ((1 : Int32) < 0 ∨ cl373.slots.size ≤ ((1 : Int32)).toNatClampNeg) := inb_of Sz373 ⟨by decide, by decide⟩
  have hat373 : cl373.slots[((1 : Int32)).toNatClampNeg]? = some (.int r) := Hs373.at hin373 (rfl)
  have k376 : Rch p e below S0 T365 (mkF m 102 #[vR a1, vR ra, vR wN, vR b352, vI 0, vI 2, vI 2, vI r] [(.ref ra), (.int (0 : Int32))]) := fun t h => k374 t (by
      show Steps p.tables e below (T365.setTop (mkF m 80 #[vR a1, vR ra, vR wN, vR b352, vR b352, vI 2, vI 1, vI r] [(.int (1 : Int32)), (.ref b352)])) _
      refine X365.iaload hx (j := (1 : Int32)) (v := (.int r)) (by exact Ar373.1) (State.isArrayOf_alike hZ.alike Ar373.2.1) Ar373.2.2 hin373 hat373 (g := (mkF m 80 #[vR a1, vR ra, vR wN, vR b352, vR b352, vI 2, vI 1, vI r] [(.int (1 : Int32)), (.ref b352)])) rfl rfl (hb hby d4_80) _ ?_
      refine XS.istore X365.here hx rfl (hb hby d4_81) rfl (l' := #[vR a1, vR ra, vR wN, vR b352, vR b352, vI 2, vI 1, vI r]) rfl ?_
      refine XS.iload X365.here hx rfl (hb hby d4_83) rfl ?_
      refine XS.ifYes X365.here hx rfl (pc0 := 85) (pc' := 90) rfl (hb hby d4_85) rfl ((if0 _ _).trans (flt ((own_nn hN) : ¬ (r < (0 : Int32)))).2.1) (by decide) (by decide) ?_
      show Steps p.tables e below (T365.setTop (mkF m 90 #[vR a1, vR ra, vR wN, vR b352, vR b352, vI 2, vI 1, vI r] [])) _
      refine XS.iinc X365.here hx rfl (hb hby d4_90) rfl (l' := #[vR a1, vR ra, vR wN, vR b352, vR b352, vI 2, vI ((1 : Int32) + (1 : Int32)), vI r]) rfl ?_
      rw [(by decide : ((1 : Int32) + (1 : Int32)) = (2 : Int32))]
      refine XS.goto X365.here hx rfl (pc0 := 93) (pc' := 69) rfl (hb hby d4_93) (by decide) (by decide) ?_
      refine XS.iload X365.here hx rfl (hb hby d4_69) rfl ?_
      refine XS.iload X365.here hx rfl (hb hby d4_71) rfl ?_
      refine XS.icmpYes X365.here hx rfl (pc0 := 73) (pc' := 96) rfl (hb hby d4_73) rfl (flt (by decide : ¬ ((2 : Int32) < (2 : Int32)))).2.1 (by decide) (by decide) ?_
      refine XS.iconst X365.here hx rfl (hb hby d4_96) ?_
      refine XS.istore X365.here hx rfl (hb hby d4_97) rfl (l' := #[vR a1, vR ra, vR wN, vR b352, vI 0, vI 2, vI 2, vI r]) rfl ?_
      refine XS.iload X365.here hx rfl (hb hby d4_99) rfl ?_
      refine XS.aloadN X365.here hx rfl (hb hby d4_101) rfl rfl ?_
      exact h)
  obtain ⟨cl375, Ar375, q375, Sz375, Ng375, Hs375, G375⟩ := id VR
  have k378 : Rch p e below S0 T365 (mkF m 110 #[vR a1, vR ra, vR wN, vR b352, vI 0, vI 2, vI 2, vI r] [(.int (0 : Int32)), (.ref ra), (.ref a1)]) := fun t h => k376 t (by
      show Steps p.tables e below (T365.setTop (mkF m 102 #[vR a1, vR ra, vR wN, vR b352, vI 0, vI 2, vI 2, vI r] [(.ref ra), (.int (0 : Int32))])) _
      refine X365.arraylength hx (by exact Ar375.1) (State.isArrayOf_alike hZ.alike Ar375.2.1) (g := (mkF m 102 #[vR a1, vR ra, vR wN, vR b352, vI 0, vI 2, vI 2, vI r] [(.ref ra), (.int (0 : Int32))])) rfl rfl (hb hby d4_102) _ ?_
      rw [len_of Sz375 Ng375]
      refine XS.icmpNo X365.here hx rfl (hb hby d4_103) rfl (tlt (by decide : (0 : Int32) < (2 : Int32))).2.1 ?_
      refine XS.aloadN X365.here hx rfl (hb hby d4_106) rfl rfl ?_
      refine XS.aloadN X365.here hx rfl (hb hby d4_107) rfl rfl ?_
      refine XS.iload X365.here hx rfl (hb hby d4_108) rfl ?_
      exact h)
  obtain ⟨cl377, Ar377, q377, Sz377, Ng377, Hs377, G377⟩ := id VR
  have hin377 : ¬ ((0 : Int32) < 0 ∨ cl377.slots.size ≤ ((0 : Int32)).toNatClampNeg) := inb_of Sz377 ⟨by decide, by decide⟩
  have hat377 : cl377.slots[((0 : Int32)).toNatClampNeg]? = some (.int (0 : Int32)) := Hs377.at hin377 (rfl)
  have k380 : Rch p e below S0 T365 (mkF m 114 #[vR a1, vR ra, vR wN, vR b352, vI 0, vI 2, vI 2, vI r] [(.int (0 : Int32)), (.ref b352), (.int (0 : Int32)), (.ref a1)]) := fun t h => k378 t (by
      show Steps p.tables e below (T365.setTop (mkF m 110 #[vR a1, vR ra, vR wN, vR b352, vI 0, vI 2, vI 2, vI r] [(.int (0 : Int32)), (.ref ra), (.ref a1)])) _
      refine X365.iaload hx (j := (0 : Int32)) (v := (.int (0 : Int32))) (by exact Ar377.1) (State.isArrayOf_alike hZ.alike Ar377.2.1) Ar377.2.2 hin377 hat377 (g := (mkF m 110 #[vR a1, vR ra, vR wN, vR b352, vI 0, vI 2, vI 2, vI r] [(.int (0 : Int32)), (.ref ra), (.ref a1)])) rfl rfl (hb hby d4_110) _ ?_
      refine XS.aloadN X365.here hx rfl (hb hby d4_111) rfl rfl ?_
      refine XS.iload X365.here hx rfl (hb hby d4_112) rfl ?_
      exact h)
  obtain ⟨cl379, Ar379, q379, Sz379, Ng379, Hs379, G379⟩ := id VX365
  have hin379 : ¬ ((0 : Int32) < 0 ∨ cl379.slots.size ≤ ((0 : Int32)).toNatClampNeg) := inb_of Sz379 ⟨by decide, by decide⟩
  have hat379 : cl379.slots[((0 : Int32)).toNatClampNeg]? = some (.int r) := Hs379.at hin379 (rfl)
  have k381 : Rch p e below S0 T365 (mkF m 118 #[vR a1, vR ra, vR wN, vR b352, vI 0, vI 2, vI 2, vI r] [(.int (0 : Int32)), (.int (0 : Int32)), (.ref a1)]) := fun t h => k380 t (by
      show Steps p.tables e below (T365.setTop (mkF m 114 #[vR a1, vR ra, vR wN, vR b352, vI 0, vI 2, vI 2, vI r] [(.int (0 : Int32)), (.ref b352), (.int (0 : Int32)), (.ref a1)])) _
      refine X365.iaload hx (j := (0 : Int32)) (v := (.int r)) (by exact Ar379.1) (State.isArrayOf_alike hZ.alike Ar379.2.1) Ar379.2.2 hin379 hat379 (g := (mkF m 114 #[vR a1, vR ra, vR wN, vR b352, vI 0, vI 2, vI 2, vI r] [(.int (0 : Int32)), (.ref b352), (.int (0 : Int32)), (.ref a1)])) rfl rfl (hb hby d4_114) _ ?_
      refine XS.bipush X365.here hx rfl (hb hby d4_115) ?_
      show Steps p.tables e below (T365.setTop (mkF m 117 #[vR a1, vR ra, vR wN, vR b352, vI 0, vI 2, vI 2, vI r] [(.int (64 : Int32)), (.int r), (.int (0 : Int32)), (.ref a1)])) _
      refine XS.idiv X365.here hx rfl (hb hby d4_117) rfl (by decide) ?_
      rw [own_d64 hN]
      exact h)
  obtain ⟨cq382, q382, q382'⟩ := Ew.cell
  obtain ⟨_, _, ⟨T382, L382, kk382, n382⟩, -, X382, ⟨Lc382, hQ382, l382, y382, z382⟩, st382⟩ := X365.privateBack hx (y := (⟨"com/example/lumenplan/lumenplan/simulation/Wavelengths", "reaching", "(II)[J"⟩ : MethodName)) hown (mvT hZ (hw _ (gm 50 rfl))) (mvT hZ (hw _ (gm 51 rfl))) (mvT hZ (own_selects (hw _ (gm 6 rfl)) (hw _ (gm 51 rfl)) (hw _ (gm 52 rfl)) (by decide))) (Cond.privateMethod_at (mvP hZ (hw _ (gm 52 rfl)) (args := #[]))) (mvT hZ (hw _ (gm 53 rfl))) (by decide) (backOf (W := 0) (rmR_A l Z a0 hw []  a1 aH rA rB kH kL cn wd u vv T365.heap n0 O367 Fh VH VA VB) hZ (hw _ (gm 53 rfl)) (hw _ (gm 7 rfl)) (by decide) (by decide)) (g := (mkF m 118 #[vR a1, vR ra, vR wN, vR b352, vI 0, vI 2, vI 2, vI r] [(.int (0 : Int32)), (.int (0 : Int32)), (.ref a1)])) rfl (by rw [hml]; rfl) (Steps.refl _) (a := a1) (by exact q382) q382' (argsL := [(.int (0 : Int32)), (.int (0 : Int32))]) (rest := []) (lenOf pd_8 rfl) rfl (by show 2 * 0 + _ ≤ _; exact Nat.le_of_eq rfl) (hb hby d4_118) (fun _ _ => ⟨rfl, rfl, (by decide : 1 + 0 ≤ _), (by decide : 2 + 0 ≤ _)⟩)
  dsimp only [Pt.U, Pt.locs, Pt.cells, Pt.slots] at X382 l382 y382 z382 st382 hQ382
  subst l382 y382 z382
  obtain ⟨rfl, Nq382, hh382⟩ := hQ382
  have N382 := Fr.app N365 Nq382
  have k383 : Rch p e below S0 T382 (mkF m 121 #[vR a1, vR ra, vR wN, vR b352, vI 0, vI 2, vI 2, vI r] [(.ref rA)]) := fun t h => k381 t (st382.trans h)
  have k385 : Rch p e below S0 T382 (mkF m 128 #[vR a1, vR ra, vR wN, vR b352, vI 0, vR rA, vI 2, vI r] [(.int (0 : Int32)), (.ref b352), (.ref rA)]) := fun t h => k383 t (by
      show Steps p.tables e below (T382.setTop (mkF m 121 #[vR a1, vR ra, vR wN, vR b352, vI 0, vI 2, vI 2, vI r] [(.ref rA)])) _
      refine XS.astore X382.here hx rfl (hb hby d4_121) rfl rfl (l' := #[vR a1, vR ra, vR wN, vR b352, vI 0, vR rA, vI 2, vI r]) rfl ?_
      show Steps p.tables e below (T382.setTop (mkF m 123 #[vR a1, vR ra, vR wN, vR b352, vI 0, vR rA, vI 2, vI r] [])) _
      refine XS.aload X382.here hx rfl (hb hby d4_123) rfl rfl ?_
      refine XS.aloadN X382.here hx rfl (hb hby d4_125) rfl rfl ?_
      refine XS.iload X382.here hx rfl (hb hby d4_126) rfl ?_
      exact h)
  obtain ⟨cl384, Ar384, q384, Sz384, Ng384, Hs384, G384⟩ := id VX365
  have hin384 : ¬ ((0 : Int32) < 0 ∨ cl384.slots.size ≤ ((0 : Int32)).toNatClampNeg) := inb_of Sz384 ⟨by decide, by decide⟩
  have hat384 : cl384.slots[((0 : Int32)).toNatClampNeg]? = some (.int r) := Hs384.at hin384 (rfl)
  have k387 : Rch p e below S0 T382 (mkF m 133 #[vR a1, vR ra, vR wN, vR b352, vI 0, vR rA, vI 2, vI r] [(.int (0 : Int32)), (.ref rA), (.int (0 : Int32)), (.ref rA)]) := fun t h => k385 t (by
      show Steps p.tables e below (T382.setTop (mkF m 128 #[vR a1, vR ra, vR wN, vR b352, vI 0, vR rA, vI 2, vI r] [(.int (0 : Int32)), (.ref b352), (.ref rA)])) _
      refine X382.iaload hx (j := (0 : Int32)) (v := (.int r)) (by rw [hh382]; exact Ar384.1) (State.isArrayOf_alike hZ.alike Ar384.2.1) Ar384.2.2 hin384 hat384 (g := (mkF m 128 #[vR a1, vR ra, vR wN, vR b352, vI 0, vR rA, vI 2, vI r] [(.int (0 : Int32)), (.ref b352), (.ref rA)])) rfl rfl (hb hby d4_128) _ ?_
      refine XS.bipush X382.here hx rfl (hb hby d4_129) ?_
      show Steps p.tables e below (T382.setTop (mkF m 131 #[vR a1, vR ra, vR wN, vR b352, vI 0, vR rA, vI 2, vI r] [(.int (64 : Int32)), (.int r), (.ref rA)])) _
      refine XS.idiv X382.here hx rfl (hb hby d4_131) rfl (by decide) ?_
      rw [own_d64 hN]
      refine XT.dup2 X382.here hx rfl (hb hby d4_132) rfl rfl rfl ?_
      exact h)
  obtain ⟨cl386, Ar386, q386, Sz386, Ng386, Hs386, G386⟩ := id VA
  have hin386 : ¬ ((0 : Int32) < 0 ∨ cl386.slots.size ≤ ((0 : Int32)).toNatClampNeg) := inb_of Sz386 ⟨by decide, by decide⟩
  have hat386 : cl386.slots[((0 : Int32)).toNatClampNeg]? = some (.long u) := Hs386.at hin386 (rfl)
  have k389 : Rch p e below S0 T382 (mkF m 138 #[vR a1, vR ra, vR wN, vR b352, vI 0, vR rA, vI 2, vI r] [(.int (0 : Int32)), (.ref b352), (.long (1 : Int64)), (.long u), (.int (0 : Int32)), (.ref rA)]) := fun t h => k387 t (by
      show Steps p.tables e below (T382.setTop (mkF m 133 #[vR a1, vR ra, vR wN, vR b352, vI 0, vR rA, vI 2, vI r] [(.int (0 : Int32)), (.ref rA), (.int (0 : Int32)), (.ref rA)])) _
      refine X382.laload hx (j := (0 : Int32)) (v := (.long u)) (by rw [hh382]; exact Ar386.1) (State.isArrayOf_alike hZ.alike Ar386.2.1) Ar386.2.2 hin386 hat386 (g := (mkF m 133 #[vR a1, vR ra, vR wN, vR b352, vI 0, vR rA, vI 2, vI r] [(.int (0 : Int32)), (.ref rA), (.int (0 : Int32)), (.ref rA)])) rfl rfl (hb hby d4_133) _ ?_
      refine XS.lconst X382.here hx rfl (hb hby d4_134) ?_
      refine XS.aloadN X382.here hx rfl (hb hby d4_135) rfl rfl ?_
      refine XS.iload X382.here hx rfl (hb hby d4_136) rfl ?_
      exact h)
  obtain ⟨cl388, Ar388, q388, Sz388, Ng388, Hs388, G388⟩ := id VX365
  have hin388 : ¬ ((0 : Int32) < 0 ∨ cl388.slots.size ≤ ((0 : Int32)).toNatClampNeg) := inb_of Sz388 ⟨by decide, by decide⟩
  have hat388 : cl388.slots[((0 : Int32)).toNatClampNeg]? = some (.int r) := Hs388.at hin388 (rfl)
  have k391 : Rch p e below S0 T382 (mkF m 141 #[vR a1, vR ra, vR wN, vR b352, vI 0, vR rA, vI 2, vI r] [(.long (u ||| ((1 : Int64) <<< (r &&& 0x3f).toInt64))), (.int (0 : Int32)), (.ref rA)]) := fun t h => k389 t (by
      show Steps p.tables e below (T382.setTop (mkF m 138 #[vR a1, vR ra, vR wN, vR b352, vI 0, vR rA, vI 2, vI r] [(.int (0 : Int32)), (.ref b352), (.long (1 : Int64)), (.long u), (.int (0 : Int32)), (.ref rA)])) _
      refine X382.iaload hx (j := (0 : Int32)) (v := (.int r)) (by rw [hh382]; exact Ar388.1) (State.isArrayOf_alike hZ.alike Ar388.2.1) Ar388.2.2 hin388 hat388 (g := (mkF m 138 #[vR a1, vR ra, vR wN, vR b352, vI 0, vR rA, vI 2, vI r] [(.int (0 : Int32)), (.ref b352), (.long (1 : Int64)), (.long u), (.int (0 : Int32)), (.ref rA)])) rfl rfl (hb hby d4_138) _ ?_
      refine XS.lshl X382.here hx rfl (hb hby d4_139) rfl ?_
      refine XS.lor X382.here hx rfl (hb hby d4_140) rfl ?_
      exact h)
  obtain ⟨cl390, Ar390, q390, Sz390, Ng390, Hs390, G390⟩ := id VA
  have hin390 : ¬ ((0 : Int32) < 0 ∨ cl390.slots.size ≤ ((0 : Int32)).toNatClampNeg) := inb_of Sz390 ⟨by decide, by decide⟩
  obtain ⟨T390, h390, X390, e390, W390, st390⟩ := stJ X382 hx hZ hh382 Ar390 (j := (0 : Int32)) hin390 (g := (mkF m 141 #[vR a1, vR ra, vR wN, vR b352, vI 0, vR rA, vI 2, vI r] [(.long (u ||| ((1 : Int64) <<< (r &&& 0x3f).toInt64))), (.int (0 : Int32)), (.ref rA)])) rfl rfl (hb hby d4_141)
  have k392 : Rch p e below S0 T390 (mkF m 142 #[vR a1, vR ra, vR wN, vR b352, vI 0, vR rA, vI 2, vI r] []) := fun t h => k391 t (st390 t h)
  have N390 := Fr.snoc X390 N382 ge_rA
  have VA' := Arv.set Ar390 q390 Sz390 Ng390 Hs390 G390 rfl W390 0 rfl (Nat.le_of_ble_eq_true rfl)
  replace VA : Arv Z h390 rA kL .long (1 : Int32) [(.long (u ||| ((1 : Int64) <<< (r &&& 0x3f).toInt64)))] (.long (0 : Int64)) := VA'
  have O393 := O367.wr W390 ge_rA
  have K394 := K368.wr W390 (Or.inl (gm 0 rfl))
  replace Ew := Ew.wr W390
  replace Fh := Fh.other W390 (Or.inl ne_a1_rA)
  replace Fc := Fc.other W390 (Or.inl ne_a1_rA)
  replace Fw := Fw.other W390 (Or.inl ne_a1_rA)
  replace VH := VH.other W390 ne_aH_rA
  replace VB := VB.other W390 (Ne.symm ne_rA_rB)
  replace VR := VR.other W390 ne_ra_rA
  replace VX365 := VX365.other W390 (Ne.symm ne_rA_b352)
  have k396 : Rch p e below S0 T390 (mkF m 102 #[vR a1, vR ra, vR wN, vR b352, vI 1, vR rA, vI 2, vI r] [(.ref ra), (.int (1 : Int32))]) := fun t h => k392 t (by
      show Steps p.tables e below (T390.setTop (mkF m 142 #[vR a1, vR ra, vR wN, vR b352, vI 0, vR rA, vI 2, vI r] [])) _
      refine XS.iinc X390.here hx rfl (hb hby d4_142) rfl (l' := #[vR a1, vR ra, vR wN, vR b352, vI ((0 : Int32) + (1 : Int32)), vR rA, vI 2, vI r]) rfl ?_
      rw [(by decide : ((0 : Int32) + (1 : Int32)) = (1 : Int32))]
      refine XS.goto X390.here hx rfl (pc0 := 145) (pc' := 99) rfl (hb hby d4_145) (by decide) (by decide) ?_
      refine XS.iload X390.here hx rfl (hb hby d4_99) rfl ?_
      refine XS.aloadN X390.here hx rfl (hb hby d4_101) rfl rfl ?_
      exact h)
  obtain ⟨cl395, Ar395, q395, Sz395, Ng395, Hs395, G395⟩ := id VR
  have k398 : Rch p e below S0 T390 (mkF m 110 #[vR a1, vR ra, vR wN, vR b352, vI 1, vR rA, vI 2, vI r] [(.int (1 : Int32)), (.ref ra), (.ref a1)]) := fun t h => k396 t (by
      show Steps p.tables e below (T390.setTop (mkF m 102 #[vR a1, vR ra, vR wN, vR b352, vI 1, vR rA, vI 2, vI r] [(.ref ra), (.int (1 : Int32))])) _
      refine X390.arraylength hx (by rw [e390]; exact Ar395.1) (State.isArrayOf_alike hZ.alike Ar395.2.1) (g := (mkF m 102 #[vR a1, vR ra, vR wN, vR b352, vI 1, vR rA, vI 2, vI r] [(.ref ra), (.int (1 : Int32))])) rfl rfl (hb hby d4_102) _ ?_
      rw [len_of Sz395 Ng395]
      refine XS.icmpNo X390.here hx rfl (hb hby d4_103) rfl (tlt (by decide : (1 : Int32) < (2 : Int32))).2.1 ?_
      refine XS.aloadN X390.here hx rfl (hb hby d4_106) rfl rfl ?_
      refine XS.aloadN X390.here hx rfl (hb hby d4_107) rfl rfl ?_
      refine XS.iload X390.here hx rfl (hb hby d4_108) rfl ?_
      exact h)
  obtain ⟨cl397, Ar397, q397, Sz397, Ng397, Hs397, G397⟩ := id VR
  have hin397 : ¬ ((1 : Int32) < 0 ∨ cl397.slots.size ≤ ((1 : Int32)).toNatClampNeg) := inb_of Sz397 ⟨by decide, by decide⟩
  have hat397 : cl397.slots[((1 : Int32)).toNatClampNeg]? = some (.int (1 : Int32)) := Hs397.at hin397 (rfl)
  have k400 : Rch p e below S0 T390 (mkF m 114 #[vR a1, vR ra, vR wN, vR b352, vI 1, vR rA, vI 2, vI r] [(.int (1 : Int32)), (.ref b352), (.int (1 : Int32)), (.ref a1)]) := fun t h => k398 t (by
      show Steps p.tables e below (T390.setTop (mkF m 110 #[vR a1, vR ra, vR wN, vR b352, vI 1, vR rA, vI 2, vI r] [(.int (1 : Int32)), (.ref ra), (.ref a1)])) _
      refine X390.iaload hx (j := (1 : Int32)) (v := (.int (1 : Int32))) (by rw [e390]; exact Ar397.1) (State.isArrayOf_alike hZ.alike Ar397.2.1) Ar397.2.2 hin397 hat397 (g := (mkF m 110 #[vR a1, vR ra, vR wN, vR b352, vI 1, vR rA, vI 2, vI r] [(.int (1 : Int32)), (.ref ra), (.ref a1)])) rfl rfl (hb hby d4_110) _ ?_
      refine XS.aloadN X390.here hx rfl (hb hby d4_111) rfl rfl ?_
      refine XS.iload X390.here hx rfl (hb hby d4_112) rfl ?_
      exact h)
  obtain ⟨cl399, Ar399, q399, Sz399, Ng399, Hs399, G399⟩ := id VX365
  have hin399 : ¬ ((1 : Int32) < 0 ∨ cl399.slots.size ≤ ((1 : Int32)).toNatClampNeg) := inb_of Sz399 ⟨by decide, by decide⟩
  have hat399 : cl399.slots[((1 : Int32)).toNatClampNeg]? = some (.int r) := Hs399.at hin399 (rfl)
  have k401 : Rch p e below S0 T390 (mkF m 118 #[vR a1, vR ra, vR wN, vR b352, vI 1, vR rA, vI 2, vI r] [(.int (0 : Int32)), (.int (1 : Int32)), (.ref a1)]) := fun t h => k400 t (by
      show Steps p.tables e below (T390.setTop (mkF m 114 #[vR a1, vR ra, vR wN, vR b352, vI 1, vR rA, vI 2, vI r] [(.int (1 : Int32)), (.ref b352), (.int (1 : Int32)), (.ref a1)])) _
      refine X390.iaload hx (j := (1 : Int32)) (v := (.int r)) (by rw [e390]; exact Ar399.1) (State.isArrayOf_alike hZ.alike Ar399.2.1) Ar399.2.2 hin399 hat399 (g := (mkF m 114 #[vR a1, vR ra, vR wN, vR b352, vI 1, vR rA, vI 2, vI r] [(.int (1 : Int32)), (.ref b352), (.int (1 : Int32)), (.ref a1)])) rfl rfl (hb hby d4_114) _ ?_
      refine XS.bipush X390.here hx rfl (hb hby d4_115) ?_
      show Steps p.tables e below (T390.setTop (mkF m 117 #[vR a1, vR ra, vR wN, vR b352, vI 1, vR rA, vI 2, vI r] [(.int (64 : Int32)), (.int r), (.int (1 : Int32)), (.ref a1)])) _
      refine XS.idiv X390.here hx rfl (hb hby d4_117) rfl (by decide) ?_
      rw [own_d64 hN]
      exact h)
  obtain ⟨cq402, q402, q402'⟩ := Ew.cell
  obtain ⟨_, _, ⟨T402, L402, kk402, n402⟩, -, X402, ⟨Lc402, hQ402, l402, y402, z402⟩, st402⟩ := X390.privateBack hx (y := (⟨"com/example/lumenplan/lumenplan/simulation/Wavelengths", "reaching", "(II)[J"⟩ : MethodName)) hown (mvT hZ (hw _ (gm 50 rfl))) (mvT hZ (hw _ (gm 51 rfl))) (mvT hZ (own_selects (hw _ (gm 6 rfl)) (hw _ (gm 51 rfl)) (hw _ (gm 52 rfl)) (by decide))) (Cond.privateMethod_at (mvP hZ (hw _ (gm 52 rfl)) (args := #[]))) (mvT hZ (hw _ (gm 53 rfl))) (by decide) (backOf (W := 0) (rmR_B l Z a0 hw []  a1 aH rA rB kH kL cn wd (u ||| ((1 : Int64) <<< (r &&& 0x3f).toInt64)) vv h390 n0 O393 Fh VH VA VB) hZ (hw _ (gm 53 rfl)) (hw _ (gm 7 rfl)) (by decide) (by decide)) (g := (mkF m 118 #[vR a1, vR ra, vR wN, vR b352, vI 1, vR rA, vI 2, vI r] [(.int (0 : Int32)), (.int (1 : Int32)), (.ref a1)])) rfl (by rw [hml]; rfl) (Steps.refl _) (a := a1) (by rw [e390]; exact q402) q402' (argsL := [(.int (1 : Int32)), (.int (0 : Int32))]) (rest := []) (lenOf pd_8 rfl) rfl (by show 2 * 0 + _ ≤ _; exact Nat.le_of_eq rfl) (hb hby d4_118) (fun _ _ => ⟨rfl, e390, (by decide : 1 + 0 ≤ _), (by decide : 2 + 0 ≤ _)⟩)
  dsimp only [Pt.U, Pt.locs, Pt.cells, Pt.slots] at X402 l402 y402 z402 st402 hQ402
  subst l402 y402 z402
  obtain ⟨rfl, Nq402, hh402⟩ := hQ402
  have N402 := Fr.app N390 Nq402
  have k403 : Rch p e below S0 T402 (mkF m 121 #[vR a1, vR ra, vR wN, vR b352, vI 1, vR rA, vI 2, vI r] [(.ref rB)]) := fun t h => k401 t (st402.trans h)
  have k405 : Rch p e below S0 T402 (mkF m 128 #[vR a1, vR ra, vR wN, vR b352, vI 1, vR rB, vI 2, vI r] [(.int (1 : Int32)), (.ref b352), (.ref rB)]) := fun t h => k403 t (by
      show Steps p.tables e below (T402.setTop (mkF m 121 #[vR a1, vR ra, vR wN, vR b352, vI 1, vR rA, vI 2, vI r] [(.ref rB)])) _
      refine XS.astore X402.here hx rfl (hb hby d4_121) rfl rfl (l' := #[vR a1, vR ra, vR wN, vR b352, vI 1, vR rB, vI 2, vI r]) rfl ?_
      refine XS.aload X402.here hx rfl (hb hby d4_123) rfl rfl ?_
      refine XS.aloadN X402.here hx rfl (hb hby d4_125) rfl rfl ?_
      refine XS.iload X402.here hx rfl (hb hby d4_126) rfl ?_
      exact h)
  obtain ⟨cl404, Ar404, q404, Sz404, Ng404, Hs404, G404⟩ := id VX365
  have hin404 : ¬ ((1 : Int32) < 0 ∨ cl404.slots.size ≤ ((1 : Int32)).toNatClampNeg) := inb_of Sz404 ⟨by decide, by decide⟩
  have hat404 : cl404.slots[((1 : Int32)).toNatClampNeg]? = some (.int r) := Hs404.at hin404 (rfl)
  have k407 : Rch p e below S0 T402 (mkF m 133 #[vR a1, vR ra, vR wN, vR b352, vI 1, vR rB, vI 2, vI r] [(.int (0 : Int32)), (.ref rB), (.int (0 : Int32)), (.ref rB)]) := fun t h => k405 t (by
      show Steps p.tables e below (T402.setTop (mkF m 128 #[vR a1, vR ra, vR wN, vR b352, vI 1, vR rB, vI 2, vI r] [(.int (1 : Int32)), (.ref b352), (.ref rB)])) _
      refine X402.iaload hx (j := (1 : Int32)) (v := (.int r)) (by rw [hh402]; exact Ar404.1) (State.isArrayOf_alike hZ.alike Ar404.2.1) Ar404.2.2 hin404 hat404 (g := (mkF m 128 #[vR a1, vR ra, vR wN, vR b352, vI 1, vR rB, vI 2, vI r] [(.int (1 : Int32)), (.ref b352), (.ref rB)])) rfl rfl (hb hby d4_128) _ ?_
      refine XS.bipush X402.here hx rfl (hb hby d4_129) ?_
      show Steps p.tables e below (T402.setTop (mkF m 131 #[vR a1, vR ra, vR wN, vR b352, vI 1, vR rB, vI 2, vI r] [(.int (64 : Int32)), (.int r), (.ref rB)])) _
      refine XS.idiv X402.here hx rfl (hb hby d4_131) rfl (by decide) ?_
      rw [own_d64 hN]
      refine XT.dup2 X402.here hx rfl (hb hby d4_132) rfl rfl rfl ?_
      exact h)
  obtain ⟨cl406, Ar406, q406, Sz406, Ng406, Hs406, G406⟩ := id VB
  have hin406 : ¬ ((0 : Int32) < 0 ∨ cl406.slots.size ≤ ((0 : Int32)).toNatClampNeg) := inb_of Sz406 ⟨by decide, by decide⟩
  have hat406 : cl406.slots[((0 : Int32)).toNatClampNeg]? = some (.long vv) := Hs406.at hin406 (rfl)
  have k409 : Rch p e below S0 T402 (mkF m 138 #[vR a1, vR ra, vR wN, vR b352, vI 1, vR rB, vI 2, vI r] [(.int (1 : Int32)), (.ref b352), (.long (1 : Int64)), (.long vv), (.int (0 : Int32)), (.ref rB)]) := fun t h => k407 t (by
      show Steps p.tables e below (T402.setTop (mkF m 133 #[vR a1, vR ra, vR wN, vR b352, vI 1, vR rB, vI 2, vI r] [(.int (0 : Int32)), (.ref rB), (.int (0 : Int32)), (.ref rB)])) _
      refine X402.laload hx (j := (0 : Int32)) (v := (.long vv)) (by rw [hh402]; exact Ar406.1) (State.isArrayOf_alike hZ.alike Ar406.2.1) Ar406.2.2 hin406 hat406 (g := (mkF m 133 #[vR a1, vR ra, vR wN, vR b352, vI 1, vR rB, vI 2, vI r] [(.int (0 : Int32)), (.ref rB), (.int (0 : Int32)), (.ref rB)])) rfl rfl (hb hby d4_133) _ ?_
      refine XS.lconst X402.here hx rfl (hb hby d4_134) ?_
      refine XS.aloadN X402.here hx rfl (hb hby d4_135) rfl rfl ?_
      refine XS.iload X402.here hx rfl (hb hby d4_136) rfl ?_
      exact h)
  obtain ⟨cl408, Ar408, q408, Sz408, Ng408, Hs408, G408⟩ := id VX365
  have hin408 : ¬ ((1 : Int32) < 0 ∨ cl408.slots.size ≤ ((1 : Int32)).toNatClampNeg) := inb_of Sz408 ⟨by decide, by decide⟩
  have hat408 : cl408.slots[((1 : Int32)).toNatClampNeg]? = some (.int r) := Hs408.at hin408 (rfl)
  have k411 : Rch p e below S0 T402 (mkF m 141 #[vR a1, vR ra, vR wN, vR b352, vI 1, vR rB, vI 2, vI r] [(.long (vv ||| ((1 : Int64) <<< (r &&& 0x3f).toInt64))), (.int (0 : Int32)), (.ref rB)]) := fun t h => k409 t (by
      show Steps p.tables e below (T402.setTop (mkF m 138 #[vR a1, vR ra, vR wN, vR b352, vI 1, vR rB, vI 2, vI r] [(.int (1 : Int32)), (.ref b352), (.long (1 : Int64)), (.long vv), (.int (0 : Int32)), (.ref rB)])) _
      refine X402.iaload hx (j := (1 : Int32)) (v := (.int r)) (by rw [hh402]; exact Ar408.1) (State.isArrayOf_alike hZ.alike Ar408.2.1) Ar408.2.2 hin408 hat408 (g := (mkF m 138 #[vR a1, vR ra, vR wN, vR b352, vI 1, vR rB, vI 2, vI r] [(.int (1 : Int32)), (.ref b352), (.long (1 : Int64)), (.long vv), (.int (0 : Int32)), (.ref rB)])) rfl rfl (hb hby d4_138) _ ?_
      refine XS.lshl X402.here hx rfl (hb hby d4_139) rfl ?_
      refine XS.lor X402.here hx rfl (hb hby d4_140) rfl ?_
      exact h)
  obtain ⟨cl410, Ar410, q410, Sz410, Ng410, Hs410, G410⟩ := id VB
  have hin410 : ¬ ((0 : Int32) < 0 ∨ cl410.slots.size ≤ ((0 : Int32)).toNatClampNeg) := inb_of Sz410 ⟨by decide, by decide⟩
  obtain ⟨T410, h410, X410, e410, W410, st410⟩ := stJ X402 hx hZ hh402 Ar410 (j := (0 : Int32)) hin410 (g := (mkF m 141 #[vR a1, vR ra, vR wN, vR b352, vI 1, vR rB, vI 2, vI r] [(.long (vv ||| ((1 : Int64) <<< (r &&& 0x3f).toInt64))), (.int (0 : Int32)), (.ref rB)])) rfl rfl (hb hby d4_141)
  have k412 : Rch p e below S0 T410 (mkF m 142 #[vR a1, vR ra, vR wN, vR b352, vI 1, vR rB, vI 2, vI r] []) := fun t h => k411 t (st410 t h)
  have N410 := Fr.snoc X410 N402 ge_rB
  have VB' := Arv.set Ar410 q410 Sz410 Ng410 Hs410 G410 rfl W410 0 rfl (Nat.le_of_ble_eq_true rfl)
  replace VB : Arv Z h410 rB kL .long (1 : Int32) [(.long (vv ||| ((1 : Int64) <<< (r &&& 0x3f).toInt64)))] (.long (0 : Int64)) := VB'
  have O413 := O393.wr W410 ge_rB
  have K414 := K394.wr W410 (Or.inl (gm 1 rfl))
  replace Ew := Ew.wr W410
  replace Fh := Fh.other W410 (Or.inl ne_a1_rB)
  replace Fc := Fc.other W410 (Or.inl ne_a1_rB)
  replace Fw := Fw.other W410 (Or.inl ne_a1_rB)
  replace VH := VH.other W410 ne_aH_rB
  replace VA := VA.other W410 ne_rA_rB
  replace VR := VR.other W410 ne_ra_rB
  replace VX365 := VX365.other W410 (Ne.symm ne_rB_b352)
  have k416 : Rch p e below S0 T410 (mkF m 102 #[vR a1, vR ra, vR wN, vR b352, vI 2, vR rB, vI 2, vI r] [(.ref ra), (.int (2 : Int32))]) := fun t h => k412 t (by
      show Steps p.tables e below (T410.setTop (mkF m 142 #[vR a1, vR ra, vR wN, vR b352, vI 1, vR rB, vI 2, vI r] [])) _
      refine XS.iinc X410.here hx rfl (hb hby d4_142) rfl (l' := #[vR a1, vR ra, vR wN, vR b352, vI ((1 : Int32) + (1 : Int32)), vR rB, vI 2, vI r]) rfl ?_
      rw [(by decide : ((1 : Int32) + (1 : Int32)) = (2 : Int32))]
      refine XS.goto X410.here hx rfl (pc0 := 145) (pc' := 99) rfl (hb hby d4_145) (by decide) (by decide) ?_
      refine XS.iload X410.here hx rfl (hb hby d4_99) rfl ?_
      refine XS.aloadN X410.here hx rfl (hb hby d4_101) rfl rfl ?_
      exact h)
  obtain ⟨cl415, Ar415, q415, Sz415, Ng415, Hs415, G415⟩ := id VR
  have k417 : Rch p e below S0 T410 (mkF m 149 #[vR a1, vR ra, vR wN, vR b352, vI 2, vR rB, vI 2, vI r] [(.ref b352)]) := fun t h => k416 t (by
      show Steps p.tables e below (T410.setTop (mkF m 102 #[vR a1, vR ra, vR wN, vR b352, vI 2, vR rB, vI 2, vI r] [(.ref ra), (.int (2 : Int32))])) _
      refine X410.arraylength hx (by rw [e410]; exact Ar415.1) (State.isArrayOf_alike hZ.alike Ar415.2.1) (g := (mkF m 102 #[vR a1, vR ra, vR wN, vR b352, vI 2, vR rB, vI 2, vI r] [(.ref ra), (.int (2 : Int32))])) rfl rfl (hb hby d4_102) _ ?_
      rw [len_of Sz415 Ng415]
      refine XS.icmpYes X410.here hx rfl (pc0 := 103) (pc' := 148) rfl (hb hby d4_103) rfl (flt (by decide : ¬ ((2 : Int32) < (2 : Int32)))).2.1 (by decide) (by decide) ?_
      refine XS.aloadN X410.here hx rfl (hb hby d4_148) rfl rfl ?_
      exact h)
  obtain ⟨fs, hr, hrun, hended, hW, hsame⟩ := X410.leave (v := (some (.ref b352))) (fun h => by rw [Bd.returns] at h; cases h)
  refine ⟨_, _, ?_, hrun, hended, _, _, rfl, ?_, ⟨_, rfl⟩, hW, hsame.mono (by decide) (by decide)⟩
  · rw [← hS0]
    refine k417 _ ?_
    show Steps p.tables e below (T410.setTop (mkF m 149 #[vR a1, vR ra, vR wN, vR b352, vI 2, vR rB, vI 2, vI r] [(.ref b352)])) _
    jvm_step X410.here [X410.here.top, hx, (hb hby d4_149), X410.method', Bd.returns, Value.isRef, FieldType.isReference]
    first | (intro acts; rw [hr _ acts rfl rfl rfl]) | rw [hr _ _ rfl rfl rfl]
    exact Steps.refl _
  · show Q_rmT_F Z rA rB kL u vv r h0 n0 _ T410.heap _
    rw [e410]
    exact ⟨b352, k352, rfl, N410, K414, sz_b352, VX365, VA, VB⟩
def Q_rmT_R (Z : State) (rA : Addr) (rB : Addr) (kL : ClassId) (u : Int64) (vv : Int64) (r : Int32) (h0 : Heap) (n0 : Nat) (v : Option Value) (h : Heap) (L : List Loc) : Prop := ∃ x kx, v = some (.ref x) ∧ Fr n0 L ∧ Keep h0 h [rA, rB] ∧ h0.size ≤ x ∧ Arv Z h x kx .int (2 : Int32) [(.int r), (.int r)] (.int (0 : Int32)) ∧ Arv Z h rA kL .long (1 : Int32) [(.long (u ||| ((1 : Int64) <<< (r &&& 0x3f).toInt64)))] (.long (0 : Int64)) ∧ Arv Z h rB kL .long (1 : Int32) [(.long (vv ||| ((1 : Int64) <<< (r &&& 0x3f).toInt64)))] (.long (0 : Int64))
set_option maxRecDepth 65536 in
set_option maxHeartbeats 40000000 in
theorem rmT_R (l : Launch) (Z : State) (a0 : Array Value) (hw : ∀ d ∈ tables_1, d.before a0 Z = true) (ws : List Jvm.Cond) (a1 : Addr) (aH : Addr) (rA : Addr) (rB : Addr) (kH : ClassId) (kL : ClassId) (cn : Int32) (wd : Int32) (u : Int64) (vv : Int64) (ra : Addr) (kR : ClassId) (r : Int32) (wN : Addr) (h0 : Heap) (n0 : Nat) (O0 : Old Z n0 h0) (ge_rA : n0 ≤ rA) (ge_rB : n0 ≤ rB) (Ew : Exa Z h0 a1 "com/example/lumenplan/lumenplan/simulation/Wavelengths") (Fh : Fld Z h0 a1 "com/example/lumenplan/lumenplan/simulation/Wavelengths" "held" "[[J" (.ref aH)) (VH : Arv Z h0 aH kH (.array .long) (2 : Int32) [(.ref rA), (.ref rB)] .null) (VA : Arv Z h0 rA kL .long (1 : Int32) [(.long u)] (.long (0 : Int64))) (VB : Arv Z h0 rB kL .long (1 : Int32) [(.long vv)] (.long (0 : Int64))) (Fc : Fld Z h0 a1 "com/example/lumenplan/lumenplan/simulation/Wavelengths" "count" "I" (.int cn)) (Fw : Fld Z h0 a1 "com/example/lumenplan/lumenplan/simulation/Wavelengths" "words" "I" (.int wd)) (VR : Arv Z h0 ra kR .int (2 : Int32) [(.int (1 : Int32)), (.int (0 : Int32))] (.int (0 : Int32))) (SN : Sta Z Z.heap "com/example/lumenplan/lumenplan/simulation/Conversion" "NONE" "Lcom/example/lumenplan/lumenplan/simulation/Conversion;" (.ref wN)) (hN : NT (vv ||| u) r) (hw0 : (0 : Int32) < wd) (hlt : r < cn) (ne_a1_rA : a1 ≠ rA) (ne_a1_rB : a1 ≠ rB) (ne_aH_rA : aH ≠ rA) (ne_aH_rB : aH ≠ rB) (ne_rA_rB : rA ≠ rB) (ne_ra_rA : ra ≠ rA) (ne_ra_rB : ra ≠ rB) :
    MetFree l (⟨"com/example/lumenplan/lumenplan/simulation/Wavelengths", "take", "([ILcom/example/lumenplan/lumenplan/simulation/Conversion;)[I"⟩ : MethodName) (head1 (Jvm.Cond.code (⟨"com/example/lumenplan/lumenplan/simulation/Wavelengths", "take", "([ILcom/example/lumenplan/lumenplan/simulation/Conversion;)[I"⟩ : MethodName) prog_37_method_2_code 8 (some (.array .int)) :: ws) ({ frames := 3, cells := 1, slots := 2, locals := 110 } : Room)) (fun a U => a = #[(.ref a1), (.ref ra), (.ref wN)] ∧ Z.Warmed39 U.vm ∧ U.heap = h0) (fun _ _ _ _ _ => True) (fun _ U o U' => ∃ v L, o = .returned v ∧ Q_rmT_R Z rA rB kL u vv r h0 n0 v U'.heap L ∧ FrameEnd U o U' L ({ frames := 3, cells := 1, slots := 2, locals := 110 } : Room).cells ({ frames := 3, cells := 1, slots := 2, locals := 110 } : Room).slots) := by
  refine MetFree.of_bodySF (plainFor_of_name pn_Wavelengths) hisR ?_
  intro p e s m args below meth c s₁ Bd hml0 hP hK
  obtain ⟨rfl, hZ, hh⟩ := hP
  have hx := Bd.exec
  have hby := Bd.bytes
  have hml : c.maxLocals = 8 := hml0
  have hown : s.vm.findClass "com/example/lumenplan/lumenplan/simulation/Wavelengths" = some m.cls := findClass_of_methodNamed Bd.named
  have hnm := (name_of_methodNamed Bd.named Bd.method).1
  have X0 : Stand p l e ({ frames := 3, cells := 1, slots := 2, locals := 110 } : Room) s m #[(.ref a1), (.ref ra), (.ref wN)] below meth c s₁ [] 0 0 := Stand.of_body Bd
  have e0 : s₁.heap = h0 := by rw [← hh, Bd.state]; rfl
  have N0 := Fr.nil n0
  obtain ⟨S0, hS0⟩ : ∃ z, z = s₁.setTop (entryFrame m #[(.ref a1), (.ref ra), (.ref wN)] 8) := ⟨_, rfl⟩
  have k0 : Rch p e below S0 s₁ (mkF m 0 #[vR a1, vR ra, vR wN, vU, vU, vU, vU, vU] []) := fun t kq => hS0 ▸ castTop (ef_4 m a1 ra wN) kq
  have K0 : Keep h0 h0 [rA, rB] := Keep.refl h0 _
  have k419 : Rch p e below S0 s₁ (mkF m 1 #[vR a1, vR ra, vR wN, vU, vU, vU, vU, vU] [(.ref ra)]) := fun t h => k0 t (by
      show Steps p.tables e below (s₁.setTop (mkF m 0 #[vR a1, vR ra, vR wN, vU, vU, vU, vU, vU] [])) _
      refine XS.aloadN X0.here hx rfl (hb hby d4_0) rfl rfl ?_
      exact h)
  obtain ⟨cl418, Ar418, q418, Sz418, Ng418, Hs418, G418⟩ := id VR
  have k421 : Rch p e below S0 s₁ (mkF m 2 #[vR a1, vR ra, vR wN, vU, vU, vU, vU, vU] [(.int (2 : Int32))]) := fun t h => k419 t (by
      show Steps p.tables e below (s₁.setTop (mkF m 1 #[vR a1, vR ra, vR wN, vU, vU, vU, vU, vU] [(.ref ra)])) _
      refine X0.arraylength hx (by rw [e0]; exact Ar418.1) (State.isArrayOf_alike hZ.alike Ar418.2.1) (g := (mkF m 1 #[vR a1, vR ra, vR wN, vU, vU, vU, vU, vU] [(.ref ra)])) rfl rfl (hb hby d4_1) _ ?_
      rw [len_of Sz418 Ng418]
      exact h)
  obtain ⟨T420, h420, k420, X420, e420, E420, A420, st420⟩ := newP X0 hx hZ (hw _ (gm 4 rfl)) e0 (g := (mkF m 2 #[vR a1, vR ra, vR wN, vU, vU, vU, vU, vU] [(.int (2 : Int32))])) rfl (hb hby d4_2) rfl (by decide) (cap := 2) (by decide) (by decide) (by decide) (by decide)
  obtain ⟨b420, g420⟩ : ∃ z, z = h0.size := ⟨_, rfl⟩
  rw [← g420] at A420 st420
  have k422 : Rch p e below S0 T420 (mkF m 4 #[vR a1, vR ra, vR wN, vU, vU, vU, vU, vU] [(.ref b420)]) := fun t h => k421 t (st420 t h)
  have ne_a1_b420 : a1 ≠ b420 := own_ne Ew.lt (Nat.le_of_eq g420.symm)
  have ne_aH_b420 : aH ≠ b420 := own_ne VH.lt (Nat.le_of_eq g420.symm)
  have ne_rA_b420 : rA ≠ b420 := own_ne VA.lt (Nat.le_of_eq g420.symm)
  have ne_rB_b420 : rB ≠ b420 := own_ne VB.lt (Nat.le_of_eq g420.symm)
  have ne_ra_b420 : ra ≠ b420 := own_ne VR.lt (Nat.le_of_eq g420.symm)
  have ge_b420 : n0 ≤ b420 := own_ge O0 (Nat.le_of_eq g420.symm)
  have sz_b420 : h0.size ≤ b420 := Nat.le_trans K0.1 (Nat.le_of_eq g420.symm)
  have O423 := O0.ext E420
  have K424 := K0.ext E420
  replace Ew := Ew.ext E420
  replace Fh := Fh.ext E420
  replace Fc := Fc.ext E420
  replace Fw := Fw.ext E420
  replace VH := VH.ext E420
  replace VA := VA.ext E420
  replace VB := VB.ext E420
  replace VR := VR.ext E420
  have V_b420 : Arv Z h420 b420 k420 .int (2 : Int32) [(.int (0 : Int32)), (.int (0 : Int32))] (.int (0 : Int32)) := (Arv.new A420 (by decide)).pad (pad_rep [] (.int (0 : Int32)) 2)
  have k426 : Rch p e below S0 T420 (mkF m 6 #[vR a1, vR ra, vR wN, vR b420, vU, vU, vU, vU] [(.ref wN)]) := fun t h => k422 t (by
      show Steps p.tables e below (T420.setTop (mkF m 4 #[vR a1, vR ra, vR wN, vU, vU, vU, vU, vU] [(.ref b420)])) _
      refine XS.astoreN X420.here hx rfl (hb hby d4_4) rfl rfl (l' := #[vR a1, vR ra, vR wN, vR b420, vU, vU, vU, vU]) rfl ?_
      refine XS.aloadN X420.here hx rfl (hb hby d4_5) rfl rfl ?_
      exact h)
  obtain ⟨T425, X425, e425, st425⟩ := getS2 X420 hx hZ hown (host := "") (Or.inl (hw _ (gm 32 rfl))) Via.refl e420 (SN.ext O423.2) (g := (mkF m 6 #[vR a1, vR ra, vR wN, vR b420, vU, vU, vU, vU] [(.ref wN)])) rfl (hb hby d4_6)
  have k427 : Rch p e below S0 T425 (mkF m 9 #[vR a1, vR ra, vR wN, vR b420, vU, vU, vU, vU] [(.ref wN), (.ref wN)]) := fun t h => k426 t (st425 t h)
  have k429 : Rch p e below S0 T425 (mkF m 17 #[vR a1, vR ra, vR wN, vR b420, vU, vU, vU, vU] [(.ref ra), (.int (0 : Int32)), (.ref ra), (.ref a1), (.ref b420)]) := fun t h => k427 t (by
      show Steps p.tables e below (T425.setTop (mkF m 9 #[vR a1, vR ra, vR wN, vR b420, vU, vU, vU, vU] [(.ref wN), (.ref wN)])) _
      refine Jvm.RoadKit.acmp (g := (mkF m 9 #[vR a1, vR ra, vR wN, vR b420, vU, vU, vU, vU] [(.ref wN), (.ref wN)])) X425 hx rfl rfl rfl (pc0 := 9) (pc' := 12) (same := true) rfl (hb hby d4_9) rfl (decide_eq_true rfl) (by decide) (by decide) ?_
      refine XS.aloadN X425.here hx rfl (hb hby d4_12) rfl rfl ?_
      refine XS.aloadN X425.here hx rfl (hb hby d4_13) rfl rfl ?_
      refine XS.aloadN X425.here hx rfl (hb hby d4_14) rfl rfl ?_
      refine XS.iconst X425.here hx rfl (hb hby d4_15) ?_
      refine XS.aloadN X425.here hx rfl (hb hby d4_16) rfl rfl ?_
      exact h)
  obtain ⟨cl428, Ar428, q428, Sz428, Ng428, Hs428, G428⟩ := id VR
  have k430 : Rch p e below S0 T425 (mkF m 18 #[vR a1, vR ra, vR wN, vR b420, vU, vU, vU, vU] [(.int (2 : Int32)), (.int (0 : Int32)), (.ref ra), (.ref a1), (.ref b420)]) := fun t h => k429 t (by
      show Steps p.tables e below (T425.setTop (mkF m 17 #[vR a1, vR ra, vR wN, vR b420, vU, vU, vU, vU] [(.ref ra), (.int (0 : Int32)), (.ref ra), (.ref a1), (.ref b420)])) _
      refine X425.arraylength hx (by rw [e425]; exact Ar428.1) (State.isArrayOf_alike hZ.alike Ar428.2.1) (g := (mkF m 17 #[vR a1, vR ra, vR wN, vR b420, vU, vU, vU, vU] [(.ref ra), (.int (0 : Int32)), (.ref ra), (.ref a1), (.ref b420)])) rfl rfl (hb hby d4_17) _ ?_
      rw [len_of Sz428 Ng428]
      exact h)
  obtain ⟨cq431, q431, q431'⟩ := Ew.cell
  obtain ⟨_, _, ⟨T431, L431, kk431, n431⟩, -, X431, ⟨Lc431, hQ431, l431, y431, z431⟩, st431⟩ := X425.privateBack hx (y := (⟨"com/example/lumenplan/lumenplan/simulation/Wavelengths", "lowestFree", "([III)I"⟩ : MethodName)) hown (mvT hZ (hw _ (gm 33 rfl))) (mvT hZ (hw _ (gm 34 rfl))) (mvT hZ (own_selects (hw _ (gm 6 rfl)) (hw _ (gm 34 rfl)) (hw _ (gm 35 rfl)) (by decide))) (Cond.privateMethod_at (mvP hZ (hw _ (gm 35 rfl)) (args := #[]))) (mvT hZ (hw _ (gm 36 rfl))) (by decide) (backOf (W := 1) (rmF_R l Z a0 hw []  a1 aH rA rB kH kL cn wd u vv ra kR r r h420 n0 O423 Fh VH VA VB Fc Fw VR hN hw0 (Or.inl ⟨hlt, rfl⟩)) hZ (hw _ (gm 36 rfl)) (hw _ (gm 7 rfl)) (by decide) (by decide)) (g := (mkF m 18 #[vR a1, vR ra, vR wN, vR b420, vU, vU, vU, vU] [(.int (2 : Int32)), (.int (0 : Int32)), (.ref ra), (.ref a1), (.ref b420)])) rfl (by rw [hml]; rfl) (Steps.refl _) (a := a1) (by rw [e425]; exact q431) q431' (argsL := [(.ref ra), (.int (0 : Int32)), (.int (2 : Int32))]) (rest := [(.ref b420)]) (lenOf pd_4 rfl) rfl (by show 2 * 0 + _ ≤ _; exact Nat.le_of_eq rfl) (hb hby d4_18) (fun _ _ => ⟨rfl, e425, (by decide : 1 + 0 ≤ _), (by decide : 2 + 0 ≤ _)⟩)
  dsimp only [Pt.U, Pt.locs, Pt.cells, Pt.slots] at X431 l431 y431 z431 st431 hQ431
  subst l431 y431 z431
  obtain ⟨rfl, Nq431, hh431⟩ := hQ431
  have N431 := Fr.app N0 Nq431
  have k432 : Rch p e below S0 T431 (mkF m 21 #[vR a1, vR ra, vR wN, vR b420, vU, vU, vU, vU] [(.int r), (.ref b420)]) := fun t h => k430 t (st431.trans h)
  obtain ⟨_, _, ⟨T433, L433, kk433, n433⟩, -, X433, ⟨Lc433, hQ433, l433, y433, z433⟩, st433⟩ := Jvm.LawKit.callS X431 hx (y := (⟨"java/util/Arrays", "fill", "([II)V"⟩ : MethodName)) hown (mvT hZ (hw _ (gm 46 rfl))) (mvT hZ (hw _ (gm 47 rfl))) (mvT hZ (hw _ (gm 48 rfl))) (mvT hZ (hw _ (gm 49 rfl))) (by decide) (backOf (W := 0) (rmAF2 l Z a0 hw [] b420 r k420 h420 n0 O423 ge_b420 V_b420) hZ (hw _ (gm 49 rfl)) (hw _ (gm 48 rfl)) (by decide) (by decide)) (g := (mkF m 21 #[vR a1, vR ra, vR wN, vR b420, vU, vU, vU, vU] [(.int r), (.ref b420)])) rfl (by rw [hml]; rfl) (argsL := [(.ref b420), (.int r)]) (rest := []) (lenOf pd_7 rfl) rfl (by show 2 * 0 + _ ≤ _; exact Nat.le_of_eq rfl) (hb hby d4_21) (fun _ _ => ⟨rfl, hh431, (by decide : 1 + 0 ≤ _), (by decide : 2 + 0 ≤ _)⟩)
  dsimp only [Pt.U, Pt.locs, Pt.cells, Pt.slots] at X433 l433 y433 z433 st433 hQ433
  subst l433 y433 z433
  obtain ⟨rfl, Nq433, K433, VX433⟩ := hQ433
  have N433 := Fr.app N431 Nq433
  have k434 : Rch p e below S0 T433 (mkF m 24 #[vR a1, vR ra, vR wN, vR b420, vU, vU, vU, vU] []) := fun t h => k432 t (st433 t h)
  have O435 := O423.keep K433 (allS ge_b420 all0)
  have K436 := K424.trans K433 (allS (Or.inr sz_b420) all0)
  replace Ew := Ew.keep K433
  replace Fh := Fh.keep K433 (ninS ne_a1_b420 nin0)
  replace Fc := Fc.keep K433 (ninS ne_a1_b420 nin0)
  replace Fw := Fw.keep K433 (ninS ne_a1_b420 nin0)
  replace VH := VH.keep K433 (ninS ne_aH_b420 nin0)
  replace VA := VA.keep K433 (ninS ne_rA_b420 nin0)
  replace VB := VB.keep K433 (ninS ne_rB_b420 nin0)
  replace VR := VR.keep K433 (ninS ne_ra_b420 nin0)
  have k438 : Rch p e below S0 T433 (mkF m 63 #[vR a1, vR ra, vR wN, vR b420, vR b420, vU, vU, vU] [(.ref b420)]) := fun t h => k434 t (by
      show Steps p.tables e below (T433.setTop (mkF m 24 #[vR a1, vR ra, vR wN, vR b420, vU, vU, vU, vU] [])) _
      refine XS.goto X433.here hx rfl (pc0 := 24) (pc' := 58) rfl (hb hby d4_24) (by decide) (by decide) ?_
      refine XS.aloadN X433.here hx rfl (hb hby d4_58) rfl rfl ?_
      refine XS.astore X433.here hx rfl (hb hby d4_59) rfl rfl (l' := #[vR a1, vR ra, vR wN, vR b420, vR b420, vU, vU, vU]) rfl ?_
      refine XS.aload X433.here hx rfl (hb hby d4_61) rfl rfl ?_
      exact h)
  obtain ⟨cl437, Ar437, q437, Sz437, Ng437, Hs437, G437⟩ := id VX433
  have k440 : Rch p e below S0 T433 (mkF m 80 #[vR a1, vR ra, vR wN, vR b420, vR b420, vI 2, vI 0, vU] [(.int (0 : Int32)), (.ref b420)]) := fun t h => k438 t (by
      show Steps p.tables e below (T433.setTop (mkF m 63 #[vR a1, vR ra, vR wN, vR b420, vR b420, vU, vU, vU] [(.ref b420)])) _
      refine X433.arraylength hx (by exact Ar437.1) (State.isArrayOf_alike hZ.alike Ar437.2.1) (g := (mkF m 63 #[vR a1, vR ra, vR wN, vR b420, vR b420, vU, vU, vU] [(.ref b420)])) rfl rfl (hb hby d4_63) _ ?_
      rw [len_of Sz437 Ng437]
      refine XS.istore X433.here hx rfl (hb hby d4_64) rfl (l' := #[vR a1, vR ra, vR wN, vR b420, vR b420, vI 2, vU, vU]) rfl ?_
      refine XS.iconst X433.here hx rfl (hb hby d4_66) ?_
      refine XS.istore X433.here hx rfl (hb hby d4_67) rfl (l' := #[vR a1, vR ra, vR wN, vR b420, vR b420, vI 2, vI 0, vU]) rfl ?_
      refine XS.iload X433.here hx rfl (hb hby d4_69) rfl ?_
      refine XS.iload X433.here hx rfl (hb hby d4_71) rfl ?_
      refine XS.icmpNo X433.here hx rfl (hb hby d4_73) rfl (tlt (by decide : (0 : Int32) < (2 : Int32))).2.1 ?_
      refine XS.aload X433.here hx rfl (hb hby d4_76) rfl rfl ?_
      refine XS.iload X433.here hx rfl (hb hby d4_78) rfl ?_
      exact h)
  obtain ⟨cl439, Ar439, q439, Sz439, Ng439, Hs439, G439⟩ := id VX433
  have hin439 : ¬ ((0 : Int32) < 0 ∨ cl439.slots.size ≤ ((0 : Int32)).toNatClampNeg) := inb_of Sz439 ⟨by decide, by decide⟩
  have hat439 : cl439.slots[((0 : Int32)).toNatClampNeg]? = some (.int r) := Hs439.at hin439 (rfl)
  have k442 : Rch p e below S0 T433 (mkF m 80 #[vR a1, vR ra, vR wN, vR b420, vR b420, vI 2, vI 1, vI r] [(.int (1 : Int32)), (.ref b420)]) := fun t h => k440 t (by
      show Steps p.tables e below (T433.setTop (mkF m 80 #[vR a1, vR ra, vR wN, vR b420, vR b420, vI 2, vI 0, vU] [(.int (0 : Int32)), (.ref b420)])) _
      refine X433.iaload hx (j := (0 : Int32)) (v := (.int r)) (by exact Ar439.1) (State.isArrayOf_alike hZ.alike Ar439.2.1) Ar439.2.2 hin439 hat439 (g := (mkF m 80 #[vR a1, vR ra, vR wN, vR b420, vR b420, vI 2, vI 0, vU] [(.int (0 : Int32)), (.ref b420)])) rfl rfl (hb hby d4_80) _ ?_
      refine XS.istore X433.here hx rfl (hb hby d4_81) rfl (l' := #[vR a1, vR ra, vR wN, vR b420, vR b420, vI 2, vI 0, vI r]) rfl ?_
      refine XS.iload X433.here hx rfl (hb hby d4_83) rfl ?_
      refine XS.ifYes X433.here hx rfl (pc0 := 85) (pc' := 90) rfl (hb hby d4_85) rfl ((if0 _ _).trans (flt ((own_nn hN) : ¬ (r < (0 : Int32)))).2.1) (by decide) (by decide) ?_
      show Steps p.tables e below (T433.setTop (mkF m 90 #[vR a1, vR ra, vR wN, vR b420, vR b420, vI 2, vI 0, vI r] [])) _
      refine XS.iinc X433.here hx rfl (hb hby d4_90) rfl (l' := #[vR a1, vR ra, vR wN, vR b420, vR b420, vI 2, vI ((0 : Int32) + (1 : Int32)), vI r]) rfl ?_
      rw [(by decide : ((0 : Int32) + (1 : Int32)) = (1 : Int32))]
      refine XS.goto X433.here hx rfl (pc0 := 93) (pc' := 69) rfl (hb hby d4_93) (by decide) (by decide) ?_
      refine XS.iload X433.here hx rfl (hb hby d4_69) rfl ?_
      refine XS.iload X433.here hx rfl (hb hby d4_71) rfl ?_
      refine XS.icmpNo X433.here hx rfl (hb hby d4_73) rfl (tlt (by decide : (1 : Int32) < (2 : Int32))).2.1 ?_
      refine XS.aload X433.here hx rfl (hb hby d4_76) rfl rfl ?_
      refine XS.iload X433.here hx rfl (hb hby d4_78) rfl ?_
      exact h)
  obtain ⟨cl441, Ar441, q441, Sz441, Ng441, Hs441, G441⟩ := id VX433
  have hin441 : ¬ ((1 : Int32) < 0 ∨ cl441.slots.size ≤ ((1 : Int32)).toNatClampNeg) := inb_of Sz441 ⟨by decide, by decide⟩
  have hat441 : cl441.slots[((1 : Int32)).toNatClampNeg]? = some (.int r) := Hs441.at hin441 (rfl)
  have k444 : Rch p e below S0 T433 (mkF m 102 #[vR a1, vR ra, vR wN, vR b420, vI 0, vI 2, vI 2, vI r] [(.ref ra), (.int (0 : Int32))]) := fun t h => k442 t (by
      show Steps p.tables e below (T433.setTop (mkF m 80 #[vR a1, vR ra, vR wN, vR b420, vR b420, vI 2, vI 1, vI r] [(.int (1 : Int32)), (.ref b420)])) _
      refine X433.iaload hx (j := (1 : Int32)) (v := (.int r)) (by exact Ar441.1) (State.isArrayOf_alike hZ.alike Ar441.2.1) Ar441.2.2 hin441 hat441 (g := (mkF m 80 #[vR a1, vR ra, vR wN, vR b420, vR b420, vI 2, vI 1, vI r] [(.int (1 : Int32)), (.ref b420)])) rfl rfl (hb hby d4_80) _ ?_
      refine XS.istore X433.here hx rfl (hb hby d4_81) rfl (l' := #[vR a1, vR ra, vR wN, vR b420, vR b420, vI 2, vI 1, vI r]) rfl ?_
      refine XS.iload X433.here hx rfl (hb hby d4_83) rfl ?_
      refine XS.ifYes X433.here hx rfl (pc0 := 85) (pc' := 90) rfl (hb hby d4_85) rfl ((if0 _ _).trans (flt ((own_nn hN) : ¬ (r < (0 : Int32)))).2.1) (by decide) (by decide) ?_
      show Steps p.tables e below (T433.setTop (mkF m 90 #[vR a1, vR ra, vR wN, vR b420, vR b420, vI 2, vI 1, vI r] [])) _
      refine XS.iinc X433.here hx rfl (hb hby d4_90) rfl (l' := #[vR a1, vR ra, vR wN, vR b420, vR b420, vI 2, vI ((1 : Int32) + (1 : Int32)), vI r]) rfl ?_
      rw [(by decide : ((1 : Int32) + (1 : Int32)) = (2 : Int32))]
      refine XS.goto X433.here hx rfl (pc0 := 93) (pc' := 69) rfl (hb hby d4_93) (by decide) (by decide) ?_
      refine XS.iload X433.here hx rfl (hb hby d4_69) rfl ?_
      refine XS.iload X433.here hx rfl (hb hby d4_71) rfl ?_
      refine XS.icmpYes X433.here hx rfl (pc0 := 73) (pc' := 96) rfl (hb hby d4_73) rfl (flt (by decide : ¬ ((2 : Int32) < (2 : Int32)))).2.1 (by decide) (by decide) ?_
      refine XS.iconst X433.here hx rfl (hb hby d4_96) ?_
      refine XS.istore X433.here hx rfl (hb hby d4_97) rfl (l' := #[vR a1, vR ra, vR wN, vR b420, vI 0, vI 2, vI 2, vI r]) rfl ?_
      refine XS.iload X433.here hx rfl (hb hby d4_99) rfl ?_
      refine XS.aloadN X433.here hx rfl (hb hby d4_101) rfl rfl ?_
      exact h)
  obtain ⟨cl443, Ar443, q443, Sz443, Ng443, Hs443, G443⟩ := id VR
  have k446 : Rch p e below S0 T433 (mkF m 110 #[vR a1, vR ra, vR wN, vR b420, vI 0, vI 2, vI 2, vI r] [(.int (0 : Int32)), (.ref ra), (.ref a1)]) := fun t h => k444 t (by
      show Steps p.tables e below (T433.setTop (mkF m 102 #[vR a1, vR ra, vR wN, vR b420, vI 0, vI 2, vI 2, vI r] [(.ref ra), (.int (0 : Int32))])) _
      refine X433.arraylength hx (by exact Ar443.1) (State.isArrayOf_alike hZ.alike Ar443.2.1) (g := (mkF m 102 #[vR a1, vR ra, vR wN, vR b420, vI 0, vI 2, vI 2, vI r] [(.ref ra), (.int (0 : Int32))])) rfl rfl (hb hby d4_102) _ ?_
      rw [len_of Sz443 Ng443]
      refine XS.icmpNo X433.here hx rfl (hb hby d4_103) rfl (tlt (by decide : (0 : Int32) < (2 : Int32))).2.1 ?_
      refine XS.aloadN X433.here hx rfl (hb hby d4_106) rfl rfl ?_
      refine XS.aloadN X433.here hx rfl (hb hby d4_107) rfl rfl ?_
      refine XS.iload X433.here hx rfl (hb hby d4_108) rfl ?_
      exact h)
  obtain ⟨cl445, Ar445, q445, Sz445, Ng445, Hs445, G445⟩ := id VR
  have hin445 : ¬ ((0 : Int32) < 0 ∨ cl445.slots.size ≤ ((0 : Int32)).toNatClampNeg) := inb_of Sz445 ⟨by decide, by decide⟩
  have hat445 : cl445.slots[((0 : Int32)).toNatClampNeg]? = some (.int (1 : Int32)) := Hs445.at hin445 (rfl)
  have k448 : Rch p e below S0 T433 (mkF m 114 #[vR a1, vR ra, vR wN, vR b420, vI 0, vI 2, vI 2, vI r] [(.int (0 : Int32)), (.ref b420), (.int (1 : Int32)), (.ref a1)]) := fun t h => k446 t (by
      show Steps p.tables e below (T433.setTop (mkF m 110 #[vR a1, vR ra, vR wN, vR b420, vI 0, vI 2, vI 2, vI r] [(.int (0 : Int32)), (.ref ra), (.ref a1)])) _
      refine X433.iaload hx (j := (0 : Int32)) (v := (.int (1 : Int32))) (by exact Ar445.1) (State.isArrayOf_alike hZ.alike Ar445.2.1) Ar445.2.2 hin445 hat445 (g := (mkF m 110 #[vR a1, vR ra, vR wN, vR b420, vI 0, vI 2, vI 2, vI r] [(.int (0 : Int32)), (.ref ra), (.ref a1)])) rfl rfl (hb hby d4_110) _ ?_
      refine XS.aloadN X433.here hx rfl (hb hby d4_111) rfl rfl ?_
      refine XS.iload X433.here hx rfl (hb hby d4_112) rfl ?_
      exact h)
  obtain ⟨cl447, Ar447, q447, Sz447, Ng447, Hs447, G447⟩ := id VX433
  have hin447 : ¬ ((0 : Int32) < 0 ∨ cl447.slots.size ≤ ((0 : Int32)).toNatClampNeg) := inb_of Sz447 ⟨by decide, by decide⟩
  have hat447 : cl447.slots[((0 : Int32)).toNatClampNeg]? = some (.int r) := Hs447.at hin447 (rfl)
  have k449 : Rch p e below S0 T433 (mkF m 118 #[vR a1, vR ra, vR wN, vR b420, vI 0, vI 2, vI 2, vI r] [(.int (0 : Int32)), (.int (1 : Int32)), (.ref a1)]) := fun t h => k448 t (by
      show Steps p.tables e below (T433.setTop (mkF m 114 #[vR a1, vR ra, vR wN, vR b420, vI 0, vI 2, vI 2, vI r] [(.int (0 : Int32)), (.ref b420), (.int (1 : Int32)), (.ref a1)])) _
      refine X433.iaload hx (j := (0 : Int32)) (v := (.int r)) (by exact Ar447.1) (State.isArrayOf_alike hZ.alike Ar447.2.1) Ar447.2.2 hin447 hat447 (g := (mkF m 114 #[vR a1, vR ra, vR wN, vR b420, vI 0, vI 2, vI 2, vI r] [(.int (0 : Int32)), (.ref b420), (.int (1 : Int32)), (.ref a1)])) rfl rfl (hb hby d4_114) _ ?_
      refine XS.bipush X433.here hx rfl (hb hby d4_115) ?_
      show Steps p.tables e below (T433.setTop (mkF m 117 #[vR a1, vR ra, vR wN, vR b420, vI 0, vI 2, vI 2, vI r] [(.int (64 : Int32)), (.int r), (.int (1 : Int32)), (.ref a1)])) _
      refine XS.idiv X433.here hx rfl (hb hby d4_117) rfl (by decide) ?_
      rw [own_d64 hN]
      exact h)
  obtain ⟨cq450, q450, q450'⟩ := Ew.cell
  obtain ⟨_, _, ⟨T450, L450, kk450, n450⟩, -, X450, ⟨Lc450, hQ450, l450, y450, z450⟩, st450⟩ := X433.privateBack hx (y := (⟨"com/example/lumenplan/lumenplan/simulation/Wavelengths", "reaching", "(II)[J"⟩ : MethodName)) hown (mvT hZ (hw _ (gm 50 rfl))) (mvT hZ (hw _ (gm 51 rfl))) (mvT hZ (own_selects (hw _ (gm 6 rfl)) (hw _ (gm 51 rfl)) (hw _ (gm 52 rfl)) (by decide))) (Cond.privateMethod_at (mvP hZ (hw _ (gm 52 rfl)) (args := #[]))) (mvT hZ (hw _ (gm 53 rfl))) (by decide) (backOf (W := 0) (rmR_B l Z a0 hw []  a1 aH rA rB kH kL cn wd u vv T433.heap n0 O435 Fh VH VA VB) hZ (hw _ (gm 53 rfl)) (hw _ (gm 7 rfl)) (by decide) (by decide)) (g := (mkF m 118 #[vR a1, vR ra, vR wN, vR b420, vI 0, vI 2, vI 2, vI r] [(.int (0 : Int32)), (.int (1 : Int32)), (.ref a1)])) rfl (by rw [hml]; rfl) (Steps.refl _) (a := a1) (by exact q450) q450' (argsL := [(.int (1 : Int32)), (.int (0 : Int32))]) (rest := []) (lenOf pd_8 rfl) rfl (by show 2 * 0 + _ ≤ _; exact Nat.le_of_eq rfl) (hb hby d4_118) (fun _ _ => ⟨rfl, rfl, (by decide : 1 + 0 ≤ _), (by decide : 2 + 0 ≤ _)⟩)
  dsimp only [Pt.U, Pt.locs, Pt.cells, Pt.slots] at X450 l450 y450 z450 st450 hQ450
  subst l450 y450 z450
  obtain ⟨rfl, Nq450, hh450⟩ := hQ450
  have N450 := Fr.app N433 Nq450
  have k451 : Rch p e below S0 T450 (mkF m 121 #[vR a1, vR ra, vR wN, vR b420, vI 0, vI 2, vI 2, vI r] [(.ref rB)]) := fun t h => k449 t (st450.trans h)
  have k453 : Rch p e below S0 T450 (mkF m 128 #[vR a1, vR ra, vR wN, vR b420, vI 0, vR rB, vI 2, vI r] [(.int (0 : Int32)), (.ref b420), (.ref rB)]) := fun t h => k451 t (by
      show Steps p.tables e below (T450.setTop (mkF m 121 #[vR a1, vR ra, vR wN, vR b420, vI 0, vI 2, vI 2, vI r] [(.ref rB)])) _
      refine XS.astore X450.here hx rfl (hb hby d4_121) rfl rfl (l' := #[vR a1, vR ra, vR wN, vR b420, vI 0, vR rB, vI 2, vI r]) rfl ?_
      show Steps p.tables e below (T450.setTop (mkF m 123 #[vR a1, vR ra, vR wN, vR b420, vI 0, vR rB, vI 2, vI r] [])) _
      refine XS.aload X450.here hx rfl (hb hby d4_123) rfl rfl ?_
      refine XS.aloadN X450.here hx rfl (hb hby d4_125) rfl rfl ?_
      refine XS.iload X450.here hx rfl (hb hby d4_126) rfl ?_
      exact h)
  obtain ⟨cl452, Ar452, q452, Sz452, Ng452, Hs452, G452⟩ := id VX433
  have hin452 : ¬ ((0 : Int32) < 0 ∨ cl452.slots.size ≤ ((0 : Int32)).toNatClampNeg) := inb_of Sz452 ⟨by decide, by decide⟩
  have hat452 : cl452.slots[((0 : Int32)).toNatClampNeg]? = some (.int r) := Hs452.at hin452 (rfl)
  have k455 : Rch p e below S0 T450 (mkF m 133 #[vR a1, vR ra, vR wN, vR b420, vI 0, vR rB, vI 2, vI r] [(.int (0 : Int32)), (.ref rB), (.int (0 : Int32)), (.ref rB)]) := fun t h => k453 t (by
      show Steps p.tables e below (T450.setTop (mkF m 128 #[vR a1, vR ra, vR wN, vR b420, vI 0, vR rB, vI 2, vI r] [(.int (0 : Int32)), (.ref b420), (.ref rB)])) _
      refine X450.iaload hx (j := (0 : Int32)) (v := (.int r)) (by rw [hh450]; exact Ar452.1) (State.isArrayOf_alike hZ.alike Ar452.2.1) Ar452.2.2 hin452 hat452 (g := (mkF m 128 #[vR a1, vR ra, vR wN, vR b420, vI 0, vR rB, vI 2, vI r] [(.int (0 : Int32)), (.ref b420), (.ref rB)])) rfl rfl (hb hby d4_128) _ ?_
      refine XS.bipush X450.here hx rfl (hb hby d4_129) ?_
      show Steps p.tables e below (T450.setTop (mkF m 131 #[vR a1, vR ra, vR wN, vR b420, vI 0, vR rB, vI 2, vI r] [(.int (64 : Int32)), (.int r), (.ref rB)])) _
      refine XS.idiv X450.here hx rfl (hb hby d4_131) rfl (by decide) ?_
      rw [own_d64 hN]
      refine XT.dup2 X450.here hx rfl (hb hby d4_132) rfl rfl rfl ?_
      exact h)
  obtain ⟨cl454, Ar454, q454, Sz454, Ng454, Hs454, G454⟩ := id VB
  have hin454 : ¬ ((0 : Int32) < 0 ∨ cl454.slots.size ≤ ((0 : Int32)).toNatClampNeg) := inb_of Sz454 ⟨by decide, by decide⟩
  have hat454 : cl454.slots[((0 : Int32)).toNatClampNeg]? = some (.long vv) := Hs454.at hin454 (rfl)
  have k457 : Rch p e below S0 T450 (mkF m 138 #[vR a1, vR ra, vR wN, vR b420, vI 0, vR rB, vI 2, vI r] [(.int (0 : Int32)), (.ref b420), (.long (1 : Int64)), (.long vv), (.int (0 : Int32)), (.ref rB)]) := fun t h => k455 t (by
      show Steps p.tables e below (T450.setTop (mkF m 133 #[vR a1, vR ra, vR wN, vR b420, vI 0, vR rB, vI 2, vI r] [(.int (0 : Int32)), (.ref rB), (.int (0 : Int32)), (.ref rB)])) _
      refine X450.laload hx (j := (0 : Int32)) (v := (.long vv)) (by rw [hh450]; exact Ar454.1) (State.isArrayOf_alike hZ.alike Ar454.2.1) Ar454.2.2 hin454 hat454 (g := (mkF m 133 #[vR a1, vR ra, vR wN, vR b420, vI 0, vR rB, vI 2, vI r] [(.int (0 : Int32)), (.ref rB), (.int (0 : Int32)), (.ref rB)])) rfl rfl (hb hby d4_133) _ ?_
      refine XS.lconst X450.here hx rfl (hb hby d4_134) ?_
      refine XS.aloadN X450.here hx rfl (hb hby d4_135) rfl rfl ?_
      refine XS.iload X450.here hx rfl (hb hby d4_136) rfl ?_
      exact h)
  obtain ⟨cl456, Ar456, q456, Sz456, Ng456, Hs456, G456⟩ := id VX433
  have hin456 : ¬ ((0 : Int32) < 0 ∨ cl456.slots.size ≤ ((0 : Int32)).toNatClampNeg) := inb_of Sz456 ⟨by decide, by decide⟩
  have hat456 : cl456.slots[((0 : Int32)).toNatClampNeg]? = some (.int r) := Hs456.at hin456 (rfl)
  have k459 : Rch p e below S0 T450 (mkF m 141 #[vR a1, vR ra, vR wN, vR b420, vI 0, vR rB, vI 2, vI r] [(.long (vv ||| ((1 : Int64) <<< (r &&& 0x3f).toInt64))), (.int (0 : Int32)), (.ref rB)]) := fun t h => k457 t (by
      show Steps p.tables e below (T450.setTop (mkF m 138 #[vR a1, vR ra, vR wN, vR b420, vI 0, vR rB, vI 2, vI r] [(.int (0 : Int32)), (.ref b420), (.long (1 : Int64)), (.long vv), (.int (0 : Int32)), (.ref rB)])) _
      refine X450.iaload hx (j := (0 : Int32)) (v := (.int r)) (by rw [hh450]; exact Ar456.1) (State.isArrayOf_alike hZ.alike Ar456.2.1) Ar456.2.2 hin456 hat456 (g := (mkF m 138 #[vR a1, vR ra, vR wN, vR b420, vI 0, vR rB, vI 2, vI r] [(.int (0 : Int32)), (.ref b420), (.long (1 : Int64)), (.long vv), (.int (0 : Int32)), (.ref rB)])) rfl rfl (hb hby d4_138) _ ?_
      refine XS.lshl X450.here hx rfl (hb hby d4_139) rfl ?_
      refine XS.lor X450.here hx rfl (hb hby d4_140) rfl ?_
      exact h)
  obtain ⟨cl458, Ar458, q458, Sz458, Ng458, Hs458, G458⟩ := id VB
  have hin458 : ¬ ((0 : Int32) < 0 ∨ cl458.slots.size ≤ ((0 : Int32)).toNatClampNeg) := inb_of Sz458 ⟨by decide, by decide⟩
  obtain ⟨T458, h458, X458, e458, W458, st458⟩ := stJ X450 hx hZ hh450 Ar458 (j := (0 : Int32)) hin458 (g := (mkF m 141 #[vR a1, vR ra, vR wN, vR b420, vI 0, vR rB, vI 2, vI r] [(.long (vv ||| ((1 : Int64) <<< (r &&& 0x3f).toInt64))), (.int (0 : Int32)), (.ref rB)])) rfl rfl (hb hby d4_141)
  have k460 : Rch p e below S0 T458 (mkF m 142 #[vR a1, vR ra, vR wN, vR b420, vI 0, vR rB, vI 2, vI r] []) := fun t h => k459 t (st458 t h)
  have N458 := Fr.snoc X458 N450 ge_rB
  have VB' := Arv.set Ar458 q458 Sz458 Ng458 Hs458 G458 rfl W458 0 rfl (Nat.le_of_ble_eq_true rfl)
  replace VB : Arv Z h458 rB kL .long (1 : Int32) [(.long (vv ||| ((1 : Int64) <<< (r &&& 0x3f).toInt64)))] (.long (0 : Int64)) := VB'
  have O461 := O435.wr W458 ge_rB
  have K462 := K436.wr W458 (Or.inl (gm 1 rfl))
  replace Ew := Ew.wr W458
  replace Fh := Fh.other W458 (Or.inl ne_a1_rB)
  replace Fc := Fc.other W458 (Or.inl ne_a1_rB)
  replace Fw := Fw.other W458 (Or.inl ne_a1_rB)
  replace VH := VH.other W458 ne_aH_rB
  replace VA := VA.other W458 ne_rA_rB
  replace VR := VR.other W458 ne_ra_rB
  replace VX433 := VX433.other W458 (Ne.symm ne_rB_b420)
  have k464 : Rch p e below S0 T458 (mkF m 102 #[vR a1, vR ra, vR wN, vR b420, vI 1, vR rB, vI 2, vI r] [(.ref ra), (.int (1 : Int32))]) := fun t h => k460 t (by
      show Steps p.tables e below (T458.setTop (mkF m 142 #[vR a1, vR ra, vR wN, vR b420, vI 0, vR rB, vI 2, vI r] [])) _
      refine XS.iinc X458.here hx rfl (hb hby d4_142) rfl (l' := #[vR a1, vR ra, vR wN, vR b420, vI ((0 : Int32) + (1 : Int32)), vR rB, vI 2, vI r]) rfl ?_
      rw [(by decide : ((0 : Int32) + (1 : Int32)) = (1 : Int32))]
      refine XS.goto X458.here hx rfl (pc0 := 145) (pc' := 99) rfl (hb hby d4_145) (by decide) (by decide) ?_
      refine XS.iload X458.here hx rfl (hb hby d4_99) rfl ?_
      refine XS.aloadN X458.here hx rfl (hb hby d4_101) rfl rfl ?_
      exact h)
  obtain ⟨cl463, Ar463, q463, Sz463, Ng463, Hs463, G463⟩ := id VR
  have k466 : Rch p e below S0 T458 (mkF m 110 #[vR a1, vR ra, vR wN, vR b420, vI 1, vR rB, vI 2, vI r] [(.int (1 : Int32)), (.ref ra), (.ref a1)]) := fun t h => k464 t (by
      show Steps p.tables e below (T458.setTop (mkF m 102 #[vR a1, vR ra, vR wN, vR b420, vI 1, vR rB, vI 2, vI r] [(.ref ra), (.int (1 : Int32))])) _
      refine X458.arraylength hx (by rw [e458]; exact Ar463.1) (State.isArrayOf_alike hZ.alike Ar463.2.1) (g := (mkF m 102 #[vR a1, vR ra, vR wN, vR b420, vI 1, vR rB, vI 2, vI r] [(.ref ra), (.int (1 : Int32))])) rfl rfl (hb hby d4_102) _ ?_
      rw [len_of Sz463 Ng463]
      refine XS.icmpNo X458.here hx rfl (hb hby d4_103) rfl (tlt (by decide : (1 : Int32) < (2 : Int32))).2.1 ?_
      refine XS.aloadN X458.here hx rfl (hb hby d4_106) rfl rfl ?_
      refine XS.aloadN X458.here hx rfl (hb hby d4_107) rfl rfl ?_
      refine XS.iload X458.here hx rfl (hb hby d4_108) rfl ?_
      exact h)
  obtain ⟨cl465, Ar465, q465, Sz465, Ng465, Hs465, G465⟩ := id VR
  have hin465 : ¬ ((1 : Int32) < 0 ∨ cl465.slots.size ≤ ((1 : Int32)).toNatClampNeg) := inb_of Sz465 ⟨by decide, by decide⟩
  have hat465 : cl465.slots[((1 : Int32)).toNatClampNeg]? = some (.int (0 : Int32)) := Hs465.at hin465 (rfl)
  have k468 : Rch p e below S0 T458 (mkF m 114 #[vR a1, vR ra, vR wN, vR b420, vI 1, vR rB, vI 2, vI r] [(.int (1 : Int32)), (.ref b420), (.int (0 : Int32)), (.ref a1)]) := fun t h => k466 t (by
      show Steps p.tables e below (T458.setTop (mkF m 110 #[vR a1, vR ra, vR wN, vR b420, vI 1, vR rB, vI 2, vI r] [(.int (1 : Int32)), (.ref ra), (.ref a1)])) _
      refine X458.iaload hx (j := (1 : Int32)) (v := (.int (0 : Int32))) (by rw [e458]; exact Ar465.1) (State.isArrayOf_alike hZ.alike Ar465.2.1) Ar465.2.2 hin465 hat465 (g := (mkF m 110 #[vR a1, vR ra, vR wN, vR b420, vI 1, vR rB, vI 2, vI r] [(.int (1 : Int32)), (.ref ra), (.ref a1)])) rfl rfl (hb hby d4_110) _ ?_
      refine XS.aloadN X458.here hx rfl (hb hby d4_111) rfl rfl ?_
      refine XS.iload X458.here hx rfl (hb hby d4_112) rfl ?_
      exact h)
  obtain ⟨cl467, Ar467, q467, Sz467, Ng467, Hs467, G467⟩ := id VX433
  have hin467 : ¬ ((1 : Int32) < 0 ∨ cl467.slots.size ≤ ((1 : Int32)).toNatClampNeg) := inb_of Sz467 ⟨by decide, by decide⟩
  have hat467 : cl467.slots[((1 : Int32)).toNatClampNeg]? = some (.int r) := Hs467.at hin467 (rfl)
  have k469 : Rch p e below S0 T458 (mkF m 118 #[vR a1, vR ra, vR wN, vR b420, vI 1, vR rB, vI 2, vI r] [(.int (0 : Int32)), (.int (0 : Int32)), (.ref a1)]) := fun t h => k468 t (by
      show Steps p.tables e below (T458.setTop (mkF m 114 #[vR a1, vR ra, vR wN, vR b420, vI 1, vR rB, vI 2, vI r] [(.int (1 : Int32)), (.ref b420), (.int (0 : Int32)), (.ref a1)])) _
      refine X458.iaload hx (j := (1 : Int32)) (v := (.int r)) (by rw [e458]; exact Ar467.1) (State.isArrayOf_alike hZ.alike Ar467.2.1) Ar467.2.2 hin467 hat467 (g := (mkF m 114 #[vR a1, vR ra, vR wN, vR b420, vI 1, vR rB, vI 2, vI r] [(.int (1 : Int32)), (.ref b420), (.int (0 : Int32)), (.ref a1)])) rfl rfl (hb hby d4_114) _ ?_
      refine XS.bipush X458.here hx rfl (hb hby d4_115) ?_
      show Steps p.tables e below (T458.setTop (mkF m 117 #[vR a1, vR ra, vR wN, vR b420, vI 1, vR rB, vI 2, vI r] [(.int (64 : Int32)), (.int r), (.int (0 : Int32)), (.ref a1)])) _
      refine XS.idiv X458.here hx rfl (hb hby d4_117) rfl (by decide) ?_
      rw [own_d64 hN]
      exact h)
  obtain ⟨cq470, q470, q470'⟩ := Ew.cell
  obtain ⟨_, _, ⟨T470, L470, kk470, n470⟩, -, X470, ⟨Lc470, hQ470, l470, y470, z470⟩, st470⟩ := X458.privateBack hx (y := (⟨"com/example/lumenplan/lumenplan/simulation/Wavelengths", "reaching", "(II)[J"⟩ : MethodName)) hown (mvT hZ (hw _ (gm 50 rfl))) (mvT hZ (hw _ (gm 51 rfl))) (mvT hZ (own_selects (hw _ (gm 6 rfl)) (hw _ (gm 51 rfl)) (hw _ (gm 52 rfl)) (by decide))) (Cond.privateMethod_at (mvP hZ (hw _ (gm 52 rfl)) (args := #[]))) (mvT hZ (hw _ (gm 53 rfl))) (by decide) (backOf (W := 0) (rmR_A l Z a0 hw []  a1 aH rA rB kH kL cn wd u (vv ||| ((1 : Int64) <<< (r &&& 0x3f).toInt64)) h458 n0 O461 Fh VH VA VB) hZ (hw _ (gm 53 rfl)) (hw _ (gm 7 rfl)) (by decide) (by decide)) (g := (mkF m 118 #[vR a1, vR ra, vR wN, vR b420, vI 1, vR rB, vI 2, vI r] [(.int (0 : Int32)), (.int (0 : Int32)), (.ref a1)])) rfl (by rw [hml]; rfl) (Steps.refl _) (a := a1) (by rw [e458]; exact q470) q470' (argsL := [(.int (0 : Int32)), (.int (0 : Int32))]) (rest := []) (lenOf pd_8 rfl) rfl (by show 2 * 0 + _ ≤ _; exact Nat.le_of_eq rfl) (hb hby d4_118) (fun _ _ => ⟨rfl, e458, (by decide : 1 + 0 ≤ _), (by decide : 2 + 0 ≤ _)⟩)
  dsimp only [Pt.U, Pt.locs, Pt.cells, Pt.slots] at X470 l470 y470 z470 st470 hQ470
  subst l470 y470 z470
  obtain ⟨rfl, Nq470, hh470⟩ := hQ470
  have N470 := Fr.app N458 Nq470
  have k471 : Rch p e below S0 T470 (mkF m 121 #[vR a1, vR ra, vR wN, vR b420, vI 1, vR rB, vI 2, vI r] [(.ref rA)]) := fun t h => k469 t (st470.trans h)
  have k473 : Rch p e below S0 T470 (mkF m 128 #[vR a1, vR ra, vR wN, vR b420, vI 1, vR rA, vI 2, vI r] [(.int (1 : Int32)), (.ref b420), (.ref rA)]) := fun t h => k471 t (by
      show Steps p.tables e below (T470.setTop (mkF m 121 #[vR a1, vR ra, vR wN, vR b420, vI 1, vR rB, vI 2, vI r] [(.ref rA)])) _
      refine XS.astore X470.here hx rfl (hb hby d4_121) rfl rfl (l' := #[vR a1, vR ra, vR wN, vR b420, vI 1, vR rA, vI 2, vI r]) rfl ?_
      refine XS.aload X470.here hx rfl (hb hby d4_123) rfl rfl ?_
      refine XS.aloadN X470.here hx rfl (hb hby d4_125) rfl rfl ?_
      refine XS.iload X470.here hx rfl (hb hby d4_126) rfl ?_
      exact h)
  obtain ⟨cl472, Ar472, q472, Sz472, Ng472, Hs472, G472⟩ := id VX433
  have hin472 : ¬ ((1 : Int32) < 0 ∨ cl472.slots.size ≤ ((1 : Int32)).toNatClampNeg) := inb_of Sz472 ⟨by decide, by decide⟩
  have hat472 : cl472.slots[((1 : Int32)).toNatClampNeg]? = some (.int r) := Hs472.at hin472 (rfl)
  have k475 : Rch p e below S0 T470 (mkF m 133 #[vR a1, vR ra, vR wN, vR b420, vI 1, vR rA, vI 2, vI r] [(.int (0 : Int32)), (.ref rA), (.int (0 : Int32)), (.ref rA)]) := fun t h => k473 t (by
      show Steps p.tables e below (T470.setTop (mkF m 128 #[vR a1, vR ra, vR wN, vR b420, vI 1, vR rA, vI 2, vI r] [(.int (1 : Int32)), (.ref b420), (.ref rA)])) _
      refine X470.iaload hx (j := (1 : Int32)) (v := (.int r)) (by rw [hh470]; exact Ar472.1) (State.isArrayOf_alike hZ.alike Ar472.2.1) Ar472.2.2 hin472 hat472 (g := (mkF m 128 #[vR a1, vR ra, vR wN, vR b420, vI 1, vR rA, vI 2, vI r] [(.int (1 : Int32)), (.ref b420), (.ref rA)])) rfl rfl (hb hby d4_128) _ ?_
      refine XS.bipush X470.here hx rfl (hb hby d4_129) ?_
      show Steps p.tables e below (T470.setTop (mkF m 131 #[vR a1, vR ra, vR wN, vR b420, vI 1, vR rA, vI 2, vI r] [(.int (64 : Int32)), (.int r), (.ref rA)])) _
      refine XS.idiv X470.here hx rfl (hb hby d4_131) rfl (by decide) ?_
      rw [own_d64 hN]
      refine XT.dup2 X470.here hx rfl (hb hby d4_132) rfl rfl rfl ?_
      exact h)
  obtain ⟨cl474, Ar474, q474, Sz474, Ng474, Hs474, G474⟩ := id VA
  have hin474 : ¬ ((0 : Int32) < 0 ∨ cl474.slots.size ≤ ((0 : Int32)).toNatClampNeg) := inb_of Sz474 ⟨by decide, by decide⟩
  have hat474 : cl474.slots[((0 : Int32)).toNatClampNeg]? = some (.long u) := Hs474.at hin474 (rfl)
  have k477 : Rch p e below S0 T470 (mkF m 138 #[vR a1, vR ra, vR wN, vR b420, vI 1, vR rA, vI 2, vI r] [(.int (1 : Int32)), (.ref b420), (.long (1 : Int64)), (.long u), (.int (0 : Int32)), (.ref rA)]) := fun t h => k475 t (by
      show Steps p.tables e below (T470.setTop (mkF m 133 #[vR a1, vR ra, vR wN, vR b420, vI 1, vR rA, vI 2, vI r] [(.int (0 : Int32)), (.ref rA), (.int (0 : Int32)), (.ref rA)])) _
      refine X470.laload hx (j := (0 : Int32)) (v := (.long u)) (by rw [hh470]; exact Ar474.1) (State.isArrayOf_alike hZ.alike Ar474.2.1) Ar474.2.2 hin474 hat474 (g := (mkF m 133 #[vR a1, vR ra, vR wN, vR b420, vI 1, vR rA, vI 2, vI r] [(.int (0 : Int32)), (.ref rA), (.int (0 : Int32)), (.ref rA)])) rfl rfl (hb hby d4_133) _ ?_
      refine XS.lconst X470.here hx rfl (hb hby d4_134) ?_
      refine XS.aloadN X470.here hx rfl (hb hby d4_135) rfl rfl ?_
      refine XS.iload X470.here hx rfl (hb hby d4_136) rfl ?_
      exact h)
  obtain ⟨cl476, Ar476, q476, Sz476, Ng476, Hs476, G476⟩ := id VX433
  have hin476 : ¬ ((1 : Int32) < 0 ∨ cl476.slots.size ≤ ((1 : Int32)).toNatClampNeg) := inb_of Sz476 ⟨by decide, by decide⟩
  have hat476 : cl476.slots[((1 : Int32)).toNatClampNeg]? = some (.int r) := Hs476.at hin476 (rfl)
  have k479 : Rch p e below S0 T470 (mkF m 141 #[vR a1, vR ra, vR wN, vR b420, vI 1, vR rA, vI 2, vI r] [(.long (u ||| ((1 : Int64) <<< (r &&& 0x3f).toInt64))), (.int (0 : Int32)), (.ref rA)]) := fun t h => k477 t (by
      show Steps p.tables e below (T470.setTop (mkF m 138 #[vR a1, vR ra, vR wN, vR b420, vI 1, vR rA, vI 2, vI r] [(.int (1 : Int32)), (.ref b420), (.long (1 : Int64)), (.long u), (.int (0 : Int32)), (.ref rA)])) _
      refine X470.iaload hx (j := (1 : Int32)) (v := (.int r)) (by rw [hh470]; exact Ar476.1) (State.isArrayOf_alike hZ.alike Ar476.2.1) Ar476.2.2 hin476 hat476 (g := (mkF m 138 #[vR a1, vR ra, vR wN, vR b420, vI 1, vR rA, vI 2, vI r] [(.int (1 : Int32)), (.ref b420), (.long (1 : Int64)), (.long u), (.int (0 : Int32)), (.ref rA)])) rfl rfl (hb hby d4_138) _ ?_
      refine XS.lshl X470.here hx rfl (hb hby d4_139) rfl ?_
      refine XS.lor X470.here hx rfl (hb hby d4_140) rfl ?_
      exact h)
  obtain ⟨cl478, Ar478, q478, Sz478, Ng478, Hs478, G478⟩ := id VA
  have hin478 : ¬ ((0 : Int32) < 0 ∨ cl478.slots.size ≤ ((0 : Int32)).toNatClampNeg) := inb_of Sz478 ⟨by decide, by decide⟩
  obtain ⟨T478, h478, X478, e478, W478, st478⟩ := stJ X470 hx hZ hh470 Ar478 (j := (0 : Int32)) hin478 (g := (mkF m 141 #[vR a1, vR ra, vR wN, vR b420, vI 1, vR rA, vI 2, vI r] [(.long (u ||| ((1 : Int64) <<< (r &&& 0x3f).toInt64))), (.int (0 : Int32)), (.ref rA)])) rfl rfl (hb hby d4_141)
  have k480 : Rch p e below S0 T478 (mkF m 142 #[vR a1, vR ra, vR wN, vR b420, vI 1, vR rA, vI 2, vI r] []) := fun t h => k479 t (st478 t h)
  have N478 := Fr.snoc X478 N470 ge_rA
  have VA' := Arv.set Ar478 q478 Sz478 Ng478 Hs478 G478 rfl W478 0 rfl (Nat.le_of_ble_eq_true rfl)
  replace VA : Arv Z h478 rA kL .long (1 : Int32) [(.long (u ||| ((1 : Int64) <<< (r &&& 0x3f).toInt64)))] (.long (0 : Int64)) := VA'
  have O481 := O461.wr W478 ge_rA
  have K482 := K462.wr W478 (Or.inl (gm 0 rfl))
  replace Ew := Ew.wr W478
  replace Fh := Fh.other W478 (Or.inl ne_a1_rA)
  replace Fc := Fc.other W478 (Or.inl ne_a1_rA)
  replace Fw := Fw.other W478 (Or.inl ne_a1_rA)
  replace VH := VH.other W478 ne_aH_rA
  replace VB := VB.other W478 (Ne.symm ne_rA_rB)
  replace VR := VR.other W478 ne_ra_rA
  replace VX433 := VX433.other W478 (Ne.symm ne_rA_b420)
  have k484 : Rch p e below S0 T478 (mkF m 102 #[vR a1, vR ra, vR wN, vR b420, vI 2, vR rA, vI 2, vI r] [(.ref ra), (.int (2 : Int32))]) := fun t h => k480 t (by
      show Steps p.tables e below (T478.setTop (mkF m 142 #[vR a1, vR ra, vR wN, vR b420, vI 1, vR rA, vI 2, vI r] [])) _
      refine XS.iinc X478.here hx rfl (hb hby d4_142) rfl (l' := #[vR a1, vR ra, vR wN, vR b420, vI ((1 : Int32) + (1 : Int32)), vR rA, vI 2, vI r]) rfl ?_
      rw [(by decide : ((1 : Int32) + (1 : Int32)) = (2 : Int32))]
      refine XS.goto X478.here hx rfl (pc0 := 145) (pc' := 99) rfl (hb hby d4_145) (by decide) (by decide) ?_
      refine XS.iload X478.here hx rfl (hb hby d4_99) rfl ?_
      refine XS.aloadN X478.here hx rfl (hb hby d4_101) rfl rfl ?_
      exact h)
  obtain ⟨cl483, Ar483, q483, Sz483, Ng483, Hs483, G483⟩ := id VR
  have k485 : Rch p e below S0 T478 (mkF m 149 #[vR a1, vR ra, vR wN, vR b420, vI 2, vR rA, vI 2, vI r] [(.ref b420)]) := fun t h => k484 t (by
      show Steps p.tables e below (T478.setTop (mkF m 102 #[vR a1, vR ra, vR wN, vR b420, vI 2, vR rA, vI 2, vI r] [(.ref ra), (.int (2 : Int32))])) _
      refine X478.arraylength hx (by rw [e478]; exact Ar483.1) (State.isArrayOf_alike hZ.alike Ar483.2.1) (g := (mkF m 102 #[vR a1, vR ra, vR wN, vR b420, vI 2, vR rA, vI 2, vI r] [(.ref ra), (.int (2 : Int32))])) rfl rfl (hb hby d4_102) _ ?_
      rw [len_of Sz483 Ng483]
      refine XS.icmpYes X478.here hx rfl (pc0 := 103) (pc' := 148) rfl (hb hby d4_103) rfl (flt (by decide : ¬ ((2 : Int32) < (2 : Int32)))).2.1 (by decide) (by decide) ?_
      refine XS.aloadN X478.here hx rfl (hb hby d4_148) rfl rfl ?_
      exact h)
  obtain ⟨fs, hr, hrun, hended, hW, hsame⟩ := X478.leave (v := (some (.ref b420))) (fun h => by rw [Bd.returns] at h; cases h)
  refine ⟨_, _, ?_, hrun, hended, _, _, rfl, ?_, ⟨_, rfl⟩, hW, hsame.mono (by decide) (by decide)⟩
  · rw [← hS0]
    refine k485 _ ?_
    show Steps p.tables e below (T478.setTop (mkF m 149 #[vR a1, vR ra, vR wN, vR b420, vI 2, vR rA, vI 2, vI r] [(.ref b420)])) _
    jvm_step X478.here [X478.here.top, hx, (hb hby d4_149), X478.method', Bd.returns, Value.isRef, FieldType.isReference]
    first | (intro acts; rw [hr _ acts rfl rfl rfl]) | rw [hr _ _ rfl rfl rfl]
    exact Steps.refl _
  · show Q_rmT_R Z rA rB kL u vv r h0 n0 _ T478.heap _
    rw [e478]
    exact ⟨b420, k420, rfl, N478, K482, sz_b420, VX433, VA, VB⟩
def Q_rmT_N0 (Z : State) (rA : Addr) (rB : Addr) (h0 : Heap) (n0 : Nat) (v : Option Value) (h : Heap) (L : List Loc) : Prop := v = some .null ∧ Fr n0 L ∧ Keep h0 h [rA, rB]
theorem d4_27 : decode prog_37_method_2_code 27 = .ok (.iconst 0, 1) := by decide +kernel
theorem d4_28 : decode prog_37_method_2_code 28 = .ok (.istore 4, 2) := by decide +kernel
theorem d4_30 : decode prog_37_method_2_code 30 = .ok (.iload 4, 2) := by decide +kernel
theorem d4_32 : decode prog_37_method_2_code 32 = .ok (.aload_n 1, 1) := by decide +kernel
theorem d4_33 : decode prog_37_method_2_code 33 = .ok (.arraylength, 1) := by decide +kernel
theorem d4_34 : decode prog_37_method_2_code 34 = .ok (.if_icmp .ge 24, 3) := by decide +kernel
theorem d4_37 : decode prog_37_method_2_code 37 = .ok (.aload_n 3, 1) := by decide +kernel
theorem d4_38 : decode prog_37_method_2_code 38 = .ok (.iload 4, 2) := by decide +kernel
theorem d4_40 : decode prog_37_method_2_code 40 = .ok (.aload_n 0, 1) := by decide +kernel
theorem d4_41 : decode prog_37_method_2_code 41 = .ok (.aload_n 1, 1) := by decide +kernel
theorem d4_42 : decode prog_37_method_2_code 42 = .ok (.iload 4, 2) := by decide +kernel
theorem d4_44 : decode prog_37_method_2_code 44 = .ok (.iload 4, 2) := by decide +kernel
theorem d4_46 : decode prog_37_method_2_code 46 = .ok (.iconst 1, 1) := by decide +kernel
theorem d4_47 : decode prog_37_method_2_code 47 = .ok (.iadd, 1) := by decide +kernel
theorem d4_48 : decode prog_37_method_2_code 48 = .ok (.invokevirtual 31, 3) := by decide +kernel
theorem d4_51 : decode prog_37_method_2_code 51 = .ok (.iastore, 1) := by decide +kernel
theorem d4_52 : decode prog_37_method_2_code 52 = .ok (.iinc 4 1, 3) := by decide +kernel
theorem d4_55 : decode prog_37_method_2_code 55 = .ok (.goto (-25), 3) := by decide +kernel
theorem d4_88 : decode prog_37_method_2_code 88 = .ok (.aconst_null, 1) := by decide +kernel
theorem d4_89 : decode prog_37_method_2_code 89 = .ok (.areturn, 1) := by decide +kernel
set_option maxRecDepth 65536 in
set_option maxHeartbeats 40000000 in
theorem rmT_N0 (l : Launch) (Z : State) (a0 : Array Value) (hw : ∀ d ∈ tables_1, d.before a0 Z = true) (ws : List Jvm.Cond) (a1 : Addr) (aH : Addr) (rA : Addr) (rB : Addr) (kH : ClassId) (kL : ClassId) (cn : Int32) (wd : Int32) (u : Int64) (vv : Int64) (ra : Addr) (kR : ClassId) (r0 : Int32) (r1 : Int32) (l1 : Int32) (wN : Addr) (wF : Addr) (h0 : Heap) (n0 : Nat) (O0 : Old Z n0 h0) (ge_rA : n0 ≤ rA) (ge_rB : n0 ≤ rB) (Ew : Exa Z h0 a1 "com/example/lumenplan/lumenplan/simulation/Wavelengths") (Fh : Fld Z h0 a1 "com/example/lumenplan/lumenplan/simulation/Wavelengths" "held" "[[J" (.ref aH)) (VH : Arv Z h0 aH kH (.array .long) (2 : Int32) [(.ref rA), (.ref rB)] .null) (VA : Arv Z h0 rA kL .long (1 : Int32) [(.long u)] (.long (0 : Int64))) (VB : Arv Z h0 rB kL .long (1 : Int32) [(.long vv)] (.long (0 : Int64))) (Fc : Fld Z h0 a1 "com/example/lumenplan/lumenplan/simulation/Wavelengths" "count" "I" (.int cn)) (Fw : Fld Z h0 a1 "com/example/lumenplan/lumenplan/simulation/Wavelengths" "words" "I" (.int wd)) (VR : Arv Z h0 ra kR .int (2 : Int32) [(.int (0 : Int32)), (.int (1 : Int32))] (.int (0 : Int32))) (SN : Sta Z Z.heap "com/example/lumenplan/lumenplan/simulation/Conversion" "NONE" "Lcom/example/lumenplan/lumenplan/simulation/Conversion;" (.ref wN)) (hne : wF ≠ wN) (hN0 : NT u r0) (hN1 : NT vv r1) (hw0 : (0 : Int32) < wd) (hc0 : ¬ r0 < cn) (hl1 : (r1 < cn ∧ l1 = r1) ∨ (¬ r1 < cn ∧ l1 = (-1 : Int32))) (ne_a1_rA : a1 ≠ rA) (ne_a1_rB : a1 ≠ rB) (ne_aH_rA : aH ≠ rA) (ne_aH_rB : aH ≠ rB) (ne_rA_rB : rA ≠ rB) (ne_ra_rA : ra ≠ rA) (ne_ra_rB : ra ≠ rB) :
    MetFree l (⟨"com/example/lumenplan/lumenplan/simulation/Wavelengths", "take", "([ILcom/example/lumenplan/lumenplan/simulation/Conversion;)[I"⟩ : MethodName) (head1 (Jvm.Cond.code (⟨"com/example/lumenplan/lumenplan/simulation/Wavelengths", "take", "([ILcom/example/lumenplan/lumenplan/simulation/Conversion;)[I"⟩ : MethodName) prog_37_method_2_code 8 (some (.array .int)) :: ws) ({ frames := 3, cells := 1, slots := 2, locals := 110 } : Room)) (fun a U => a = #[(.ref a1), (.ref ra), (.ref wF)] ∧ Z.Warmed39 U.vm ∧ U.heap = h0) (fun _ _ _ _ _ => True) (fun _ U o U' => ∃ v L, o = .returned v ∧ Q_rmT_N0 Z rA rB h0 n0 v U'.heap L ∧ FrameEnd U o U' L ({ frames := 3, cells := 1, slots := 2, locals := 110 } : Room).cells ({ frames := 3, cells := 1, slots := 2, locals := 110 } : Room).slots) := by
  refine MetFree.of_bodySF (plainFor_of_name pn_Wavelengths) hisR ?_
  intro p e s m args below meth c s₁ Bd hml0 hP hK
  obtain ⟨rfl, hZ, hh⟩ := hP
  have hx := Bd.exec
  have hby := Bd.bytes
  have hml : c.maxLocals = 8 := hml0
  have hown : s.vm.findClass "com/example/lumenplan/lumenplan/simulation/Wavelengths" = some m.cls := findClass_of_methodNamed Bd.named
  have hnm := (name_of_methodNamed Bd.named Bd.method).1
  have X0 : Stand p l e ({ frames := 3, cells := 1, slots := 2, locals := 110 } : Room) s m #[(.ref a1), (.ref ra), (.ref wF)] below meth c s₁ [] 0 0 := Stand.of_body Bd
  have e0 : s₁.heap = h0 := by rw [← hh, Bd.state]; rfl
  have N0 := Fr.nil n0
  obtain ⟨S0, hS0⟩ : ∃ z, z = s₁.setTop (entryFrame m #[(.ref a1), (.ref ra), (.ref wF)] 8) := ⟨_, rfl⟩
  have k0 : Rch p e below S0 s₁ (mkF m 0 #[vR a1, vR ra, vR wF, vU, vU, vU, vU, vU] []) := fun t kq => hS0 ▸ castTop (ef_4 m a1 ra wF) kq
  have K0 : Keep h0 h0 [rA, rB] := Keep.refl h0 _
  have k487 : Rch p e below S0 s₁ (mkF m 1 #[vR a1, vR ra, vR wF, vU, vU, vU, vU, vU] [(.ref ra)]) := fun t h => k0 t (by
      show Steps p.tables e below (s₁.setTop (mkF m 0 #[vR a1, vR ra, vR wF, vU, vU, vU, vU, vU] [])) _
      refine XS.aloadN X0.here hx rfl (hb hby d4_0) rfl rfl ?_
      exact h)
  obtain ⟨cl486, Ar486, q486, Sz486, Ng486, Hs486, G486⟩ := id VR
  have k489 : Rch p e below S0 s₁ (mkF m 2 #[vR a1, vR ra, vR wF, vU, vU, vU, vU, vU] [(.int (2 : Int32))]) := fun t h => k487 t (by
      show Steps p.tables e below (s₁.setTop (mkF m 1 #[vR a1, vR ra, vR wF, vU, vU, vU, vU, vU] [(.ref ra)])) _
      refine X0.arraylength hx (by rw [e0]; exact Ar486.1) (State.isArrayOf_alike hZ.alike Ar486.2.1) (g := (mkF m 1 #[vR a1, vR ra, vR wF, vU, vU, vU, vU, vU] [(.ref ra)])) rfl rfl (hb hby d4_1) _ ?_
      rw [len_of Sz486 Ng486]
      exact h)
  obtain ⟨T488, h488, k488, X488, e488, E488, A488, st488⟩ := newP X0 hx hZ (hw _ (gm 4 rfl)) e0 (g := (mkF m 2 #[vR a1, vR ra, vR wF, vU, vU, vU, vU, vU] [(.int (2 : Int32))])) rfl (hb hby d4_2) rfl (by decide) (cap := 2) (by decide) (by decide) (by decide) (by decide)
  obtain ⟨b488, g488⟩ : ∃ z, z = h0.size := ⟨_, rfl⟩
  rw [← g488] at A488 st488
  have k490 : Rch p e below S0 T488 (mkF m 4 #[vR a1, vR ra, vR wF, vU, vU, vU, vU, vU] [(.ref b488)]) := fun t h => k489 t (st488 t h)
  have ne_a1_b488 : a1 ≠ b488 := own_ne Ew.lt (Nat.le_of_eq g488.symm)
  have ne_aH_b488 : aH ≠ b488 := own_ne VH.lt (Nat.le_of_eq g488.symm)
  have ne_rA_b488 : rA ≠ b488 := own_ne VA.lt (Nat.le_of_eq g488.symm)
  have ne_rB_b488 : rB ≠ b488 := own_ne VB.lt (Nat.le_of_eq g488.symm)
  have ne_ra_b488 : ra ≠ b488 := own_ne VR.lt (Nat.le_of_eq g488.symm)
  have ge_b488 : n0 ≤ b488 := own_ge O0 (Nat.le_of_eq g488.symm)
  have sz_b488 : h0.size ≤ b488 := Nat.le_trans K0.1 (Nat.le_of_eq g488.symm)
  have O491 := O0.ext E488
  have K492 := K0.ext E488
  replace Ew := Ew.ext E488
  replace Fh := Fh.ext E488
  replace Fc := Fc.ext E488
  replace Fw := Fw.ext E488
  replace VH := VH.ext E488
  replace VA := VA.ext E488
  replace VB := VB.ext E488
  replace VR := VR.ext E488
  have V_b488 : Arv Z h488 b488 k488 .int (2 : Int32) [(.int (0 : Int32)), (.int (0 : Int32))] (.int (0 : Int32)) := (Arv.new A488 (by decide)).pad (pad_rep [] (.int (0 : Int32)) 2)
  have k494 : Rch p e below S0 T488 (mkF m 6 #[vR a1, vR ra, vR wF, vR b488, vU, vU, vU, vU] [(.ref wF)]) := fun t h => k490 t (by
      show Steps p.tables e below (T488.setTop (mkF m 4 #[vR a1, vR ra, vR wF, vU, vU, vU, vU, vU] [(.ref b488)])) _
      refine XS.astoreN X488.here hx rfl (hb hby d4_4) rfl rfl (l' := #[vR a1, vR ra, vR wF, vR b488, vU, vU, vU, vU]) rfl ?_
      refine XS.aloadN X488.here hx rfl (hb hby d4_5) rfl rfl ?_
      exact h)
  obtain ⟨T493, X493, e493, st493⟩ := getS2 X488 hx hZ hown (host := "") (Or.inl (hw _ (gm 32 rfl))) Via.refl e488 (SN.ext O491.2) (g := (mkF m 6 #[vR a1, vR ra, vR wF, vR b488, vU, vU, vU, vU] [(.ref wF)])) rfl (hb hby d4_6)
  have k495 : Rch p e below S0 T493 (mkF m 9 #[vR a1, vR ra, vR wF, vR b488, vU, vU, vU, vU] [(.ref wN), (.ref wF)]) := fun t h => k494 t (st493 t h)
  have k497 : Rch p e below S0 T493 (mkF m 33 #[vR a1, vR ra, vR wF, vR b488, vI 0, vU, vU, vU] [(.ref ra), (.int (0 : Int32))]) := fun t h => k495 t (by
      show Steps p.tables e below (T493.setTop (mkF m 9 #[vR a1, vR ra, vR wF, vR b488, vU, vU, vU, vU] [(.ref wN), (.ref wF)])) _
      refine Jvm.RoadKit.acmp (g := (mkF m 9 #[vR a1, vR ra, vR wF, vR b488, vU, vU, vU, vU] [(.ref wN), (.ref wF)])) X493 hx rfl rfl rfl (pc0 := 9) (pc' := 27) (same := false) rfl (hb hby d4_9) rfl (decide_eq_false fun q => hne (Value.ref.inj q)) (by decide) (by decide) ?_
      refine XS.iconst X493.here hx rfl (hb hby d4_27) ?_
      refine XS.istore X493.here hx rfl (hb hby d4_28) rfl (l' := #[vR a1, vR ra, vR wF, vR b488, vI 0, vU, vU, vU]) rfl ?_
      refine XS.iload X493.here hx rfl (hb hby d4_30) rfl ?_
      refine XS.aloadN X493.here hx rfl (hb hby d4_32) rfl rfl ?_
      exact h)
  obtain ⟨cl496, Ar496, q496, Sz496, Ng496, Hs496, G496⟩ := id VR
  have k498 : Rch p e below S0 T493 (mkF m 48 #[vR a1, vR ra, vR wF, vR b488, vI 0, vU, vU, vU] [(.int (1 : Int32)), (.int (0 : Int32)), (.ref ra), (.ref a1), (.int (0 : Int32)), (.ref b488)]) := fun t h => k497 t (by
      show Steps p.tables e below (T493.setTop (mkF m 33 #[vR a1, vR ra, vR wF, vR b488, vI 0, vU, vU, vU] [(.ref ra), (.int (0 : Int32))])) _
      refine X493.arraylength hx (by rw [e493]; exact Ar496.1) (State.isArrayOf_alike hZ.alike Ar496.2.1) (g := (mkF m 33 #[vR a1, vR ra, vR wF, vR b488, vI 0, vU, vU, vU] [(.ref ra), (.int (0 : Int32))])) rfl rfl (hb hby d4_33) _ ?_
      rw [len_of Sz496 Ng496]
      refine XS.icmpNo X493.here hx rfl (hb hby d4_34) rfl (tlt (by decide : (0 : Int32) < (2 : Int32))).2.1 ?_
      refine XS.aloadN X493.here hx rfl (hb hby d4_37) rfl rfl ?_
      refine XS.iload X493.here hx rfl (hb hby d4_38) rfl ?_
      refine XS.aloadN X493.here hx rfl (hb hby d4_40) rfl rfl ?_
      refine XS.aloadN X493.here hx rfl (hb hby d4_41) rfl rfl ?_
      refine XS.iload X493.here hx rfl (hb hby d4_42) rfl ?_
      refine XS.iload X493.here hx rfl (hb hby d4_44) rfl ?_
      refine XS.iconst X493.here hx rfl (hb hby d4_46) ?_
      show Steps p.tables e below (T493.setTop (mkF m 47 #[vR a1, vR ra, vR wF, vR b488, vI 0, vU, vU, vU] [(.int (1 : Int32)), (.int (0 : Int32)), (.int (0 : Int32)), (.ref ra), (.ref a1), (.int (0 : Int32)), (.ref b488)])) _
      refine XS.iadd X493.here hx rfl (hb hby d4_47) rfl ?_
      rw [(by decide : ((0 : Int32) + (1 : Int32)) = (1 : Int32))]
      exact h)
  obtain ⟨cq499, q499, q499'⟩ := Ew.cell
  obtain ⟨_, _, ⟨T499, L499, kk499, n499⟩, -, X499, ⟨Lc499, hQ499, l499, y499, z499⟩, st499⟩ := X493.privateBack hx (y := (⟨"com/example/lumenplan/lumenplan/simulation/Wavelengths", "lowestFree", "([III)I"⟩ : MethodName)) hown (mvT hZ (hw _ (gm 33 rfl))) (mvT hZ (hw _ (gm 34 rfl))) (mvT hZ (own_selects (hw _ (gm 6 rfl)) (hw _ (gm 34 rfl)) (hw _ (gm 35 rfl)) (by decide))) (Cond.privateMethod_at (mvP hZ (hw _ (gm 35 rfl)) (args := #[]))) (mvT hZ (hw _ (gm 36 rfl))) (by decide) (backOf (W := 2) (rmF_A2 l Z a0 hw []  a1 aH rA rB kH kL cn wd u vv ra kR r0 (-1 : Int32) h488 n0 O491 Fh VH VA VB Fc Fw VR hN0 hw0 (Or.inr ⟨hc0, rfl⟩)) hZ (hw _ (gm 36 rfl)) (hw _ (gm 7 rfl)) (by decide) (by decide)) (g := (mkF m 48 #[vR a1, vR ra, vR wF, vR b488, vI 0, vU, vU, vU] [(.int (1 : Int32)), (.int (0 : Int32)), (.ref ra), (.ref a1), (.int (0 : Int32)), (.ref b488)])) rfl (by rw [hml]; rfl) (Steps.refl _) (a := a1) (by rw [e493]; exact q499) q499' (argsL := [(.ref ra), (.int (0 : Int32)), (.int (1 : Int32))]) (rest := [(.int (0 : Int32)), (.ref b488)]) (lenOf pd_4 rfl) rfl (by show 2 * 0 + _ ≤ _; exact Nat.le_of_eq rfl) (hb hby d4_48) (fun _ _ => ⟨rfl, e493, (by decide : 1 + 0 ≤ _), (by decide : 2 + 0 ≤ _)⟩)
  dsimp only [Pt.U, Pt.locs, Pt.cells, Pt.slots] at X499 l499 y499 z499 st499 hQ499
  subst l499 y499 z499
  obtain ⟨rfl, Nq499, hh499⟩ := hQ499
  have N499 := Fr.app N0 Nq499
  have k500 : Rch p e below S0 T499 (mkF m 51 #[vR a1, vR ra, vR wF, vR b488, vI 0, vU, vU, vU] [(.int (-1 : Int32)), (.int (0 : Int32)), (.ref b488)]) := fun t h => k498 t (st499.trans h)
  obtain ⟨cl501, Ar501, q501, Sz501, Ng501, Hs501, G501⟩ := id V_b488
  have hin501 : ¬ ((0 : Int32) < 0 ∨ cl501.slots.size ≤ ((0 : Int32)).toNatClampNeg) := inb_of Sz501 ⟨by decide, by decide⟩
  obtain ⟨T501, h501, X501, e501, W501, st501⟩ := stI X499 hx hZ hh499 Ar501 (j := (0 : Int32)) hin501 (g := (mkF m 51 #[vR a1, vR ra, vR wF, vR b488, vI 0, vU, vU, vU] [(.int (-1 : Int32)), (.int (0 : Int32)), (.ref b488)])) rfl rfl (hb hby d4_51)
  have k502 : Rch p e below S0 T501 (mkF m 52 #[vR a1, vR ra, vR wF, vR b488, vI 0, vU, vU, vU] []) := fun t h => k500 t (st501 t h)
  have N501 := Fr.snoc X501 N499 ge_b488
  have V_b488' := Arv.set Ar501 q501 Sz501 Ng501 Hs501 G501 rfl W501 0 rfl (Nat.le_of_ble_eq_true rfl)
  replace V_b488 : Arv Z h501 b488 k488 .int (2 : Int32) [(.int (-1 : Int32)), (.int (0 : Int32))] (.int (0 : Int32)) := V_b488'
  have O503 := O491.wr W501 ge_b488
  have K504 := K492.wr W501 (Or.inr sz_b488)
  replace Ew := Ew.wr W501
  replace Fh := Fh.other W501 (Or.inl ne_a1_b488)
  replace Fc := Fc.other W501 (Or.inl ne_a1_b488)
  replace Fw := Fw.other W501 (Or.inl ne_a1_b488)
  replace VH := VH.other W501 ne_aH_b488
  replace VA := VA.other W501 ne_rA_b488
  replace VB := VB.other W501 ne_rB_b488
  replace VR := VR.other W501 ne_ra_b488
  have k506 : Rch p e below S0 T501 (mkF m 33 #[vR a1, vR ra, vR wF, vR b488, vI 1, vU, vU, vU] [(.ref ra), (.int (1 : Int32))]) := fun t h => k502 t (by
      show Steps p.tables e below (T501.setTop (mkF m 52 #[vR a1, vR ra, vR wF, vR b488, vI 0, vU, vU, vU] [])) _
      refine XS.iinc X501.here hx rfl (hb hby d4_52) rfl (l' := #[vR a1, vR ra, vR wF, vR b488, vI ((0 : Int32) + (1 : Int32)), vU, vU, vU]) rfl ?_
      rw [(by decide : ((0 : Int32) + (1 : Int32)) = (1 : Int32))]
      refine XS.goto X501.here hx rfl (pc0 := 55) (pc' := 30) rfl (hb hby d4_55) (by decide) (by decide) ?_
      refine XS.iload X501.here hx rfl (hb hby d4_30) rfl ?_
      refine XS.aloadN X501.here hx rfl (hb hby d4_32) rfl rfl ?_
      exact h)
  obtain ⟨cl505, Ar505, q505, Sz505, Ng505, Hs505, G505⟩ := id VR
  have k507 : Rch p e below S0 T501 (mkF m 48 #[vR a1, vR ra, vR wF, vR b488, vI 1, vU, vU, vU] [(.int (2 : Int32)), (.int (1 : Int32)), (.ref ra), (.ref a1), (.int (1 : Int32)), (.ref b488)]) := fun t h => k506 t (by
      show Steps p.tables e below (T501.setTop (mkF m 33 #[vR a1, vR ra, vR wF, vR b488, vI 1, vU, vU, vU] [(.ref ra), (.int (1 : Int32))])) _
      refine X501.arraylength hx (by rw [e501]; exact Ar505.1) (State.isArrayOf_alike hZ.alike Ar505.2.1) (g := (mkF m 33 #[vR a1, vR ra, vR wF, vR b488, vI 1, vU, vU, vU] [(.ref ra), (.int (1 : Int32))])) rfl rfl (hb hby d4_33) _ ?_
      rw [len_of Sz505 Ng505]
      refine XS.icmpNo X501.here hx rfl (hb hby d4_34) rfl (tlt (by decide : (1 : Int32) < (2 : Int32))).2.1 ?_
      refine XS.aloadN X501.here hx rfl (hb hby d4_37) rfl rfl ?_
      refine XS.iload X501.here hx rfl (hb hby d4_38) rfl ?_
      refine XS.aloadN X501.here hx rfl (hb hby d4_40) rfl rfl ?_
      refine XS.aloadN X501.here hx rfl (hb hby d4_41) rfl rfl ?_
      refine XS.iload X501.here hx rfl (hb hby d4_42) rfl ?_
      refine XS.iload X501.here hx rfl (hb hby d4_44) rfl ?_
      refine XS.iconst X501.here hx rfl (hb hby d4_46) ?_
      show Steps p.tables e below (T501.setTop (mkF m 47 #[vR a1, vR ra, vR wF, vR b488, vI 1, vU, vU, vU] [(.int (1 : Int32)), (.int (1 : Int32)), (.int (1 : Int32)), (.ref ra), (.ref a1), (.int (1 : Int32)), (.ref b488)])) _
      refine XS.iadd X501.here hx rfl (hb hby d4_47) rfl ?_
      rw [(by decide : ((1 : Int32) + (1 : Int32)) = (2 : Int32))]
      exact h)
  obtain ⟨cq508, q508, q508'⟩ := Ew.cell
  obtain ⟨_, _, ⟨T508, L508, kk508, n508⟩, -, X508, ⟨Lc508, hQ508, l508, y508, z508⟩, st508⟩ := X501.privateBack hx (y := (⟨"com/example/lumenplan/lumenplan/simulation/Wavelengths", "lowestFree", "([III)I"⟩ : MethodName)) hown (mvT hZ (hw _ (gm 33 rfl))) (mvT hZ (hw _ (gm 34 rfl))) (mvT hZ (own_selects (hw _ (gm 6 rfl)) (hw _ (gm 34 rfl)) (hw _ (gm 35 rfl)) (by decide))) (Cond.privateMethod_at (mvP hZ (hw _ (gm 35 rfl)) (args := #[]))) (mvT hZ (hw _ (gm 36 rfl))) (by decide) (backOf (W := 2) (rmF_B2 l Z a0 hw []  a1 aH rA rB kH kL cn wd u vv ra kR r1 l1 h501 n0 O503 Fh VH VA VB Fc Fw VR hN1 hw0 hl1) hZ (hw _ (gm 36 rfl)) (hw _ (gm 7 rfl)) (by decide) (by decide)) (g := (mkF m 48 #[vR a1, vR ra, vR wF, vR b488, vI 1, vU, vU, vU] [(.int (2 : Int32)), (.int (1 : Int32)), (.ref ra), (.ref a1), (.int (1 : Int32)), (.ref b488)])) rfl (by rw [hml]; rfl) (Steps.refl _) (a := a1) (by rw [e501]; exact q508) q508' (argsL := [(.ref ra), (.int (1 : Int32)), (.int (2 : Int32))]) (rest := [(.int (1 : Int32)), (.ref b488)]) (lenOf pd_4 rfl) rfl (by show 2 * 0 + _ ≤ _; exact Nat.le_of_eq rfl) (hb hby d4_48) (fun _ _ => ⟨rfl, e501, (by decide : 1 + 0 ≤ _), (by decide : 2 + 0 ≤ _)⟩)
  dsimp only [Pt.U, Pt.locs, Pt.cells, Pt.slots] at X508 l508 y508 z508 st508 hQ508
  subst l508 y508 z508
  obtain ⟨rfl, Nq508, hh508⟩ := hQ508
  have N508 := Fr.app N501 Nq508
  have k509 : Rch p e below S0 T508 (mkF m 51 #[vR a1, vR ra, vR wF, vR b488, vI 1, vU, vU, vU] [(.int l1), (.int (1 : Int32)), (.ref b488)]) := fun t h => k507 t (st508.trans h)
  obtain ⟨cl510, Ar510, q510, Sz510, Ng510, Hs510, G510⟩ := id V_b488
  have hin510 : ¬ ((1 : Int32) < 0 ∨ cl510.slots.size ≤ ((1 : Int32)).toNatClampNeg) := inb_of Sz510 ⟨by decide, by decide⟩
  obtain ⟨T510, h510, X510, e510, W510, st510⟩ := stI X508 hx hZ hh508 Ar510 (j := (1 : Int32)) hin510 (g := (mkF m 51 #[vR a1, vR ra, vR wF, vR b488, vI 1, vU, vU, vU] [(.int l1), (.int (1 : Int32)), (.ref b488)])) rfl rfl (hb hby d4_51)
  have k511 : Rch p e below S0 T510 (mkF m 52 #[vR a1, vR ra, vR wF, vR b488, vI 1, vU, vU, vU] []) := fun t h => k509 t (st510 t h)
  have N510 := Fr.snoc X510 N508 ge_b488
  have V_b488' := Arv.set Ar510 q510 Sz510 Ng510 Hs510 G510 rfl W510 1 rfl (Nat.le_of_ble_eq_true rfl)
  replace V_b488 : Arv Z h510 b488 k488 .int (2 : Int32) [(.int (-1 : Int32)), (.int l1)] (.int (0 : Int32)) := V_b488'
  have O512 := O503.wr W510 ge_b488
  have K513 := K504.wr W510 (Or.inr sz_b488)
  replace Ew := Ew.wr W510
  replace Fh := Fh.other W510 (Or.inl ne_a1_b488)
  replace Fc := Fc.other W510 (Or.inl ne_a1_b488)
  replace Fw := Fw.other W510 (Or.inl ne_a1_b488)
  replace VH := VH.other W510 ne_aH_b488
  replace VA := VA.other W510 ne_rA_b488
  replace VB := VB.other W510 ne_rB_b488
  replace VR := VR.other W510 ne_ra_b488
  have k515 : Rch p e below S0 T510 (mkF m 33 #[vR a1, vR ra, vR wF, vR b488, vI 2, vU, vU, vU] [(.ref ra), (.int (2 : Int32))]) := fun t h => k511 t (by
      show Steps p.tables e below (T510.setTop (mkF m 52 #[vR a1, vR ra, vR wF, vR b488, vI 1, vU, vU, vU] [])) _
      refine XS.iinc X510.here hx rfl (hb hby d4_52) rfl (l' := #[vR a1, vR ra, vR wF, vR b488, vI ((1 : Int32) + (1 : Int32)), vU, vU, vU]) rfl ?_
      rw [(by decide : ((1 : Int32) + (1 : Int32)) = (2 : Int32))]
      refine XS.goto X510.here hx rfl (pc0 := 55) (pc' := 30) rfl (hb hby d4_55) (by decide) (by decide) ?_
      refine XS.iload X510.here hx rfl (hb hby d4_30) rfl ?_
      refine XS.aloadN X510.here hx rfl (hb hby d4_32) rfl rfl ?_
      exact h)
  obtain ⟨cl514, Ar514, q514, Sz514, Ng514, Hs514, G514⟩ := id VR
  have k517 : Rch p e below S0 T510 (mkF m 63 #[vR a1, vR ra, vR wF, vR b488, vR b488, vU, vU, vU] [(.ref b488)]) := fun t h => k515 t (by
      show Steps p.tables e below (T510.setTop (mkF m 33 #[vR a1, vR ra, vR wF, vR b488, vI 2, vU, vU, vU] [(.ref ra), (.int (2 : Int32))])) _
      refine X510.arraylength hx (by rw [e510]; exact Ar514.1) (State.isArrayOf_alike hZ.alike Ar514.2.1) (g := (mkF m 33 #[vR a1, vR ra, vR wF, vR b488, vI 2, vU, vU, vU] [(.ref ra), (.int (2 : Int32))])) rfl rfl (hb hby d4_33) _ ?_
      rw [len_of Sz514 Ng514]
      refine XS.icmpYes X510.here hx rfl (pc0 := 34) (pc' := 58) rfl (hb hby d4_34) rfl (flt (by decide : ¬ ((2 : Int32) < (2 : Int32)))).2.1 (by decide) (by decide) ?_
      refine XS.aloadN X510.here hx rfl (hb hby d4_58) rfl rfl ?_
      refine XS.astore X510.here hx rfl (hb hby d4_59) rfl rfl (l' := #[vR a1, vR ra, vR wF, vR b488, vR b488, vU, vU, vU]) rfl ?_
      refine XS.aload X510.here hx rfl (hb hby d4_61) rfl rfl ?_
      exact h)
  obtain ⟨cl516, Ar516, q516, Sz516, Ng516, Hs516, G516⟩ := id V_b488
  have k519 : Rch p e below S0 T510 (mkF m 80 #[vR a1, vR ra, vR wF, vR b488, vR b488, vI 2, vI 0, vU] [(.int (0 : Int32)), (.ref b488)]) := fun t h => k517 t (by
      show Steps p.tables e below (T510.setTop (mkF m 63 #[vR a1, vR ra, vR wF, vR b488, vR b488, vU, vU, vU] [(.ref b488)])) _
      refine X510.arraylength hx (by rw [e510]; exact Ar516.1) (State.isArrayOf_alike hZ.alike Ar516.2.1) (g := (mkF m 63 #[vR a1, vR ra, vR wF, vR b488, vR b488, vU, vU, vU] [(.ref b488)])) rfl rfl (hb hby d4_63) _ ?_
      rw [len_of Sz516 Ng516]
      refine XS.istore X510.here hx rfl (hb hby d4_64) rfl (l' := #[vR a1, vR ra, vR wF, vR b488, vR b488, vI 2, vU, vU]) rfl ?_
      refine XS.iconst X510.here hx rfl (hb hby d4_66) ?_
      refine XS.istore X510.here hx rfl (hb hby d4_67) rfl (l' := #[vR a1, vR ra, vR wF, vR b488, vR b488, vI 2, vI 0, vU]) rfl ?_
      refine XS.iload X510.here hx rfl (hb hby d4_69) rfl ?_
      refine XS.iload X510.here hx rfl (hb hby d4_71) rfl ?_
      refine XS.icmpNo X510.here hx rfl (hb hby d4_73) rfl (tlt (by decide : (0 : Int32) < (2 : Int32))).2.1 ?_
      refine XS.aload X510.here hx rfl (hb hby d4_76) rfl rfl ?_
      refine XS.iload X510.here hx rfl (hb hby d4_78) rfl ?_
      exact h)
  obtain ⟨cl518, Ar518, q518, Sz518, Ng518, Hs518, G518⟩ := id V_b488
  have hin518 : ¬ ((0 : Int32) < 0 ∨ cl518.slots.size ≤ ((0 : Int32)).toNatClampNeg) := inb_of Sz518 ⟨by decide, by decide⟩
  have hat518 : cl518.slots[((0 : Int32)).toNatClampNeg]? = some (.int (-1 : Int32)) := Hs518.at hin518 (rfl)
  have k520 : Rch p e below S0 T510 (mkF m 89 #[vR a1, vR ra, vR wF, vR b488, vR b488, vI 2, vI 0, vI (-1)] [.null]) := fun t h => k519 t (by
      show Steps p.tables e below (T510.setTop (mkF m 80 #[vR a1, vR ra, vR wF, vR b488, vR b488, vI 2, vI 0, vU] [(.int (0 : Int32)), (.ref b488)])) _
      refine X510.iaload hx (j := (0 : Int32)) (v := (.int (-1 : Int32))) (by rw [e510]; exact Ar518.1) (State.isArrayOf_alike hZ.alike Ar518.2.1) Ar518.2.2 hin518 hat518 (g := (mkF m 80 #[vR a1, vR ra, vR wF, vR b488, vR b488, vI 2, vI 0, vU] [(.int (0 : Int32)), (.ref b488)])) rfl rfl (hb hby d4_80) _ ?_
      refine XS.istore X510.here hx rfl (hb hby d4_81) rfl (l' := #[vR a1, vR ra, vR wF, vR b488, vR b488, vI 2, vI 0, vI (-1)]) rfl ?_
      refine XS.iload X510.here hx rfl (hb hby d4_83) rfl ?_
      refine XS.ifNo X510.here hx rfl (hb hby d4_85) rfl ((if0 _ _).trans (tlt (by decide : (-1 : Int32) < (0 : Int32))).2.1) ?_
      refine XS.aconstNull X510.here hx rfl (hb hby d4_88) ?_
      exact h)
  obtain ⟨fs, hr, hrun, hended, hW, hsame⟩ := X510.leave (v := (some .null)) (fun h => by rw [Bd.returns] at h; cases h)
  refine ⟨_, _, ?_, hrun, hended, _, _, rfl, ?_, ⟨_, rfl⟩, hW, hsame.mono (by decide) (by decide)⟩
  · rw [← hS0]
    refine k520 _ ?_
    show Steps p.tables e below (T510.setTop (mkF m 89 #[vR a1, vR ra, vR wF, vR b488, vR b488, vI 2, vI 0, vI (-1)] [.null])) _
    jvm_step X510.here [X510.here.top, hx, (hb hby d4_89), X510.method', Bd.returns, Value.isRef, FieldType.isReference]
    first | (intro acts; rw [hr _ acts rfl rfl rfl]) | rw [hr _ _ rfl rfl rfl]
    exact Steps.refl _
  · show Q_rmT_N0 Z rA rB h0 n0 _ T510.heap _
    rw [e510]
    exact ⟨rfl, N510, K513⟩
def Q_rmT_N1 (Z : State) (rA : Addr) (rB : Addr) (h0 : Heap) (n0 : Nat) (v : Option Value) (h : Heap) (L : List Loc) : Prop := v = some .null ∧ Fr n0 L ∧ Keep h0 h [rA, rB]
set_option maxRecDepth 65536 in
set_option maxHeartbeats 40000000 in
theorem rmT_N1 (l : Launch) (Z : State) (a0 : Array Value) (hw : ∀ d ∈ tables_1, d.before a0 Z = true) (ws : List Jvm.Cond) (a1 : Addr) (aH : Addr) (rA : Addr) (rB : Addr) (kH : ClassId) (kL : ClassId) (cn : Int32) (wd : Int32) (u : Int64) (vv : Int64) (ra : Addr) (kR : ClassId) (r0 : Int32) (r1 : Int32) (wN : Addr) (wF : Addr) (h0 : Heap) (n0 : Nat) (O0 : Old Z n0 h0) (ge_rA : n0 ≤ rA) (ge_rB : n0 ≤ rB) (Ew : Exa Z h0 a1 "com/example/lumenplan/lumenplan/simulation/Wavelengths") (Fh : Fld Z h0 a1 "com/example/lumenplan/lumenplan/simulation/Wavelengths" "held" "[[J" (.ref aH)) (VH : Arv Z h0 aH kH (.array .long) (2 : Int32) [(.ref rA), (.ref rB)] .null) (VA : Arv Z h0 rA kL .long (1 : Int32) [(.long u)] (.long (0 : Int64))) (VB : Arv Z h0 rB kL .long (1 : Int32) [(.long vv)] (.long (0 : Int64))) (Fc : Fld Z h0 a1 "com/example/lumenplan/lumenplan/simulation/Wavelengths" "count" "I" (.int cn)) (Fw : Fld Z h0 a1 "com/example/lumenplan/lumenplan/simulation/Wavelengths" "words" "I" (.int wd)) (VR : Arv Z h0 ra kR .int (2 : Int32) [(.int (0 : Int32)), (.int (1 : Int32))] (.int (0 : Int32))) (SN : Sta Z Z.heap "com/example/lumenplan/lumenplan/simulation/Conversion" "NONE" "Lcom/example/lumenplan/lumenplan/simulation/Conversion;" (.ref wN)) (hne : wF ≠ wN) (hN0 : NT u r0) (hN1 : NT vv r1) (hw0 : (0 : Int32) < wd) (hc0 : r0 < cn) (hc1 : ¬ r1 < cn) (ne_a1_rA : a1 ≠ rA) (ne_a1_rB : a1 ≠ rB) (ne_aH_rA : aH ≠ rA) (ne_aH_rB : aH ≠ rB) (ne_rA_rB : rA ≠ rB) (ne_ra_rA : ra ≠ rA) (ne_ra_rB : ra ≠ rB) :
    MetFree l (⟨"com/example/lumenplan/lumenplan/simulation/Wavelengths", "take", "([ILcom/example/lumenplan/lumenplan/simulation/Conversion;)[I"⟩ : MethodName) (head1 (Jvm.Cond.code (⟨"com/example/lumenplan/lumenplan/simulation/Wavelengths", "take", "([ILcom/example/lumenplan/lumenplan/simulation/Conversion;)[I"⟩ : MethodName) prog_37_method_2_code 8 (some (.array .int)) :: ws) ({ frames := 3, cells := 1, slots := 2, locals := 110 } : Room)) (fun a U => a = #[(.ref a1), (.ref ra), (.ref wF)] ∧ Z.Warmed39 U.vm ∧ U.heap = h0) (fun _ _ _ _ _ => True) (fun _ U o U' => ∃ v L, o = .returned v ∧ Q_rmT_N1 Z rA rB h0 n0 v U'.heap L ∧ FrameEnd U o U' L ({ frames := 3, cells := 1, slots := 2, locals := 110 } : Room).cells ({ frames := 3, cells := 1, slots := 2, locals := 110 } : Room).slots) := by
  refine MetFree.of_bodySF (plainFor_of_name pn_Wavelengths) hisR ?_
  intro p e s m args below meth c s₁ Bd hml0 hP hK
  obtain ⟨rfl, hZ, hh⟩ := hP
  have hx := Bd.exec
  have hby := Bd.bytes
  have hml : c.maxLocals = 8 := hml0
  have hown : s.vm.findClass "com/example/lumenplan/lumenplan/simulation/Wavelengths" = some m.cls := findClass_of_methodNamed Bd.named
  have hnm := (name_of_methodNamed Bd.named Bd.method).1
  have X0 : Stand p l e ({ frames := 3, cells := 1, slots := 2, locals := 110 } : Room) s m #[(.ref a1), (.ref ra), (.ref wF)] below meth c s₁ [] 0 0 := Stand.of_body Bd
  have e0 : s₁.heap = h0 := by rw [← hh, Bd.state]; rfl
  have N0 := Fr.nil n0
  obtain ⟨S0, hS0⟩ : ∃ z, z = s₁.setTop (entryFrame m #[(.ref a1), (.ref ra), (.ref wF)] 8) := ⟨_, rfl⟩
  have k0 : Rch p e below S0 s₁ (mkF m 0 #[vR a1, vR ra, vR wF, vU, vU, vU, vU, vU] []) := fun t kq => hS0 ▸ castTop (ef_4 m a1 ra wF) kq
  have K0 : Keep h0 h0 [rA, rB] := Keep.refl h0 _
  have k522 : Rch p e below S0 s₁ (mkF m 1 #[vR a1, vR ra, vR wF, vU, vU, vU, vU, vU] [(.ref ra)]) := fun t h => k0 t (by
      show Steps p.tables e below (s₁.setTop (mkF m 0 #[vR a1, vR ra, vR wF, vU, vU, vU, vU, vU] [])) _
      refine XS.aloadN X0.here hx rfl (hb hby d4_0) rfl rfl ?_
      exact h)
  obtain ⟨cl521, Ar521, q521, Sz521, Ng521, Hs521, G521⟩ := id VR
  have k524 : Rch p e below S0 s₁ (mkF m 2 #[vR a1, vR ra, vR wF, vU, vU, vU, vU, vU] [(.int (2 : Int32))]) := fun t h => k522 t (by
      show Steps p.tables e below (s₁.setTop (mkF m 1 #[vR a1, vR ra, vR wF, vU, vU, vU, vU, vU] [(.ref ra)])) _
      refine X0.arraylength hx (by rw [e0]; exact Ar521.1) (State.isArrayOf_alike hZ.alike Ar521.2.1) (g := (mkF m 1 #[vR a1, vR ra, vR wF, vU, vU, vU, vU, vU] [(.ref ra)])) rfl rfl (hb hby d4_1) _ ?_
      rw [len_of Sz521 Ng521]
      exact h)
  obtain ⟨T523, h523, k523, X523, e523, E523, A523, st523⟩ := newP X0 hx hZ (hw _ (gm 4 rfl)) e0 (g := (mkF m 2 #[vR a1, vR ra, vR wF, vU, vU, vU, vU, vU] [(.int (2 : Int32))])) rfl (hb hby d4_2) rfl (by decide) (cap := 2) (by decide) (by decide) (by decide) (by decide)
  obtain ⟨b523, g523⟩ : ∃ z, z = h0.size := ⟨_, rfl⟩
  rw [← g523] at A523 st523
  have k525 : Rch p e below S0 T523 (mkF m 4 #[vR a1, vR ra, vR wF, vU, vU, vU, vU, vU] [(.ref b523)]) := fun t h => k524 t (st523 t h)
  have ne_a1_b523 : a1 ≠ b523 := own_ne Ew.lt (Nat.le_of_eq g523.symm)
  have ne_aH_b523 : aH ≠ b523 := own_ne VH.lt (Nat.le_of_eq g523.symm)
  have ne_rA_b523 : rA ≠ b523 := own_ne VA.lt (Nat.le_of_eq g523.symm)
  have ne_rB_b523 : rB ≠ b523 := own_ne VB.lt (Nat.le_of_eq g523.symm)
  have ne_ra_b523 : ra ≠ b523 := own_ne VR.lt (Nat.le_of_eq g523.symm)
  have ge_b523 : n0 ≤ b523 := own_ge O0 (Nat.le_of_eq g523.symm)
  have sz_b523 : h0.size ≤ b523 := Nat.le_trans K0.1 (Nat.le_of_eq g523.symm)
  have O526 := O0.ext E523
  have K527 := K0.ext E523
  replace Ew := Ew.ext E523
  replace Fh := Fh.ext E523
  replace Fc := Fc.ext E523
  replace Fw := Fw.ext E523
  replace VH := VH.ext E523
  replace VA := VA.ext E523
  replace VB := VB.ext E523
  replace VR := VR.ext E523
  have V_b523 : Arv Z h523 b523 k523 .int (2 : Int32) [(.int (0 : Int32)), (.int (0 : Int32))] (.int (0 : Int32)) := (Arv.new A523 (by decide)).pad (pad_rep [] (.int (0 : Int32)) 2)
  have k529 : Rch p e below S0 T523 (mkF m 6 #[vR a1, vR ra, vR wF, vR b523, vU, vU, vU, vU] [(.ref wF)]) := fun t h => k525 t (by
      show Steps p.tables e below (T523.setTop (mkF m 4 #[vR a1, vR ra, vR wF, vU, vU, vU, vU, vU] [(.ref b523)])) _
      refine XS.astoreN X523.here hx rfl (hb hby d4_4) rfl rfl (l' := #[vR a1, vR ra, vR wF, vR b523, vU, vU, vU, vU]) rfl ?_
      refine XS.aloadN X523.here hx rfl (hb hby d4_5) rfl rfl ?_
      exact h)
  obtain ⟨T528, X528, e528, st528⟩ := getS2 X523 hx hZ hown (host := "") (Or.inl (hw _ (gm 32 rfl))) Via.refl e523 (SN.ext O526.2) (g := (mkF m 6 #[vR a1, vR ra, vR wF, vR b523, vU, vU, vU, vU] [(.ref wF)])) rfl (hb hby d4_6)
  have k530 : Rch p e below S0 T528 (mkF m 9 #[vR a1, vR ra, vR wF, vR b523, vU, vU, vU, vU] [(.ref wN), (.ref wF)]) := fun t h => k529 t (st528 t h)
  have k532 : Rch p e below S0 T528 (mkF m 33 #[vR a1, vR ra, vR wF, vR b523, vI 0, vU, vU, vU] [(.ref ra), (.int (0 : Int32))]) := fun t h => k530 t (by
      show Steps p.tables e below (T528.setTop (mkF m 9 #[vR a1, vR ra, vR wF, vR b523, vU, vU, vU, vU] [(.ref wN), (.ref wF)])) _
      refine Jvm.RoadKit.acmp (g := (mkF m 9 #[vR a1, vR ra, vR wF, vR b523, vU, vU, vU, vU] [(.ref wN), (.ref wF)])) X528 hx rfl rfl rfl (pc0 := 9) (pc' := 27) (same := false) rfl (hb hby d4_9) rfl (decide_eq_false fun q => hne (Value.ref.inj q)) (by decide) (by decide) ?_
      refine XS.iconst X528.here hx rfl (hb hby d4_27) ?_
      refine XS.istore X528.here hx rfl (hb hby d4_28) rfl (l' := #[vR a1, vR ra, vR wF, vR b523, vI 0, vU, vU, vU]) rfl ?_
      refine XS.iload X528.here hx rfl (hb hby d4_30) rfl ?_
      refine XS.aloadN X528.here hx rfl (hb hby d4_32) rfl rfl ?_
      exact h)
  obtain ⟨cl531, Ar531, q531, Sz531, Ng531, Hs531, G531⟩ := id VR
  have k533 : Rch p e below S0 T528 (mkF m 48 #[vR a1, vR ra, vR wF, vR b523, vI 0, vU, vU, vU] [(.int (1 : Int32)), (.int (0 : Int32)), (.ref ra), (.ref a1), (.int (0 : Int32)), (.ref b523)]) := fun t h => k532 t (by
      show Steps p.tables e below (T528.setTop (mkF m 33 #[vR a1, vR ra, vR wF, vR b523, vI 0, vU, vU, vU] [(.ref ra), (.int (0 : Int32))])) _
      refine X528.arraylength hx (by rw [e528]; exact Ar531.1) (State.isArrayOf_alike hZ.alike Ar531.2.1) (g := (mkF m 33 #[vR a1, vR ra, vR wF, vR b523, vI 0, vU, vU, vU] [(.ref ra), (.int (0 : Int32))])) rfl rfl (hb hby d4_33) _ ?_
      rw [len_of Sz531 Ng531]
      refine XS.icmpNo X528.here hx rfl (hb hby d4_34) rfl (tlt (by decide : (0 : Int32) < (2 : Int32))).2.1 ?_
      refine XS.aloadN X528.here hx rfl (hb hby d4_37) rfl rfl ?_
      refine XS.iload X528.here hx rfl (hb hby d4_38) rfl ?_
      refine XS.aloadN X528.here hx rfl (hb hby d4_40) rfl rfl ?_
      refine XS.aloadN X528.here hx rfl (hb hby d4_41) rfl rfl ?_
      refine XS.iload X528.here hx rfl (hb hby d4_42) rfl ?_
      refine XS.iload X528.here hx rfl (hb hby d4_44) rfl ?_
      refine XS.iconst X528.here hx rfl (hb hby d4_46) ?_
      show Steps p.tables e below (T528.setTop (mkF m 47 #[vR a1, vR ra, vR wF, vR b523, vI 0, vU, vU, vU] [(.int (1 : Int32)), (.int (0 : Int32)), (.int (0 : Int32)), (.ref ra), (.ref a1), (.int (0 : Int32)), (.ref b523)])) _
      refine XS.iadd X528.here hx rfl (hb hby d4_47) rfl ?_
      rw [(by decide : ((0 : Int32) + (1 : Int32)) = (1 : Int32))]
      exact h)
  obtain ⟨cq534, q534, q534'⟩ := Ew.cell
  obtain ⟨_, _, ⟨T534, L534, kk534, n534⟩, -, X534, ⟨Lc534, hQ534, l534, y534, z534⟩, st534⟩ := X528.privateBack hx (y := (⟨"com/example/lumenplan/lumenplan/simulation/Wavelengths", "lowestFree", "([III)I"⟩ : MethodName)) hown (mvT hZ (hw _ (gm 33 rfl))) (mvT hZ (hw _ (gm 34 rfl))) (mvT hZ (own_selects (hw _ (gm 6 rfl)) (hw _ (gm 34 rfl)) (hw _ (gm 35 rfl)) (by decide))) (Cond.privateMethod_at (mvP hZ (hw _ (gm 35 rfl)) (args := #[]))) (mvT hZ (hw _ (gm 36 rfl))) (by decide) (backOf (W := 2) (rmF_A2 l Z a0 hw []  a1 aH rA rB kH kL cn wd u vv ra kR r0 r0 h523 n0 O526 Fh VH VA VB Fc Fw VR hN0 hw0 (Or.inl ⟨hc0, rfl⟩)) hZ (hw _ (gm 36 rfl)) (hw _ (gm 7 rfl)) (by decide) (by decide)) (g := (mkF m 48 #[vR a1, vR ra, vR wF, vR b523, vI 0, vU, vU, vU] [(.int (1 : Int32)), (.int (0 : Int32)), (.ref ra), (.ref a1), (.int (0 : Int32)), (.ref b523)])) rfl (by rw [hml]; rfl) (Steps.refl _) (a := a1) (by rw [e528]; exact q534) q534' (argsL := [(.ref ra), (.int (0 : Int32)), (.int (1 : Int32))]) (rest := [(.int (0 : Int32)), (.ref b523)]) (lenOf pd_4 rfl) rfl (by show 2 * 0 + _ ≤ _; exact Nat.le_of_eq rfl) (hb hby d4_48) (fun _ _ => ⟨rfl, e528, (by decide : 1 + 0 ≤ _), (by decide : 2 + 0 ≤ _)⟩)
  dsimp only [Pt.U, Pt.locs, Pt.cells, Pt.slots] at X534 l534 y534 z534 st534 hQ534
  subst l534 y534 z534
  obtain ⟨rfl, Nq534, hh534⟩ := hQ534
  have N534 := Fr.app N0 Nq534
  have k535 : Rch p e below S0 T534 (mkF m 51 #[vR a1, vR ra, vR wF, vR b523, vI 0, vU, vU, vU] [(.int r0), (.int (0 : Int32)), (.ref b523)]) := fun t h => k533 t (st534.trans h)
  obtain ⟨cl536, Ar536, q536, Sz536, Ng536, Hs536, G536⟩ := id V_b523
  have hin536 : ¬ ((0 : Int32) < 0 ∨ cl536.slots.size ≤ ((0 : Int32)).toNatClampNeg) := inb_of Sz536 ⟨by decide, by decide⟩
  obtain ⟨T536, h536, X536, e536, W536, st536⟩ := stI X534 hx hZ hh534 Ar536 (j := (0 : Int32)) hin536 (g := (mkF m 51 #[vR a1, vR ra, vR wF, vR b523, vI 0, vU, vU, vU] [(.int r0), (.int (0 : Int32)), (.ref b523)])) rfl rfl (hb hby d4_51)
  have k537 : Rch p e below S0 T536 (mkF m 52 #[vR a1, vR ra, vR wF, vR b523, vI 0, vU, vU, vU] []) := fun t h => k535 t (st536 t h)
  have N536 := Fr.snoc X536 N534 ge_b523
  have V_b523' := Arv.set Ar536 q536 Sz536 Ng536 Hs536 G536 rfl W536 0 rfl (Nat.le_of_ble_eq_true rfl)
  replace V_b523 : Arv Z h536 b523 k523 .int (2 : Int32) [(.int r0), (.int (0 : Int32))] (.int (0 : Int32)) := V_b523'
  have O538 := O526.wr W536 ge_b523
  have K539 := K527.wr W536 (Or.inr sz_b523)
  replace Ew := Ew.wr W536
  replace Fh := Fh.other W536 (Or.inl ne_a1_b523)
  replace Fc := Fc.other W536 (Or.inl ne_a1_b523)
  replace Fw := Fw.other W536 (Or.inl ne_a1_b523)
  replace VH := VH.other W536 ne_aH_b523
  replace VA := VA.other W536 ne_rA_b523
  replace VB := VB.other W536 ne_rB_b523
  replace VR := VR.other W536 ne_ra_b523
  have k541 : Rch p e below S0 T536 (mkF m 33 #[vR a1, vR ra, vR wF, vR b523, vI 1, vU, vU, vU] [(.ref ra), (.int (1 : Int32))]) := fun t h => k537 t (by
      show Steps p.tables e below (T536.setTop (mkF m 52 #[vR a1, vR ra, vR wF, vR b523, vI 0, vU, vU, vU] [])) _
      refine XS.iinc X536.here hx rfl (hb hby d4_52) rfl (l' := #[vR a1, vR ra, vR wF, vR b523, vI ((0 : Int32) + (1 : Int32)), vU, vU, vU]) rfl ?_
      rw [(by decide : ((0 : Int32) + (1 : Int32)) = (1 : Int32))]
      refine XS.goto X536.here hx rfl (pc0 := 55) (pc' := 30) rfl (hb hby d4_55) (by decide) (by decide) ?_
      refine XS.iload X536.here hx rfl (hb hby d4_30) rfl ?_
      refine XS.aloadN X536.here hx rfl (hb hby d4_32) rfl rfl ?_
      exact h)
  obtain ⟨cl540, Ar540, q540, Sz540, Ng540, Hs540, G540⟩ := id VR
  have k542 : Rch p e below S0 T536 (mkF m 48 #[vR a1, vR ra, vR wF, vR b523, vI 1, vU, vU, vU] [(.int (2 : Int32)), (.int (1 : Int32)), (.ref ra), (.ref a1), (.int (1 : Int32)), (.ref b523)]) := fun t h => k541 t (by
      show Steps p.tables e below (T536.setTop (mkF m 33 #[vR a1, vR ra, vR wF, vR b523, vI 1, vU, vU, vU] [(.ref ra), (.int (1 : Int32))])) _
      refine X536.arraylength hx (by rw [e536]; exact Ar540.1) (State.isArrayOf_alike hZ.alike Ar540.2.1) (g := (mkF m 33 #[vR a1, vR ra, vR wF, vR b523, vI 1, vU, vU, vU] [(.ref ra), (.int (1 : Int32))])) rfl rfl (hb hby d4_33) _ ?_
      rw [len_of Sz540 Ng540]
      refine XS.icmpNo X536.here hx rfl (hb hby d4_34) rfl (tlt (by decide : (1 : Int32) < (2 : Int32))).2.1 ?_
      refine XS.aloadN X536.here hx rfl (hb hby d4_37) rfl rfl ?_
      refine XS.iload X536.here hx rfl (hb hby d4_38) rfl ?_
      refine XS.aloadN X536.here hx rfl (hb hby d4_40) rfl rfl ?_
      refine XS.aloadN X536.here hx rfl (hb hby d4_41) rfl rfl ?_
      refine XS.iload X536.here hx rfl (hb hby d4_42) rfl ?_
      refine XS.iload X536.here hx rfl (hb hby d4_44) rfl ?_
      refine XS.iconst X536.here hx rfl (hb hby d4_46) ?_
      show Steps p.tables e below (T536.setTop (mkF m 47 #[vR a1, vR ra, vR wF, vR b523, vI 1, vU, vU, vU] [(.int (1 : Int32)), (.int (1 : Int32)), (.int (1 : Int32)), (.ref ra), (.ref a1), (.int (1 : Int32)), (.ref b523)])) _
      refine XS.iadd X536.here hx rfl (hb hby d4_47) rfl ?_
      rw [(by decide : ((1 : Int32) + (1 : Int32)) = (2 : Int32))]
      exact h)
  obtain ⟨cq543, q543, q543'⟩ := Ew.cell
  obtain ⟨_, _, ⟨T543, L543, kk543, n543⟩, -, X543, ⟨Lc543, hQ543, l543, y543, z543⟩, st543⟩ := X536.privateBack hx (y := (⟨"com/example/lumenplan/lumenplan/simulation/Wavelengths", "lowestFree", "([III)I"⟩ : MethodName)) hown (mvT hZ (hw _ (gm 33 rfl))) (mvT hZ (hw _ (gm 34 rfl))) (mvT hZ (own_selects (hw _ (gm 6 rfl)) (hw _ (gm 34 rfl)) (hw _ (gm 35 rfl)) (by decide))) (Cond.privateMethod_at (mvP hZ (hw _ (gm 35 rfl)) (args := #[]))) (mvT hZ (hw _ (gm 36 rfl))) (by decide) (backOf (W := 2) (rmF_B2 l Z a0 hw []  a1 aH rA rB kH kL cn wd u vv ra kR r1 (-1 : Int32) h536 n0 O538 Fh VH VA VB Fc Fw VR hN1 hw0 (Or.inr ⟨hc1, rfl⟩)) hZ (hw _ (gm 36 rfl)) (hw _ (gm 7 rfl)) (by decide) (by decide)) (g := (mkF m 48 #[vR a1, vR ra, vR wF, vR b523, vI 1, vU, vU, vU] [(.int (2 : Int32)), (.int (1 : Int32)), (.ref ra), (.ref a1), (.int (1 : Int32)), (.ref b523)])) rfl (by rw [hml]; rfl) (Steps.refl _) (a := a1) (by rw [e536]; exact q543) q543' (argsL := [(.ref ra), (.int (1 : Int32)), (.int (2 : Int32))]) (rest := [(.int (1 : Int32)), (.ref b523)]) (lenOf pd_4 rfl) rfl (by show 2 * 0 + _ ≤ _; exact Nat.le_of_eq rfl) (hb hby d4_48) (fun _ _ => ⟨rfl, e536, (by decide : 1 + 0 ≤ _), (by decide : 2 + 0 ≤ _)⟩)
  dsimp only [Pt.U, Pt.locs, Pt.cells, Pt.slots] at X543 l543 y543 z543 st543 hQ543
  subst l543 y543 z543
  obtain ⟨rfl, Nq543, hh543⟩ := hQ543
  have N543 := Fr.app N536 Nq543
  have k544 : Rch p e below S0 T543 (mkF m 51 #[vR a1, vR ra, vR wF, vR b523, vI 1, vU, vU, vU] [(.int (-1 : Int32)), (.int (1 : Int32)), (.ref b523)]) := fun t h => k542 t (st543.trans h)
  obtain ⟨cl545, Ar545, q545, Sz545, Ng545, Hs545, G545⟩ := id V_b523
  have hin545 : ¬ ((1 : Int32) < 0 ∨ cl545.slots.size ≤ ((1 : Int32)).toNatClampNeg) := inb_of Sz545 ⟨by decide, by decide⟩
  obtain ⟨T545, h545, X545, e545, W545, st545⟩ := stI X543 hx hZ hh543 Ar545 (j := (1 : Int32)) hin545 (g := (mkF m 51 #[vR a1, vR ra, vR wF, vR b523, vI 1, vU, vU, vU] [(.int (-1 : Int32)), (.int (1 : Int32)), (.ref b523)])) rfl rfl (hb hby d4_51)
  have k546 : Rch p e below S0 T545 (mkF m 52 #[vR a1, vR ra, vR wF, vR b523, vI 1, vU, vU, vU] []) := fun t h => k544 t (st545 t h)
  have N545 := Fr.snoc X545 N543 ge_b523
  have V_b523' := Arv.set Ar545 q545 Sz545 Ng545 Hs545 G545 rfl W545 1 rfl (Nat.le_of_ble_eq_true rfl)
  replace V_b523 : Arv Z h545 b523 k523 .int (2 : Int32) [(.int r0), (.int (-1 : Int32))] (.int (0 : Int32)) := V_b523'
  have O547 := O538.wr W545 ge_b523
  have K548 := K539.wr W545 (Or.inr sz_b523)
  replace Ew := Ew.wr W545
  replace Fh := Fh.other W545 (Or.inl ne_a1_b523)
  replace Fc := Fc.other W545 (Or.inl ne_a1_b523)
  replace Fw := Fw.other W545 (Or.inl ne_a1_b523)
  replace VH := VH.other W545 ne_aH_b523
  replace VA := VA.other W545 ne_rA_b523
  replace VB := VB.other W545 ne_rB_b523
  replace VR := VR.other W545 ne_ra_b523
  have k550 : Rch p e below S0 T545 (mkF m 33 #[vR a1, vR ra, vR wF, vR b523, vI 2, vU, vU, vU] [(.ref ra), (.int (2 : Int32))]) := fun t h => k546 t (by
      show Steps p.tables e below (T545.setTop (mkF m 52 #[vR a1, vR ra, vR wF, vR b523, vI 1, vU, vU, vU] [])) _
      refine XS.iinc X545.here hx rfl (hb hby d4_52) rfl (l' := #[vR a1, vR ra, vR wF, vR b523, vI ((1 : Int32) + (1 : Int32)), vU, vU, vU]) rfl ?_
      rw [(by decide : ((1 : Int32) + (1 : Int32)) = (2 : Int32))]
      refine XS.goto X545.here hx rfl (pc0 := 55) (pc' := 30) rfl (hb hby d4_55) (by decide) (by decide) ?_
      refine XS.iload X545.here hx rfl (hb hby d4_30) rfl ?_
      refine XS.aloadN X545.here hx rfl (hb hby d4_32) rfl rfl ?_
      exact h)
  obtain ⟨cl549, Ar549, q549, Sz549, Ng549, Hs549, G549⟩ := id VR
  have k552 : Rch p e below S0 T545 (mkF m 63 #[vR a1, vR ra, vR wF, vR b523, vR b523, vU, vU, vU] [(.ref b523)]) := fun t h => k550 t (by
      show Steps p.tables e below (T545.setTop (mkF m 33 #[vR a1, vR ra, vR wF, vR b523, vI 2, vU, vU, vU] [(.ref ra), (.int (2 : Int32))])) _
      refine X545.arraylength hx (by rw [e545]; exact Ar549.1) (State.isArrayOf_alike hZ.alike Ar549.2.1) (g := (mkF m 33 #[vR a1, vR ra, vR wF, vR b523, vI 2, vU, vU, vU] [(.ref ra), (.int (2 : Int32))])) rfl rfl (hb hby d4_33) _ ?_
      rw [len_of Sz549 Ng549]
      refine XS.icmpYes X545.here hx rfl (pc0 := 34) (pc' := 58) rfl (hb hby d4_34) rfl (flt (by decide : ¬ ((2 : Int32) < (2 : Int32)))).2.1 (by decide) (by decide) ?_
      refine XS.aloadN X545.here hx rfl (hb hby d4_58) rfl rfl ?_
      refine XS.astore X545.here hx rfl (hb hby d4_59) rfl rfl (l' := #[vR a1, vR ra, vR wF, vR b523, vR b523, vU, vU, vU]) rfl ?_
      refine XS.aload X545.here hx rfl (hb hby d4_61) rfl rfl ?_
      exact h)
  obtain ⟨cl551, Ar551, q551, Sz551, Ng551, Hs551, G551⟩ := id V_b523
  have k554 : Rch p e below S0 T545 (mkF m 80 #[vR a1, vR ra, vR wF, vR b523, vR b523, vI 2, vI 0, vU] [(.int (0 : Int32)), (.ref b523)]) := fun t h => k552 t (by
      show Steps p.tables e below (T545.setTop (mkF m 63 #[vR a1, vR ra, vR wF, vR b523, vR b523, vU, vU, vU] [(.ref b523)])) _
      refine X545.arraylength hx (by rw [e545]; exact Ar551.1) (State.isArrayOf_alike hZ.alike Ar551.2.1) (g := (mkF m 63 #[vR a1, vR ra, vR wF, vR b523, vR b523, vU, vU, vU] [(.ref b523)])) rfl rfl (hb hby d4_63) _ ?_
      rw [len_of Sz551 Ng551]
      refine XS.istore X545.here hx rfl (hb hby d4_64) rfl (l' := #[vR a1, vR ra, vR wF, vR b523, vR b523, vI 2, vU, vU]) rfl ?_
      refine XS.iconst X545.here hx rfl (hb hby d4_66) ?_
      refine XS.istore X545.here hx rfl (hb hby d4_67) rfl (l' := #[vR a1, vR ra, vR wF, vR b523, vR b523, vI 2, vI 0, vU]) rfl ?_
      refine XS.iload X545.here hx rfl (hb hby d4_69) rfl ?_
      refine XS.iload X545.here hx rfl (hb hby d4_71) rfl ?_
      refine XS.icmpNo X545.here hx rfl (hb hby d4_73) rfl (tlt (by decide : (0 : Int32) < (2 : Int32))).2.1 ?_
      refine XS.aload X545.here hx rfl (hb hby d4_76) rfl rfl ?_
      refine XS.iload X545.here hx rfl (hb hby d4_78) rfl ?_
      exact h)
  obtain ⟨cl553, Ar553, q553, Sz553, Ng553, Hs553, G553⟩ := id V_b523
  have hin553 : ¬ ((0 : Int32) < 0 ∨ cl553.slots.size ≤ ((0 : Int32)).toNatClampNeg) := inb_of Sz553 ⟨by decide, by decide⟩
  have hat553 : cl553.slots[((0 : Int32)).toNatClampNeg]? = some (.int r0) := Hs553.at hin553 (rfl)
  have k556 : Rch p e below S0 T545 (mkF m 80 #[vR a1, vR ra, vR wF, vR b523, vR b523, vI 2, vI 1, vI r0] [(.int (1 : Int32)), (.ref b523)]) := fun t h => k554 t (by
      show Steps p.tables e below (T545.setTop (mkF m 80 #[vR a1, vR ra, vR wF, vR b523, vR b523, vI 2, vI 0, vU] [(.int (0 : Int32)), (.ref b523)])) _
      refine X545.iaload hx (j := (0 : Int32)) (v := (.int r0)) (by rw [e545]; exact Ar553.1) (State.isArrayOf_alike hZ.alike Ar553.2.1) Ar553.2.2 hin553 hat553 (g := (mkF m 80 #[vR a1, vR ra, vR wF, vR b523, vR b523, vI 2, vI 0, vU] [(.int (0 : Int32)), (.ref b523)])) rfl rfl (hb hby d4_80) _ ?_
      refine XS.istore X545.here hx rfl (hb hby d4_81) rfl (l' := #[vR a1, vR ra, vR wF, vR b523, vR b523, vI 2, vI 0, vI r0]) rfl ?_
      refine XS.iload X545.here hx rfl (hb hby d4_83) rfl ?_
      refine XS.ifYes X545.here hx rfl (pc0 := 85) (pc' := 90) rfl (hb hby d4_85) rfl ((if0 _ _).trans (flt ((own_nn hN0) : ¬ (r0 < (0 : Int32)))).2.1) (by decide) (by decide) ?_
      show Steps p.tables e below (T545.setTop (mkF m 90 #[vR a1, vR ra, vR wF, vR b523, vR b523, vI 2, vI 0, vI r0] [])) _
      refine XS.iinc X545.here hx rfl (hb hby d4_90) rfl (l' := #[vR a1, vR ra, vR wF, vR b523, vR b523, vI 2, vI ((0 : Int32) + (1 : Int32)), vI r0]) rfl ?_
      rw [(by decide : ((0 : Int32) + (1 : Int32)) = (1 : Int32))]
      refine XS.goto X545.here hx rfl (pc0 := 93) (pc' := 69) rfl (hb hby d4_93) (by decide) (by decide) ?_
      refine XS.iload X545.here hx rfl (hb hby d4_69) rfl ?_
      refine XS.iload X545.here hx rfl (hb hby d4_71) rfl ?_
      refine XS.icmpNo X545.here hx rfl (hb hby d4_73) rfl (tlt (by decide : (1 : Int32) < (2 : Int32))).2.1 ?_
      show Steps p.tables e below (T545.setTop (mkF m 76 #[vR a1, vR ra, vR wF, vR b523, vR b523, vI 2, vI 1, vI r0] [])) _
      refine XS.aload X545.here hx rfl (hb hby d4_76) rfl rfl ?_
      refine XS.iload X545.here hx rfl (hb hby d4_78) rfl ?_
      exact h)
  obtain ⟨cl555, Ar555, q555, Sz555, Ng555, Hs555, G555⟩ := id V_b523
  have hin555 : ¬ ((1 : Int32) < 0 ∨ cl555.slots.size ≤ ((1 : Int32)).toNatClampNeg) := inb_of Sz555 ⟨by decide, by decide⟩
  have hat555 : cl555.slots[((1 : Int32)).toNatClampNeg]? = some (.int (-1 : Int32)) := Hs555.at hin555 (rfl)
  have k557 : Rch p e below S0 T545 (mkF m 89 #[vR a1, vR ra, vR wF, vR b523, vR b523, vI 2, vI 1, vI (-1)] [.null]) := fun t h => k556 t (by
      show Steps p.tables e below (T545.setTop (mkF m 80 #[vR a1, vR ra, vR wF, vR b523, vR b523, vI 2, vI 1, vI r0] [(.int (1 : Int32)), (.ref b523)])) _
      refine X545.iaload hx (j := (1 : Int32)) (v := (.int (-1 : Int32))) (by rw [e545]; exact Ar555.1) (State.isArrayOf_alike hZ.alike Ar555.2.1) Ar555.2.2 hin555 hat555 (g := (mkF m 80 #[vR a1, vR ra, vR wF, vR b523, vR b523, vI 2, vI 1, vI r0] [(.int (1 : Int32)), (.ref b523)])) rfl rfl (hb hby d4_80) _ ?_
      refine XS.istore X545.here hx rfl (hb hby d4_81) rfl (l' := #[vR a1, vR ra, vR wF, vR b523, vR b523, vI 2, vI 1, vI (-1)]) rfl ?_
      refine XS.iload X545.here hx rfl (hb hby d4_83) rfl ?_
      refine XS.ifNo X545.here hx rfl (hb hby d4_85) rfl ((if0 _ _).trans (tlt (by decide : (-1 : Int32) < (0 : Int32))).2.1) ?_
      refine XS.aconstNull X545.here hx rfl (hb hby d4_88) ?_
      exact h)
  obtain ⟨fs, hr, hrun, hended, hW, hsame⟩ := X545.leave (v := (some .null)) (fun h => by rw [Bd.returns] at h; cases h)
  refine ⟨_, _, ?_, hrun, hended, _, _, rfl, ?_, ⟨_, rfl⟩, hW, hsame.mono (by decide) (by decide)⟩
  · rw [← hS0]
    refine k557 _ ?_
    show Steps p.tables e below (T545.setTop (mkF m 89 #[vR a1, vR ra, vR wF, vR b523, vR b523, vI 2, vI 1, vI (-1)] [.null])) _
    jvm_step X545.here [X545.here.top, hx, (hb hby d4_89), X545.method', Bd.returns, Value.isRef, FieldType.isReference]
    first | (intro acts; rw [hr _ acts rfl rfl rfl]) | rw [hr _ _ rfl rfl rfl]
    exact Steps.refl _
  · show Q_rmT_N1 Z rA rB h0 n0 _ T545.heap _
    rw [e545]
    exact ⟨rfl, N545, K548⟩
def Q_rmT_OK (Z : State) (rA : Addr) (rB : Addr) (r0 : Int32) (r1 : Int32) (h0 : Heap) (n0 : Nat) (v : Option Value) (h : Heap) (L : List Loc) : Prop := ∃ x kx, v = some (.ref x) ∧ Fr n0 L ∧ Keep h0 h [rA, rB] ∧ h0.size ≤ x ∧ Arv Z h x kx .int (2 : Int32) [(.int r0), (.int r1)] (.int (0 : Int32))
set_option maxRecDepth 65536 in
set_option maxHeartbeats 40000000 in
theorem rmT_OK (l : Launch) (Z : State) (a0 : Array Value) (hw : ∀ d ∈ tables_1, d.before a0 Z = true) (ws : List Jvm.Cond) (a1 : Addr) (aH : Addr) (rA : Addr) (rB : Addr) (kH : ClassId) (kL : ClassId) (cn : Int32) (wd : Int32) (u : Int64) (vv : Int64) (ra : Addr) (kR : ClassId) (r0 : Int32) (r1 : Int32) (wN : Addr) (wF : Addr) (h0 : Heap) (n0 : Nat) (O0 : Old Z n0 h0) (ge_rA : n0 ≤ rA) (ge_rB : n0 ≤ rB) (Ew : Exa Z h0 a1 "com/example/lumenplan/lumenplan/simulation/Wavelengths") (Fh : Fld Z h0 a1 "com/example/lumenplan/lumenplan/simulation/Wavelengths" "held" "[[J" (.ref aH)) (VH : Arv Z h0 aH kH (.array .long) (2 : Int32) [(.ref rA), (.ref rB)] .null) (VA : Arv Z h0 rA kL .long (1 : Int32) [(.long u)] (.long (0 : Int64))) (VB : Arv Z h0 rB kL .long (1 : Int32) [(.long vv)] (.long (0 : Int64))) (Fc : Fld Z h0 a1 "com/example/lumenplan/lumenplan/simulation/Wavelengths" "count" "I" (.int cn)) (Fw : Fld Z h0 a1 "com/example/lumenplan/lumenplan/simulation/Wavelengths" "words" "I" (.int wd)) (VR : Arv Z h0 ra kR .int (2 : Int32) [(.int (0 : Int32)), (.int (1 : Int32))] (.int (0 : Int32))) (SN : Sta Z Z.heap "com/example/lumenplan/lumenplan/simulation/Conversion" "NONE" "Lcom/example/lumenplan/lumenplan/simulation/Conversion;" (.ref wN)) (hne : wF ≠ wN) (hN0 : NT u r0) (hN1 : NT vv r1) (hw0 : (0 : Int32) < wd) (hc0 : r0 < cn) (hc1 : r1 < cn) (ne_a1_rA : a1 ≠ rA) (ne_a1_rB : a1 ≠ rB) (ne_aH_rA : aH ≠ rA) (ne_aH_rB : aH ≠ rB) (ne_rA_rB : rA ≠ rB) (ne_ra_rA : ra ≠ rA) (ne_ra_rB : ra ≠ rB) :
    MetFree l (⟨"com/example/lumenplan/lumenplan/simulation/Wavelengths", "take", "([ILcom/example/lumenplan/lumenplan/simulation/Conversion;)[I"⟩ : MethodName) (head1 (Jvm.Cond.code (⟨"com/example/lumenplan/lumenplan/simulation/Wavelengths", "take", "([ILcom/example/lumenplan/lumenplan/simulation/Conversion;)[I"⟩ : MethodName) prog_37_method_2_code 8 (some (.array .int)) :: ws) ({ frames := 3, cells := 1, slots := 2, locals := 110 } : Room)) (fun a U => a = #[(.ref a1), (.ref ra), (.ref wF)] ∧ Z.Warmed39 U.vm ∧ U.heap = h0) (fun _ _ _ _ _ => True) (fun _ U o U' => ∃ v L, o = .returned v ∧ Q_rmT_OK Z rA rB r0 r1 h0 n0 v U'.heap L ∧ FrameEnd U o U' L ({ frames := 3, cells := 1, slots := 2, locals := 110 } : Room).cells ({ frames := 3, cells := 1, slots := 2, locals := 110 } : Room).slots) := by
  refine MetFree.of_bodySF (plainFor_of_name pn_Wavelengths) hisR ?_
  intro p e s m args below meth c s₁ Bd hml0 hP hK
  obtain ⟨rfl, hZ, hh⟩ := hP
  have hx := Bd.exec
  have hby := Bd.bytes
  have hml : c.maxLocals = 8 := hml0
  have hown : s.vm.findClass "com/example/lumenplan/lumenplan/simulation/Wavelengths" = some m.cls := findClass_of_methodNamed Bd.named
  have hnm := (name_of_methodNamed Bd.named Bd.method).1
  have X0 : Stand p l e ({ frames := 3, cells := 1, slots := 2, locals := 110 } : Room) s m #[(.ref a1), (.ref ra), (.ref wF)] below meth c s₁ [] 0 0 := Stand.of_body Bd
  have e0 : s₁.heap = h0 := by rw [← hh, Bd.state]; rfl
  have N0 := Fr.nil n0
  obtain ⟨S0, hS0⟩ : ∃ z, z = s₁.setTop (entryFrame m #[(.ref a1), (.ref ra), (.ref wF)] 8) := ⟨_, rfl⟩
  have k0 : Rch p e below S0 s₁ (mkF m 0 #[vR a1, vR ra, vR wF, vU, vU, vU, vU, vU] []) := fun t kq => hS0 ▸ castTop (ef_4 m a1 ra wF) kq
  have K0 : Keep h0 h0 [rA, rB] := Keep.refl h0 _
  have k559 : Rch p e below S0 s₁ (mkF m 1 #[vR a1, vR ra, vR wF, vU, vU, vU, vU, vU] [(.ref ra)]) := fun t h => k0 t (by
      show Steps p.tables e below (s₁.setTop (mkF m 0 #[vR a1, vR ra, vR wF, vU, vU, vU, vU, vU] [])) _
      refine XS.aloadN X0.here hx rfl (hb hby d4_0) rfl rfl ?_
      exact h)
  obtain ⟨cl558, Ar558, q558, Sz558, Ng558, Hs558, G558⟩ := id VR
  have k561 : Rch p e below S0 s₁ (mkF m 2 #[vR a1, vR ra, vR wF, vU, vU, vU, vU, vU] [(.int (2 : Int32))]) := fun t h => k559 t (by
      show Steps p.tables e below (s₁.setTop (mkF m 1 #[vR a1, vR ra, vR wF, vU, vU, vU, vU, vU] [(.ref ra)])) _
      refine X0.arraylength hx (by rw [e0]; exact Ar558.1) (State.isArrayOf_alike hZ.alike Ar558.2.1) (g := (mkF m 1 #[vR a1, vR ra, vR wF, vU, vU, vU, vU, vU] [(.ref ra)])) rfl rfl (hb hby d4_1) _ ?_
      rw [len_of Sz558 Ng558]
      exact h)
  obtain ⟨T560, h560, k560, X560, e560, E560, A560, st560⟩ := newP X0 hx hZ (hw _ (gm 4 rfl)) e0 (g := (mkF m 2 #[vR a1, vR ra, vR wF, vU, vU, vU, vU, vU] [(.int (2 : Int32))])) rfl (hb hby d4_2) rfl (by decide) (cap := 2) (by decide) (by decide) (by decide) (by decide)
  obtain ⟨b560, g560⟩ : ∃ z, z = h0.size := ⟨_, rfl⟩
  rw [← g560] at A560 st560
  have k562 : Rch p e below S0 T560 (mkF m 4 #[vR a1, vR ra, vR wF, vU, vU, vU, vU, vU] [(.ref b560)]) := fun t h => k561 t (st560 t h)
  have ne_a1_b560 : a1 ≠ b560 := own_ne Ew.lt (Nat.le_of_eq g560.symm)
  have ne_aH_b560 : aH ≠ b560 := own_ne VH.lt (Nat.le_of_eq g560.symm)
  have ne_rA_b560 : rA ≠ b560 := own_ne VA.lt (Nat.le_of_eq g560.symm)
  have ne_rB_b560 : rB ≠ b560 := own_ne VB.lt (Nat.le_of_eq g560.symm)
  have ne_ra_b560 : ra ≠ b560 := own_ne VR.lt (Nat.le_of_eq g560.symm)
  have ge_b560 : n0 ≤ b560 := own_ge O0 (Nat.le_of_eq g560.symm)
  have sz_b560 : h0.size ≤ b560 := Nat.le_trans K0.1 (Nat.le_of_eq g560.symm)
  have O563 := O0.ext E560
  have K564 := K0.ext E560
  replace Ew := Ew.ext E560
  replace Fh := Fh.ext E560
  replace Fc := Fc.ext E560
  replace Fw := Fw.ext E560
  replace VH := VH.ext E560
  replace VA := VA.ext E560
  replace VB := VB.ext E560
  replace VR := VR.ext E560
  have V_b560 : Arv Z h560 b560 k560 .int (2 : Int32) [(.int (0 : Int32)), (.int (0 : Int32))] (.int (0 : Int32)) := (Arv.new A560 (by decide)).pad (pad_rep [] (.int (0 : Int32)) 2)
  have k566 : Rch p e below S0 T560 (mkF m 6 #[vR a1, vR ra, vR wF, vR b560, vU, vU, vU, vU] [(.ref wF)]) := fun t h => k562 t (by
      show Steps p.tables e below (T560.setTop (mkF m 4 #[vR a1, vR ra, vR wF, vU, vU, vU, vU, vU] [(.ref b560)])) _
      refine XS.astoreN X560.here hx rfl (hb hby d4_4) rfl rfl (l' := #[vR a1, vR ra, vR wF, vR b560, vU, vU, vU, vU]) rfl ?_
      refine XS.aloadN X560.here hx rfl (hb hby d4_5) rfl rfl ?_
      exact h)
  obtain ⟨T565, X565, e565, st565⟩ := getS2 X560 hx hZ hown (host := "") (Or.inl (hw _ (gm 32 rfl))) Via.refl e560 (SN.ext O563.2) (g := (mkF m 6 #[vR a1, vR ra, vR wF, vR b560, vU, vU, vU, vU] [(.ref wF)])) rfl (hb hby d4_6)
  have k567 : Rch p e below S0 T565 (mkF m 9 #[vR a1, vR ra, vR wF, vR b560, vU, vU, vU, vU] [(.ref wN), (.ref wF)]) := fun t h => k566 t (st565 t h)
  have k569 : Rch p e below S0 T565 (mkF m 33 #[vR a1, vR ra, vR wF, vR b560, vI 0, vU, vU, vU] [(.ref ra), (.int (0 : Int32))]) := fun t h => k567 t (by
      show Steps p.tables e below (T565.setTop (mkF m 9 #[vR a1, vR ra, vR wF, vR b560, vU, vU, vU, vU] [(.ref wN), (.ref wF)])) _
      refine Jvm.RoadKit.acmp (g := (mkF m 9 #[vR a1, vR ra, vR wF, vR b560, vU, vU, vU, vU] [(.ref wN), (.ref wF)])) X565 hx rfl rfl rfl (pc0 := 9) (pc' := 27) (same := false) rfl (hb hby d4_9) rfl (decide_eq_false fun q => hne (Value.ref.inj q)) (by decide) (by decide) ?_
      refine XS.iconst X565.here hx rfl (hb hby d4_27) ?_
      refine XS.istore X565.here hx rfl (hb hby d4_28) rfl (l' := #[vR a1, vR ra, vR wF, vR b560, vI 0, vU, vU, vU]) rfl ?_
      refine XS.iload X565.here hx rfl (hb hby d4_30) rfl ?_
      refine XS.aloadN X565.here hx rfl (hb hby d4_32) rfl rfl ?_
      exact h)
  obtain ⟨cl568, Ar568, q568, Sz568, Ng568, Hs568, G568⟩ := id VR
  have k570 : Rch p e below S0 T565 (mkF m 48 #[vR a1, vR ra, vR wF, vR b560, vI 0, vU, vU, vU] [(.int (1 : Int32)), (.int (0 : Int32)), (.ref ra), (.ref a1), (.int (0 : Int32)), (.ref b560)]) := fun t h => k569 t (by
      show Steps p.tables e below (T565.setTop (mkF m 33 #[vR a1, vR ra, vR wF, vR b560, vI 0, vU, vU, vU] [(.ref ra), (.int (0 : Int32))])) _
      refine X565.arraylength hx (by rw [e565]; exact Ar568.1) (State.isArrayOf_alike hZ.alike Ar568.2.1) (g := (mkF m 33 #[vR a1, vR ra, vR wF, vR b560, vI 0, vU, vU, vU] [(.ref ra), (.int (0 : Int32))])) rfl rfl (hb hby d4_33) _ ?_
      rw [len_of Sz568 Ng568]
      refine XS.icmpNo X565.here hx rfl (hb hby d4_34) rfl (tlt (by decide : (0 : Int32) < (2 : Int32))).2.1 ?_
      refine XS.aloadN X565.here hx rfl (hb hby d4_37) rfl rfl ?_
      refine XS.iload X565.here hx rfl (hb hby d4_38) rfl ?_
      refine XS.aloadN X565.here hx rfl (hb hby d4_40) rfl rfl ?_
      refine XS.aloadN X565.here hx rfl (hb hby d4_41) rfl rfl ?_
      refine XS.iload X565.here hx rfl (hb hby d4_42) rfl ?_
      refine XS.iload X565.here hx rfl (hb hby d4_44) rfl ?_
      refine XS.iconst X565.here hx rfl (hb hby d4_46) ?_
      show Steps p.tables e below (T565.setTop (mkF m 47 #[vR a1, vR ra, vR wF, vR b560, vI 0, vU, vU, vU] [(.int (1 : Int32)), (.int (0 : Int32)), (.int (0 : Int32)), (.ref ra), (.ref a1), (.int (0 : Int32)), (.ref b560)])) _
      refine XS.iadd X565.here hx rfl (hb hby d4_47) rfl ?_
      rw [(by decide : ((0 : Int32) + (1 : Int32)) = (1 : Int32))]
      exact h)
  obtain ⟨cq571, q571, q571'⟩ := Ew.cell
  obtain ⟨_, _, ⟨T571, L571, kk571, n571⟩, -, X571, ⟨Lc571, hQ571, l571, y571, z571⟩, st571⟩ := X565.privateBack hx (y := (⟨"com/example/lumenplan/lumenplan/simulation/Wavelengths", "lowestFree", "([III)I"⟩ : MethodName)) hown (mvT hZ (hw _ (gm 33 rfl))) (mvT hZ (hw _ (gm 34 rfl))) (mvT hZ (own_selects (hw _ (gm 6 rfl)) (hw _ (gm 34 rfl)) (hw _ (gm 35 rfl)) (by decide))) (Cond.privateMethod_at (mvP hZ (hw _ (gm 35 rfl)) (args := #[]))) (mvT hZ (hw _ (gm 36 rfl))) (by decide) (backOf (W := 2) (rmF_A2 l Z a0 hw []  a1 aH rA rB kH kL cn wd u vv ra kR r0 r0 h560 n0 O563 Fh VH VA VB Fc Fw VR hN0 hw0 (Or.inl ⟨hc0, rfl⟩)) hZ (hw _ (gm 36 rfl)) (hw _ (gm 7 rfl)) (by decide) (by decide)) (g := (mkF m 48 #[vR a1, vR ra, vR wF, vR b560, vI 0, vU, vU, vU] [(.int (1 : Int32)), (.int (0 : Int32)), (.ref ra), (.ref a1), (.int (0 : Int32)), (.ref b560)])) rfl (by rw [hml]; rfl) (Steps.refl _) (a := a1) (by rw [e565]; exact q571) q571' (argsL := [(.ref ra), (.int (0 : Int32)), (.int (1 : Int32))]) (rest := [(.int (0 : Int32)), (.ref b560)]) (lenOf pd_4 rfl) rfl (by show 2 * 0 + _ ≤ _; exact Nat.le_of_eq rfl) (hb hby d4_48) (fun _ _ => ⟨rfl, e565, (by decide : 1 + 0 ≤ _), (by decide : 2 + 0 ≤ _)⟩)
  dsimp only [Pt.U, Pt.locs, Pt.cells, Pt.slots] at X571 l571 y571 z571 st571 hQ571
  subst l571 y571 z571
  obtain ⟨rfl, Nq571, hh571⟩ := hQ571
  have N571 := Fr.app N0 Nq571
  have k572 : Rch p e below S0 T571 (mkF m 51 #[vR a1, vR ra, vR wF, vR b560, vI 0, vU, vU, vU] [(.int r0), (.int (0 : Int32)), (.ref b560)]) := fun t h => k570 t (st571.trans h)
  obtain ⟨cl573, Ar573, q573, Sz573, Ng573, Hs573, G573⟩ := id V_b560
  have hin573 : ¬ ((0 : Int32) < 0 ∨ cl573.slots.size ≤ ((0 : Int32)).toNatClampNeg) := inb_of Sz573 ⟨by decide, by decide⟩
  obtain ⟨T573, h573, X573, e573, W573, st573⟩ := stI X571 hx hZ hh571 Ar573 (j := (0 : Int32)) hin573 (g := (mkF m 51 #[vR a1, vR ra, vR wF, vR b560, vI 0, vU, vU, vU] [(.int r0), (.int (0 : Int32)), (.ref b560)])) rfl rfl (hb hby d4_51)
  have k574 : Rch p e below S0 T573 (mkF m 52 #[vR a1, vR ra, vR wF, vR b560, vI 0, vU, vU, vU] []) := fun t h => k572 t (st573 t h)
  have N573 := Fr.snoc X573 N571 ge_b560
  have V_b560' := Arv.set Ar573 q573 Sz573 Ng573 Hs573 G573 rfl W573 0 rfl (Nat.le_of_ble_eq_true rfl)
  replace V_b560 : Arv Z h573 b560 k560 .int (2 : Int32) [(.int r0), (.int (0 : Int32))] (.int (0 : Int32)) := V_b560'
  have O575 := O563.wr W573 ge_b560
  have K576 := K564.wr W573 (Or.inr sz_b560)
  replace Ew := Ew.wr W573
  replace Fh := Fh.other W573 (Or.inl ne_a1_b560)
  replace Fc := Fc.other W573 (Or.inl ne_a1_b560)
  replace Fw := Fw.other W573 (Or.inl ne_a1_b560)
  replace VH := VH.other W573 ne_aH_b560
  replace VA := VA.other W573 ne_rA_b560
  replace VB := VB.other W573 ne_rB_b560
  replace VR := VR.other W573 ne_ra_b560
  have k578 : Rch p e below S0 T573 (mkF m 33 #[vR a1, vR ra, vR wF, vR b560, vI 1, vU, vU, vU] [(.ref ra), (.int (1 : Int32))]) := fun t h => k574 t (by
      show Steps p.tables e below (T573.setTop (mkF m 52 #[vR a1, vR ra, vR wF, vR b560, vI 0, vU, vU, vU] [])) _
      refine XS.iinc X573.here hx rfl (hb hby d4_52) rfl (l' := #[vR a1, vR ra, vR wF, vR b560, vI ((0 : Int32) + (1 : Int32)), vU, vU, vU]) rfl ?_
      rw [(by decide : ((0 : Int32) + (1 : Int32)) = (1 : Int32))]
      refine XS.goto X573.here hx rfl (pc0 := 55) (pc' := 30) rfl (hb hby d4_55) (by decide) (by decide) ?_
      refine XS.iload X573.here hx rfl (hb hby d4_30) rfl ?_
      refine XS.aloadN X573.here hx rfl (hb hby d4_32) rfl rfl ?_
      exact h)
  obtain ⟨cl577, Ar577, q577, Sz577, Ng577, Hs577, G577⟩ := id VR
  have k579 : Rch p e below S0 T573 (mkF m 48 #[vR a1, vR ra, vR wF, vR b560, vI 1, vU, vU, vU] [(.int (2 : Int32)), (.int (1 : Int32)), (.ref ra), (.ref a1), (.int (1 : Int32)), (.ref b560)]) := fun t h => k578 t (by
      show Steps p.tables e below (T573.setTop (mkF m 33 #[vR a1, vR ra, vR wF, vR b560, vI 1, vU, vU, vU] [(.ref ra), (.int (1 : Int32))])) _
      refine X573.arraylength hx (by rw [e573]; exact Ar577.1) (State.isArrayOf_alike hZ.alike Ar577.2.1) (g := (mkF m 33 #[vR a1, vR ra, vR wF, vR b560, vI 1, vU, vU, vU] [(.ref ra), (.int (1 : Int32))])) rfl rfl (hb hby d4_33) _ ?_
      rw [len_of Sz577 Ng577]
      refine XS.icmpNo X573.here hx rfl (hb hby d4_34) rfl (tlt (by decide : (1 : Int32) < (2 : Int32))).2.1 ?_
      refine XS.aloadN X573.here hx rfl (hb hby d4_37) rfl rfl ?_
      refine XS.iload X573.here hx rfl (hb hby d4_38) rfl ?_
      refine XS.aloadN X573.here hx rfl (hb hby d4_40) rfl rfl ?_
      refine XS.aloadN X573.here hx rfl (hb hby d4_41) rfl rfl ?_
      refine XS.iload X573.here hx rfl (hb hby d4_42) rfl ?_
      refine XS.iload X573.here hx rfl (hb hby d4_44) rfl ?_
      refine XS.iconst X573.here hx rfl (hb hby d4_46) ?_
      show Steps p.tables e below (T573.setTop (mkF m 47 #[vR a1, vR ra, vR wF, vR b560, vI 1, vU, vU, vU] [(.int (1 : Int32)), (.int (1 : Int32)), (.int (1 : Int32)), (.ref ra), (.ref a1), (.int (1 : Int32)), (.ref b560)])) _
      refine XS.iadd X573.here hx rfl (hb hby d4_47) rfl ?_
      rw [(by decide : ((1 : Int32) + (1 : Int32)) = (2 : Int32))]
      exact h)
  obtain ⟨cq580, q580, q580'⟩ := Ew.cell
  obtain ⟨_, _, ⟨T580, L580, kk580, n580⟩, -, X580, ⟨Lc580, hQ580, l580, y580, z580⟩, st580⟩ := X573.privateBack hx (y := (⟨"com/example/lumenplan/lumenplan/simulation/Wavelengths", "lowestFree", "([III)I"⟩ : MethodName)) hown (mvT hZ (hw _ (gm 33 rfl))) (mvT hZ (hw _ (gm 34 rfl))) (mvT hZ (own_selects (hw _ (gm 6 rfl)) (hw _ (gm 34 rfl)) (hw _ (gm 35 rfl)) (by decide))) (Cond.privateMethod_at (mvP hZ (hw _ (gm 35 rfl)) (args := #[]))) (mvT hZ (hw _ (gm 36 rfl))) (by decide) (backOf (W := 2) (rmF_B2 l Z a0 hw []  a1 aH rA rB kH kL cn wd u vv ra kR r1 r1 h573 n0 O575 Fh VH VA VB Fc Fw VR hN1 hw0 (Or.inl ⟨hc1, rfl⟩)) hZ (hw _ (gm 36 rfl)) (hw _ (gm 7 rfl)) (by decide) (by decide)) (g := (mkF m 48 #[vR a1, vR ra, vR wF, vR b560, vI 1, vU, vU, vU] [(.int (2 : Int32)), (.int (1 : Int32)), (.ref ra), (.ref a1), (.int (1 : Int32)), (.ref b560)])) rfl (by rw [hml]; rfl) (Steps.refl _) (a := a1) (by rw [e573]; exact q580) q580' (argsL := [(.ref ra), (.int (1 : Int32)), (.int (2 : Int32))]) (rest := [(.int (1 : Int32)), (.ref b560)]) (lenOf pd_4 rfl) rfl (by show 2 * 0 + _ ≤ _; exact Nat.le_of_eq rfl) (hb hby d4_48) (fun _ _ => ⟨rfl, e573, (by decide : 1 + 0 ≤ _), (by decide : 2 + 0 ≤ _)⟩)
  dsimp only [Pt.U, Pt.locs, Pt.cells, Pt.slots] at X580 l580 y580 z580 st580 hQ580
  subst l580 y580 z580
  obtain ⟨rfl, Nq580, hh580⟩ := hQ580
  have N580 := Fr.app N573 Nq580
  have k581 : Rch p e below S0 T580 (mkF m 51 #[vR a1, vR ra, vR wF, vR b560, vI 1, vU, vU, vU] [(.int r1), (.int (1 : Int32)), (.ref b560)]) := fun t h => k579 t (st580.trans h)
  obtain ⟨cl582, Ar582, q582, Sz582, Ng582, Hs582, G582⟩ := id V_b560
  have hin582 : ¬ ((1 : Int32) < 0 ∨ cl582.slots.size ≤ ((1 : Int32)).toNatClampNeg) := inb_of Sz582 ⟨by decide, by decide⟩
  obtain ⟨T582, h582, X582, e582, W582, st582⟩ := stI X580 hx hZ hh580 Ar582 (j := (1 : Int32)) hin582 (g := (mkF m 51 #[vR a1, vR ra, vR wF, vR b560, vI 1, vU, vU, vU] [(.int r1), (.int (1 : Int32)), (.ref b560)])) rfl rfl (hb hby d4_51)
  have k583 : Rch p e below S0 T582 (mkF m 52 #[vR a1, vR ra, vR wF, vR b560, vI 1, vU, vU, vU] []) := fun t h => k581 t (st582 t h)
  have N582 := Fr.snoc X582 N580 ge_b560
  have V_b560' := Arv.set Ar582 q582 Sz582 Ng582 Hs582 G582 rfl W582 1 rfl (Nat.le_of_ble_eq_true rfl)
  replace V_b560 : Arv Z h582 b560 k560 .int (2 : Int32) [(.int r0), (.int r1)] (.int (0 : Int32)) := V_b560'
  have O584 := O575.wr W582 ge_b560
  have K585 := K576.wr W582 (Or.inr sz_b560)
  replace Ew := Ew.wr W582
  replace Fh := Fh.other W582 (Or.inl ne_a1_b560)
  replace Fc := Fc.other W582 (Or.inl ne_a1_b560)
  replace Fw := Fw.other W582 (Or.inl ne_a1_b560)
  replace VH := VH.other W582 ne_aH_b560
  replace VA := VA.other W582 ne_rA_b560
  replace VB := VB.other W582 ne_rB_b560
  replace VR := VR.other W582 ne_ra_b560
  have k587 : Rch p e below S0 T582 (mkF m 33 #[vR a1, vR ra, vR wF, vR b560, vI 2, vU, vU, vU] [(.ref ra), (.int (2 : Int32))]) := fun t h => k583 t (by
      show Steps p.tables e below (T582.setTop (mkF m 52 #[vR a1, vR ra, vR wF, vR b560, vI 1, vU, vU, vU] [])) _
      refine XS.iinc X582.here hx rfl (hb hby d4_52) rfl (l' := #[vR a1, vR ra, vR wF, vR b560, vI ((1 : Int32) + (1 : Int32)), vU, vU, vU]) rfl ?_
      rw [(by decide : ((1 : Int32) + (1 : Int32)) = (2 : Int32))]
      refine XS.goto X582.here hx rfl (pc0 := 55) (pc' := 30) rfl (hb hby d4_55) (by decide) (by decide) ?_
      refine XS.iload X582.here hx rfl (hb hby d4_30) rfl ?_
      refine XS.aloadN X582.here hx rfl (hb hby d4_32) rfl rfl ?_
      exact h)
  obtain ⟨cl586, Ar586, q586, Sz586, Ng586, Hs586, G586⟩ := id VR
  have k589 : Rch p e below S0 T582 (mkF m 63 #[vR a1, vR ra, vR wF, vR b560, vR b560, vU, vU, vU] [(.ref b560)]) := fun t h => k587 t (by
      show Steps p.tables e below (T582.setTop (mkF m 33 #[vR a1, vR ra, vR wF, vR b560, vI 2, vU, vU, vU] [(.ref ra), (.int (2 : Int32))])) _
      refine X582.arraylength hx (by rw [e582]; exact Ar586.1) (State.isArrayOf_alike hZ.alike Ar586.2.1) (g := (mkF m 33 #[vR a1, vR ra, vR wF, vR b560, vI 2, vU, vU, vU] [(.ref ra), (.int (2 : Int32))])) rfl rfl (hb hby d4_33) _ ?_
      rw [len_of Sz586 Ng586]
      refine XS.icmpYes X582.here hx rfl (pc0 := 34) (pc' := 58) rfl (hb hby d4_34) rfl (flt (by decide : ¬ ((2 : Int32) < (2 : Int32)))).2.1 (by decide) (by decide) ?_
      refine XS.aloadN X582.here hx rfl (hb hby d4_58) rfl rfl ?_
      refine XS.astore X582.here hx rfl (hb hby d4_59) rfl rfl (l' := #[vR a1, vR ra, vR wF, vR b560, vR b560, vU, vU, vU]) rfl ?_
      refine XS.aload X582.here hx rfl (hb hby d4_61) rfl rfl ?_
      exact h)
  obtain ⟨cl588, Ar588, q588, Sz588, Ng588, Hs588, G588⟩ := id V_b560
  have k591 : Rch p e below S0 T582 (mkF m 80 #[vR a1, vR ra, vR wF, vR b560, vR b560, vI 2, vI 0, vU] [(.int (0 : Int32)), (.ref b560)]) := fun t h => k589 t (by
      show Steps p.tables e below (T582.setTop (mkF m 63 #[vR a1, vR ra, vR wF, vR b560, vR b560, vU, vU, vU] [(.ref b560)])) _
      refine X582.arraylength hx (by rw [e582]; exact Ar588.1) (State.isArrayOf_alike hZ.alike Ar588.2.1) (g := (mkF m 63 #[vR a1, vR ra, vR wF, vR b560, vR b560, vU, vU, vU] [(.ref b560)])) rfl rfl (hb hby d4_63) _ ?_
      rw [len_of Sz588 Ng588]
      refine XS.istore X582.here hx rfl (hb hby d4_64) rfl (l' := #[vR a1, vR ra, vR wF, vR b560, vR b560, vI 2, vU, vU]) rfl ?_
      refine XS.iconst X582.here hx rfl (hb hby d4_66) ?_
      refine XS.istore X582.here hx rfl (hb hby d4_67) rfl (l' := #[vR a1, vR ra, vR wF, vR b560, vR b560, vI 2, vI 0, vU]) rfl ?_
      refine XS.iload X582.here hx rfl (hb hby d4_69) rfl ?_
      refine XS.iload X582.here hx rfl (hb hby d4_71) rfl ?_
      refine XS.icmpNo X582.here hx rfl (hb hby d4_73) rfl (tlt (by decide : (0 : Int32) < (2 : Int32))).2.1 ?_
      refine XS.aload X582.here hx rfl (hb hby d4_76) rfl rfl ?_
      refine XS.iload X582.here hx rfl (hb hby d4_78) rfl ?_
      exact h)
  obtain ⟨cl590, Ar590, q590, Sz590, Ng590, Hs590, G590⟩ := id V_b560
  have hin590 : ¬ ((0 : Int32) < 0 ∨ cl590.slots.size ≤ ((0 : Int32)).toNatClampNeg) := inb_of Sz590 ⟨by decide, by decide⟩
  have hat590 : cl590.slots[((0 : Int32)).toNatClampNeg]? = some (.int r0) := Hs590.at hin590 (rfl)
  have k593 : Rch p e below S0 T582 (mkF m 80 #[vR a1, vR ra, vR wF, vR b560, vR b560, vI 2, vI 1, vI r0] [(.int (1 : Int32)), (.ref b560)]) := fun t h => k591 t (by
      show Steps p.tables e below (T582.setTop (mkF m 80 #[vR a1, vR ra, vR wF, vR b560, vR b560, vI 2, vI 0, vU] [(.int (0 : Int32)), (.ref b560)])) _
      refine X582.iaload hx (j := (0 : Int32)) (v := (.int r0)) (by rw [e582]; exact Ar590.1) (State.isArrayOf_alike hZ.alike Ar590.2.1) Ar590.2.2 hin590 hat590 (g := (mkF m 80 #[vR a1, vR ra, vR wF, vR b560, vR b560, vI 2, vI 0, vU] [(.int (0 : Int32)), (.ref b560)])) rfl rfl (hb hby d4_80) _ ?_
      refine XS.istore X582.here hx rfl (hb hby d4_81) rfl (l' := #[vR a1, vR ra, vR wF, vR b560, vR b560, vI 2, vI 0, vI r0]) rfl ?_
      refine XS.iload X582.here hx rfl (hb hby d4_83) rfl ?_
      refine XS.ifYes X582.here hx rfl (pc0 := 85) (pc' := 90) rfl (hb hby d4_85) rfl ((if0 _ _).trans (flt ((own_nn hN0) : ¬ (r0 < (0 : Int32)))).2.1) (by decide) (by decide) ?_
      show Steps p.tables e below (T582.setTop (mkF m 90 #[vR a1, vR ra, vR wF, vR b560, vR b560, vI 2, vI 0, vI r0] [])) _
      refine XS.iinc X582.here hx rfl (hb hby d4_90) rfl (l' := #[vR a1, vR ra, vR wF, vR b560, vR b560, vI 2, vI ((0 : Int32) + (1 : Int32)), vI r0]) rfl ?_
      rw [(by decide : ((0 : Int32) + (1 : Int32)) = (1 : Int32))]
      refine XS.goto X582.here hx rfl (pc0 := 93) (pc' := 69) rfl (hb hby d4_93) (by decide) (by decide) ?_
      refine XS.iload X582.here hx rfl (hb hby d4_69) rfl ?_
      refine XS.iload X582.here hx rfl (hb hby d4_71) rfl ?_
      refine XS.icmpNo X582.here hx rfl (hb hby d4_73) rfl (tlt (by decide : (1 : Int32) < (2 : Int32))).2.1 ?_
      show Steps p.tables e below (T582.setTop (mkF m 76 #[vR a1, vR ra, vR wF, vR b560, vR b560, vI 2, vI 1, vI r0] [])) _
      refine XS.aload X582.here hx rfl (hb hby d4_76) rfl rfl ?_
      refine XS.iload X582.here hx rfl (hb hby d4_78) rfl ?_
      exact h)
  obtain ⟨cl592, Ar592, q592, Sz592, Ng592, Hs592, G592⟩ := id V_b560
  have hin592 : ¬ ((1 : Int32) < 0 ∨ cl592.slots.size ≤ ((1 : Int32)).toNatClampNeg) := inb_of Sz592 ⟨by decide, by decide⟩
  have hat592 : cl592.slots[((1 : Int32)).toNatClampNeg]? = some (.int r1) := Hs592.at hin592 (rfl)
  have k595 : Rch p e below S0 T582 (mkF m 102 #[vR a1, vR ra, vR wF, vR b560, vI 0, vI 2, vI 2, vI r1] [(.ref ra), (.int (0 : Int32))]) := fun t h => k593 t (by
      show Steps p.tables e below (T582.setTop (mkF m 80 #[vR a1, vR ra, vR wF, vR b560, vR b560, vI 2, vI 1, vI r0] [(.int (1 : Int32)), (.ref b560)])) _
      refine X582.iaload hx (j := (1 : Int32)) (v := (.int r1)) (by rw [e582]; exact Ar592.1) (State.isArrayOf_alike hZ.alike Ar592.2.1) Ar592.2.2 hin592 hat592 (g := (mkF m 80 #[vR a1, vR ra, vR wF, vR b560, vR b560, vI 2, vI 1, vI r0] [(.int (1 : Int32)), (.ref b560)])) rfl rfl (hb hby d4_80) _ ?_
      refine XS.istore X582.here hx rfl (hb hby d4_81) rfl (l' := #[vR a1, vR ra, vR wF, vR b560, vR b560, vI 2, vI 1, vI r1]) rfl ?_
      refine XS.iload X582.here hx rfl (hb hby d4_83) rfl ?_
      refine XS.ifYes X582.here hx rfl (pc0 := 85) (pc' := 90) rfl (hb hby d4_85) rfl ((if0 _ _).trans (flt ((own_nn hN1) : ¬ (r1 < (0 : Int32)))).2.1) (by decide) (by decide) ?_
      show Steps p.tables e below (T582.setTop (mkF m 90 #[vR a1, vR ra, vR wF, vR b560, vR b560, vI 2, vI 1, vI r1] [])) _
      refine XS.iinc X582.here hx rfl (hb hby d4_90) rfl (l' := #[vR a1, vR ra, vR wF, vR b560, vR b560, vI 2, vI ((1 : Int32) + (1 : Int32)), vI r1]) rfl ?_
      rw [(by decide : ((1 : Int32) + (1 : Int32)) = (2 : Int32))]
      refine XS.goto X582.here hx rfl (pc0 := 93) (pc' := 69) rfl (hb hby d4_93) (by decide) (by decide) ?_
      refine XS.iload X582.here hx rfl (hb hby d4_69) rfl ?_
      refine XS.iload X582.here hx rfl (hb hby d4_71) rfl ?_
      refine XS.icmpYes X582.here hx rfl (pc0 := 73) (pc' := 96) rfl (hb hby d4_73) rfl (flt (by decide : ¬ ((2 : Int32) < (2 : Int32)))).2.1 (by decide) (by decide) ?_
      refine XS.iconst X582.here hx rfl (hb hby d4_96) ?_
      refine XS.istore X582.here hx rfl (hb hby d4_97) rfl (l' := #[vR a1, vR ra, vR wF, vR b560, vI 0, vI 2, vI 2, vI r1]) rfl ?_
      refine XS.iload X582.here hx rfl (hb hby d4_99) rfl ?_
      refine XS.aloadN X582.here hx rfl (hb hby d4_101) rfl rfl ?_
      exact h)
  obtain ⟨cl594, Ar594, q594, Sz594, Ng594, Hs594, G594⟩ := id VR
  have k597 : Rch p e below S0 T582 (mkF m 110 #[vR a1, vR ra, vR wF, vR b560, vI 0, vI 2, vI 2, vI r1] [(.int (0 : Int32)), (.ref ra), (.ref a1)]) := fun t h => k595 t (by
      show Steps p.tables e below (T582.setTop (mkF m 102 #[vR a1, vR ra, vR wF, vR b560, vI 0, vI 2, vI 2, vI r1] [(.ref ra), (.int (0 : Int32))])) _
      refine X582.arraylength hx (by rw [e582]; exact Ar594.1) (State.isArrayOf_alike hZ.alike Ar594.2.1) (g := (mkF m 102 #[vR a1, vR ra, vR wF, vR b560, vI 0, vI 2, vI 2, vI r1] [(.ref ra), (.int (0 : Int32))])) rfl rfl (hb hby d4_102) _ ?_
      rw [len_of Sz594 Ng594]
      refine XS.icmpNo X582.here hx rfl (hb hby d4_103) rfl (tlt (by decide : (0 : Int32) < (2 : Int32))).2.1 ?_
      refine XS.aloadN X582.here hx rfl (hb hby d4_106) rfl rfl ?_
      refine XS.aloadN X582.here hx rfl (hb hby d4_107) rfl rfl ?_
      refine XS.iload X582.here hx rfl (hb hby d4_108) rfl ?_
      exact h)
  obtain ⟨cl596, Ar596, q596, Sz596, Ng596, Hs596, G596⟩ := id VR
  have hin596 : ¬ ((0 : Int32) < 0 ∨ cl596.slots.size ≤ ((0 : Int32)).toNatClampNeg) := inb_of Sz596 ⟨by decide, by decide⟩
  have hat596 : cl596.slots[((0 : Int32)).toNatClampNeg]? = some (.int (0 : Int32)) := Hs596.at hin596 (rfl)
  have k599 : Rch p e below S0 T582 (mkF m 114 #[vR a1, vR ra, vR wF, vR b560, vI 0, vI 2, vI 2, vI r1] [(.int (0 : Int32)), (.ref b560), (.int (0 : Int32)), (.ref a1)]) := fun t h => k597 t (by
      show Steps p.tables e below (T582.setTop (mkF m 110 #[vR a1, vR ra, vR wF, vR b560, vI 0, vI 2, vI 2, vI r1] [(.int (0 : Int32)), (.ref ra), (.ref a1)])) _
      refine X582.iaload hx (j := (0 : Int32)) (v := (.int (0 : Int32))) (by rw [e582]; exact Ar596.1) (State.isArrayOf_alike hZ.alike Ar596.2.1) Ar596.2.2 hin596 hat596 (g := (mkF m 110 #[vR a1, vR ra, vR wF, vR b560, vI 0, vI 2, vI 2, vI r1] [(.int (0 : Int32)), (.ref ra), (.ref a1)])) rfl rfl (hb hby d4_110) _ ?_
      refine XS.aloadN X582.here hx rfl (hb hby d4_111) rfl rfl ?_
      refine XS.iload X582.here hx rfl (hb hby d4_112) rfl ?_
      exact h)
  obtain ⟨cl598, Ar598, q598, Sz598, Ng598, Hs598, G598⟩ := id V_b560
  have hin598 : ¬ ((0 : Int32) < 0 ∨ cl598.slots.size ≤ ((0 : Int32)).toNatClampNeg) := inb_of Sz598 ⟨by decide, by decide⟩
  have hat598 : cl598.slots[((0 : Int32)).toNatClampNeg]? = some (.int r0) := Hs598.at hin598 (rfl)
  have k600 : Rch p e below S0 T582 (mkF m 118 #[vR a1, vR ra, vR wF, vR b560, vI 0, vI 2, vI 2, vI r1] [(.int (0 : Int32)), (.int (0 : Int32)), (.ref a1)]) := fun t h => k599 t (by
      show Steps p.tables e below (T582.setTop (mkF m 114 #[vR a1, vR ra, vR wF, vR b560, vI 0, vI 2, vI 2, vI r1] [(.int (0 : Int32)), (.ref b560), (.int (0 : Int32)), (.ref a1)])) _
      refine X582.iaload hx (j := (0 : Int32)) (v := (.int r0)) (by rw [e582]; exact Ar598.1) (State.isArrayOf_alike hZ.alike Ar598.2.1) Ar598.2.2 hin598 hat598 (g := (mkF m 114 #[vR a1, vR ra, vR wF, vR b560, vI 0, vI 2, vI 2, vI r1] [(.int (0 : Int32)), (.ref b560), (.int (0 : Int32)), (.ref a1)])) rfl rfl (hb hby d4_114) _ ?_
      refine XS.bipush X582.here hx rfl (hb hby d4_115) ?_
      show Steps p.tables e below (T582.setTop (mkF m 117 #[vR a1, vR ra, vR wF, vR b560, vI 0, vI 2, vI 2, vI r1] [(.int (64 : Int32)), (.int r0), (.int (0 : Int32)), (.ref a1)])) _
      refine XS.idiv X582.here hx rfl (hb hby d4_117) rfl (by decide) ?_
      rw [own_d64 hN0]
      exact h)
  obtain ⟨cq601, q601, q601'⟩ := Ew.cell
  obtain ⟨_, _, ⟨T601, L601, kk601, n601⟩, -, X601, ⟨Lc601, hQ601, l601, y601, z601⟩, st601⟩ := X582.privateBack hx (y := (⟨"com/example/lumenplan/lumenplan/simulation/Wavelengths", "reaching", "(II)[J"⟩ : MethodName)) hown (mvT hZ (hw _ (gm 50 rfl))) (mvT hZ (hw _ (gm 51 rfl))) (mvT hZ (own_selects (hw _ (gm 6 rfl)) (hw _ (gm 51 rfl)) (hw _ (gm 52 rfl)) (by decide))) (Cond.privateMethod_at (mvP hZ (hw _ (gm 52 rfl)) (args := #[]))) (mvT hZ (hw _ (gm 53 rfl))) (by decide) (backOf (W := 0) (rmR_A l Z a0 hw []  a1 aH rA rB kH kL cn wd u vv h582 n0 O584 Fh VH VA VB) hZ (hw _ (gm 53 rfl)) (hw _ (gm 7 rfl)) (by decide) (by decide)) (g := (mkF m 118 #[vR a1, vR ra, vR wF, vR b560, vI 0, vI 2, vI 2, vI r1] [(.int (0 : Int32)), (.int (0 : Int32)), (.ref a1)])) rfl (by rw [hml]; rfl) (Steps.refl _) (a := a1) (by rw [e582]; exact q601) q601' (argsL := [(.int (0 : Int32)), (.int (0 : Int32))]) (rest := []) (lenOf pd_8 rfl) rfl (by show 2 * 0 + _ ≤ _; exact Nat.le_of_eq rfl) (hb hby d4_118) (fun _ _ => ⟨rfl, e582, (by decide : 1 + 0 ≤ _), (by decide : 2 + 0 ≤ _)⟩)
  dsimp only [Pt.U, Pt.locs, Pt.cells, Pt.slots] at X601 l601 y601 z601 st601 hQ601
  subst l601 y601 z601
  obtain ⟨rfl, Nq601, hh601⟩ := hQ601
  have N601 := Fr.app N582 Nq601
  have k602 : Rch p e below S0 T601 (mkF m 121 #[vR a1, vR ra, vR wF, vR b560, vI 0, vI 2, vI 2, vI r1] [(.ref rA)]) := fun t h => k600 t (st601.trans h)
  have k604 : Rch p e below S0 T601 (mkF m 128 #[vR a1, vR ra, vR wF, vR b560, vI 0, vR rA, vI 2, vI r1] [(.int (0 : Int32)), (.ref b560), (.ref rA)]) := fun t h => k602 t (by
      show Steps p.tables e below (T601.setTop (mkF m 121 #[vR a1, vR ra, vR wF, vR b560, vI 0, vI 2, vI 2, vI r1] [(.ref rA)])) _
      refine XS.astore X601.here hx rfl (hb hby d4_121) rfl rfl (l' := #[vR a1, vR ra, vR wF, vR b560, vI 0, vR rA, vI 2, vI r1]) rfl ?_
      refine XS.aload X601.here hx rfl (hb hby d4_123) rfl rfl ?_
      refine XS.aloadN X601.here hx rfl (hb hby d4_125) rfl rfl ?_
      refine XS.iload X601.here hx rfl (hb hby d4_126) rfl ?_
      exact h)
  obtain ⟨cl603, Ar603, q603, Sz603, Ng603, Hs603, G603⟩ := id V_b560
  have hin603 : ¬ ((0 : Int32) < 0 ∨ cl603.slots.size ≤ ((0 : Int32)).toNatClampNeg) := inb_of Sz603 ⟨by decide, by decide⟩
  have hat603 : cl603.slots[((0 : Int32)).toNatClampNeg]? = some (.int r0) := Hs603.at hin603 (rfl)
  have k606 : Rch p e below S0 T601 (mkF m 133 #[vR a1, vR ra, vR wF, vR b560, vI 0, vR rA, vI 2, vI r1] [(.int (0 : Int32)), (.ref rA), (.int (0 : Int32)), (.ref rA)]) := fun t h => k604 t (by
      show Steps p.tables e below (T601.setTop (mkF m 128 #[vR a1, vR ra, vR wF, vR b560, vI 0, vR rA, vI 2, vI r1] [(.int (0 : Int32)), (.ref b560), (.ref rA)])) _
      refine X601.iaload hx (j := (0 : Int32)) (v := (.int r0)) (by rw [hh601]; exact Ar603.1) (State.isArrayOf_alike hZ.alike Ar603.2.1) Ar603.2.2 hin603 hat603 (g := (mkF m 128 #[vR a1, vR ra, vR wF, vR b560, vI 0, vR rA, vI 2, vI r1] [(.int (0 : Int32)), (.ref b560), (.ref rA)])) rfl rfl (hb hby d4_128) _ ?_
      refine XS.bipush X601.here hx rfl (hb hby d4_129) ?_
      show Steps p.tables e below (T601.setTop (mkF m 131 #[vR a1, vR ra, vR wF, vR b560, vI 0, vR rA, vI 2, vI r1] [(.int (64 : Int32)), (.int r0), (.ref rA)])) _
      refine XS.idiv X601.here hx rfl (hb hby d4_131) rfl (by decide) ?_
      rw [own_d64 hN0]
      refine XT.dup2 X601.here hx rfl (hb hby d4_132) rfl rfl rfl ?_
      exact h)
  obtain ⟨cl605, Ar605, q605, Sz605, Ng605, Hs605, G605⟩ := id VA
  have hin605 : ¬ ((0 : Int32) < 0 ∨ cl605.slots.size ≤ ((0 : Int32)).toNatClampNeg) := inb_of Sz605 ⟨by decide, by decide⟩
  have hat605 : cl605.slots[((0 : Int32)).toNatClampNeg]? = some (.long u) := Hs605.at hin605 (rfl)
  have k608 : Rch p e below S0 T601 (mkF m 138 #[vR a1, vR ra, vR wF, vR b560, vI 0, vR rA, vI 2, vI r1] [(.int (0 : Int32)), (.ref b560), (.long (1 : Int64)), (.long u), (.int (0 : Int32)), (.ref rA)]) := fun t h => k606 t (by
      show Steps p.tables e below (T601.setTop (mkF m 133 #[vR a1, vR ra, vR wF, vR b560, vI 0, vR rA, vI 2, vI r1] [(.int (0 : Int32)), (.ref rA), (.int (0 : Int32)), (.ref rA)])) _
      refine X601.laload hx (j := (0 : Int32)) (v := (.long u)) (by rw [hh601]; exact Ar605.1) (State.isArrayOf_alike hZ.alike Ar605.2.1) Ar605.2.2 hin605 hat605 (g := (mkF m 133 #[vR a1, vR ra, vR wF, vR b560, vI 0, vR rA, vI 2, vI r1] [(.int (0 : Int32)), (.ref rA), (.int (0 : Int32)), (.ref rA)])) rfl rfl (hb hby d4_133) _ ?_
      refine XS.lconst X601.here hx rfl (hb hby d4_134) ?_
      refine XS.aloadN X601.here hx rfl (hb hby d4_135) rfl rfl ?_
      refine XS.iload X601.here hx rfl (hb hby d4_136) rfl ?_
      exact h)
  obtain ⟨cl607, Ar607, q607, Sz607, Ng607, Hs607, G607⟩ := id V_b560
  have hin607 : ¬ ((0 : Int32) < 0 ∨ cl607.slots.size ≤ ((0 : Int32)).toNatClampNeg) := inb_of Sz607 ⟨by decide, by decide⟩
  have hat607 : cl607.slots[((0 : Int32)).toNatClampNeg]? = some (.int r0) := Hs607.at hin607 (rfl)
  have k610 : Rch p e below S0 T601 (mkF m 141 #[vR a1, vR ra, vR wF, vR b560, vI 0, vR rA, vI 2, vI r1] [(.long (u ||| ((1 : Int64) <<< (r0 &&& 0x3f).toInt64))), (.int (0 : Int32)), (.ref rA)]) := fun t h => k608 t (by
      show Steps p.tables e below (T601.setTop (mkF m 138 #[vR a1, vR ra, vR wF, vR b560, vI 0, vR rA, vI 2, vI r1] [(.int (0 : Int32)), (.ref b560), (.long (1 : Int64)), (.long u), (.int (0 : Int32)), (.ref rA)])) _
      refine X601.iaload hx (j := (0 : Int32)) (v := (.int r0)) (by rw [hh601]; exact Ar607.1) (State.isArrayOf_alike hZ.alike Ar607.2.1) Ar607.2.2 hin607 hat607 (g := (mkF m 138 #[vR a1, vR ra, vR wF, vR b560, vI 0, vR rA, vI 2, vI r1] [(.int (0 : Int32)), (.ref b560), (.long (1 : Int64)), (.long u), (.int (0 : Int32)), (.ref rA)])) rfl rfl (hb hby d4_138) _ ?_
      refine XS.lshl X601.here hx rfl (hb hby d4_139) rfl ?_
      refine XS.lor X601.here hx rfl (hb hby d4_140) rfl ?_
      exact h)
  obtain ⟨cl609, Ar609, q609, Sz609, Ng609, Hs609, G609⟩ := id VA
  have hin609 : ¬ ((0 : Int32) < 0 ∨ cl609.slots.size ≤ ((0 : Int32)).toNatClampNeg) := inb_of Sz609 ⟨by decide, by decide⟩
  obtain ⟨T609, h609, X609, e609, W609, st609⟩ := stJ X601 hx hZ hh601 Ar609 (j := (0 : Int32)) hin609 (g := (mkF m 141 #[vR a1, vR ra, vR wF, vR b560, vI 0, vR rA, vI 2, vI r1] [(.long (u ||| ((1 : Int64) <<< (r0 &&& 0x3f).toInt64))), (.int (0 : Int32)), (.ref rA)])) rfl rfl (hb hby d4_141)
  have k611 : Rch p e below S0 T609 (mkF m 142 #[vR a1, vR ra, vR wF, vR b560, vI 0, vR rA, vI 2, vI r1] []) := fun t h => k610 t (st609 t h)
  have N609 := Fr.snoc X609 N601 ge_rA
  have VA' := Arv.set Ar609 q609 Sz609 Ng609 Hs609 G609 rfl W609 0 rfl (Nat.le_of_ble_eq_true rfl)
  replace VA : Arv Z h609 rA kL .long (1 : Int32) [(.long (u ||| ((1 : Int64) <<< (r0 &&& 0x3f).toInt64)))] (.long (0 : Int64)) := VA'
  have O612 := O584.wr W609 ge_rA
  have K613 := K585.wr W609 (Or.inl (gm 0 rfl))
  replace Ew := Ew.wr W609
  replace Fh := Fh.other W609 (Or.inl ne_a1_rA)
  replace Fc := Fc.other W609 (Or.inl ne_a1_rA)
  replace Fw := Fw.other W609 (Or.inl ne_a1_rA)
  replace VH := VH.other W609 ne_aH_rA
  replace VB := VB.other W609 (Ne.symm ne_rA_rB)
  replace VR := VR.other W609 ne_ra_rA
  replace V_b560 := V_b560.other W609 (Ne.symm ne_rA_b560)
  have k615 : Rch p e below S0 T609 (mkF m 102 #[vR a1, vR ra, vR wF, vR b560, vI 1, vR rA, vI 2, vI r1] [(.ref ra), (.int (1 : Int32))]) := fun t h => k611 t (by
      show Steps p.tables e below (T609.setTop (mkF m 142 #[vR a1, vR ra, vR wF, vR b560, vI 0, vR rA, vI 2, vI r1] [])) _
      refine XS.iinc X609.here hx rfl (hb hby d4_142) rfl (l' := #[vR a1, vR ra, vR wF, vR b560, vI ((0 : Int32) + (1 : Int32)), vR rA, vI 2, vI r1]) rfl ?_
      rw [(by decide : ((0 : Int32) + (1 : Int32)) = (1 : Int32))]
      refine XS.goto X609.here hx rfl (pc0 := 145) (pc' := 99) rfl (hb hby d4_145) (by decide) (by decide) ?_
      refine XS.iload X609.here hx rfl (hb hby d4_99) rfl ?_
      refine XS.aloadN X609.here hx rfl (hb hby d4_101) rfl rfl ?_
      exact h)
  obtain ⟨cl614, Ar614, q614, Sz614, Ng614, Hs614, G614⟩ := id VR
  have k617 : Rch p e below S0 T609 (mkF m 110 #[vR a1, vR ra, vR wF, vR b560, vI 1, vR rA, vI 2, vI r1] [(.int (1 : Int32)), (.ref ra), (.ref a1)]) := fun t h => k615 t (by
      show Steps p.tables e below (T609.setTop (mkF m 102 #[vR a1, vR ra, vR wF, vR b560, vI 1, vR rA, vI 2, vI r1] [(.ref ra), (.int (1 : Int32))])) _
      refine X609.arraylength hx (by rw [e609]; exact Ar614.1) (State.isArrayOf_alike hZ.alike Ar614.2.1) (g := (mkF m 102 #[vR a1, vR ra, vR wF, vR b560, vI 1, vR rA, vI 2, vI r1] [(.ref ra), (.int (1 : Int32))])) rfl rfl (hb hby d4_102) _ ?_
      rw [len_of Sz614 Ng614]
      refine XS.icmpNo X609.here hx rfl (hb hby d4_103) rfl (tlt (by decide : (1 : Int32) < (2 : Int32))).2.1 ?_
      refine XS.aloadN X609.here hx rfl (hb hby d4_106) rfl rfl ?_
      refine XS.aloadN X609.here hx rfl (hb hby d4_107) rfl rfl ?_
      refine XS.iload X609.here hx rfl (hb hby d4_108) rfl ?_
      exact h)
  obtain ⟨cl616, Ar616, q616, Sz616, Ng616, Hs616, G616⟩ := id VR
  have hin616 : ¬ ((1 : Int32) < 0 ∨ cl616.slots.size ≤ ((1 : Int32)).toNatClampNeg) := inb_of Sz616 ⟨by decide, by decide⟩
  have hat616 : cl616.slots[((1 : Int32)).toNatClampNeg]? = some (.int (1 : Int32)) := Hs616.at hin616 (rfl)
  have k619 : Rch p e below S0 T609 (mkF m 114 #[vR a1, vR ra, vR wF, vR b560, vI 1, vR rA, vI 2, vI r1] [(.int (1 : Int32)), (.ref b560), (.int (1 : Int32)), (.ref a1)]) := fun t h => k617 t (by
      show Steps p.tables e below (T609.setTop (mkF m 110 #[vR a1, vR ra, vR wF, vR b560, vI 1, vR rA, vI 2, vI r1] [(.int (1 : Int32)), (.ref ra), (.ref a1)])) _
      refine X609.iaload hx (j := (1 : Int32)) (v := (.int (1 : Int32))) (by rw [e609]; exact Ar616.1) (State.isArrayOf_alike hZ.alike Ar616.2.1) Ar616.2.2 hin616 hat616 (g := (mkF m 110 #[vR a1, vR ra, vR wF, vR b560, vI 1, vR rA, vI 2, vI r1] [(.int (1 : Int32)), (.ref ra), (.ref a1)])) rfl rfl (hb hby d4_110) _ ?_
      refine XS.aloadN X609.here hx rfl (hb hby d4_111) rfl rfl ?_
      refine XS.iload X609.here hx rfl (hb hby d4_112) rfl ?_
      exact h)
  obtain ⟨cl618, Ar618, q618, Sz618, Ng618, Hs618, G618⟩ := id V_b560
  have hin618 : ¬ ((1 : Int32) < 0 ∨ cl618.slots.size ≤ ((1 : Int32)).toNatClampNeg) := inb_of Sz618 ⟨by decide, by decide⟩
  have hat618 : cl618.slots[((1 : Int32)).toNatClampNeg]? = some (.int r1) := Hs618.at hin618 (rfl)
  have k620 : Rch p e below S0 T609 (mkF m 118 #[vR a1, vR ra, vR wF, vR b560, vI 1, vR rA, vI 2, vI r1] [(.int (0 : Int32)), (.int (1 : Int32)), (.ref a1)]) := fun t h => k619 t (by
      show Steps p.tables e below (T609.setTop (mkF m 114 #[vR a1, vR ra, vR wF, vR b560, vI 1, vR rA, vI 2, vI r1] [(.int (1 : Int32)), (.ref b560), (.int (1 : Int32)), (.ref a1)])) _
      refine X609.iaload hx (j := (1 : Int32)) (v := (.int r1)) (by rw [e609]; exact Ar618.1) (State.isArrayOf_alike hZ.alike Ar618.2.1) Ar618.2.2 hin618 hat618 (g := (mkF m 114 #[vR a1, vR ra, vR wF, vR b560, vI 1, vR rA, vI 2, vI r1] [(.int (1 : Int32)), (.ref b560), (.int (1 : Int32)), (.ref a1)])) rfl rfl (hb hby d4_114) _ ?_
      refine XS.bipush X609.here hx rfl (hb hby d4_115) ?_
      show Steps p.tables e below (T609.setTop (mkF m 117 #[vR a1, vR ra, vR wF, vR b560, vI 1, vR rA, vI 2, vI r1] [(.int (64 : Int32)), (.int r1), (.int (1 : Int32)), (.ref a1)])) _
      refine XS.idiv X609.here hx rfl (hb hby d4_117) rfl (by decide) ?_
      rw [own_d64 hN1]
      exact h)
  obtain ⟨cq621, q621, q621'⟩ := Ew.cell
  obtain ⟨_, _, ⟨T621, L621, kk621, n621⟩, -, X621, ⟨Lc621, hQ621, l621, y621, z621⟩, st621⟩ := X609.privateBack hx (y := (⟨"com/example/lumenplan/lumenplan/simulation/Wavelengths", "reaching", "(II)[J"⟩ : MethodName)) hown (mvT hZ (hw _ (gm 50 rfl))) (mvT hZ (hw _ (gm 51 rfl))) (mvT hZ (own_selects (hw _ (gm 6 rfl)) (hw _ (gm 51 rfl)) (hw _ (gm 52 rfl)) (by decide))) (Cond.privateMethod_at (mvP hZ (hw _ (gm 52 rfl)) (args := #[]))) (mvT hZ (hw _ (gm 53 rfl))) (by decide) (backOf (W := 0) (rmR_B l Z a0 hw []  a1 aH rA rB kH kL cn wd (u ||| ((1 : Int64) <<< (r0 &&& 0x3f).toInt64)) vv h609 n0 O612 Fh VH VA VB) hZ (hw _ (gm 53 rfl)) (hw _ (gm 7 rfl)) (by decide) (by decide)) (g := (mkF m 118 #[vR a1, vR ra, vR wF, vR b560, vI 1, vR rA, vI 2, vI r1] [(.int (0 : Int32)), (.int (1 : Int32)), (.ref a1)])) rfl (by rw [hml]; rfl) (Steps.refl _) (a := a1) (by rw [e609]; exact q621) q621' (argsL := [(.int (1 : Int32)), (.int (0 : Int32))]) (rest := []) (lenOf pd_8 rfl) rfl (by show 2 * 0 + _ ≤ _; exact Nat.le_of_eq rfl) (hb hby d4_118) (fun _ _ => ⟨rfl, e609, (by decide : 1 + 0 ≤ _), (by decide : 2 + 0 ≤ _)⟩)
  dsimp only [Pt.U, Pt.locs, Pt.cells, Pt.slots] at X621 l621 y621 z621 st621 hQ621
  subst l621 y621 z621
  obtain ⟨rfl, Nq621, hh621⟩ := hQ621
  have N621 := Fr.app N609 Nq621
  have k622 : Rch p e below S0 T621 (mkF m 121 #[vR a1, vR ra, vR wF, vR b560, vI 1, vR rA, vI 2, vI r1] [(.ref rB)]) := fun t h => k620 t (st621.trans h)
  have k624 : Rch p e below S0 T621 (mkF m 128 #[vR a1, vR ra, vR wF, vR b560, vI 1, vR rB, vI 2, vI r1] [(.int (1 : Int32)), (.ref b560), (.ref rB)]) := fun t h => k622 t (by
      show Steps p.tables e below (T621.setTop (mkF m 121 #[vR a1, vR ra, vR wF, vR b560, vI 1, vR rA, vI 2, vI r1] [(.ref rB)])) _
      refine XS.astore X621.here hx rfl (hb hby d4_121) rfl rfl (l' := #[vR a1, vR ra, vR wF, vR b560, vI 1, vR rB, vI 2, vI r1]) rfl ?_
      refine XS.aload X621.here hx rfl (hb hby d4_123) rfl rfl ?_
      refine XS.aloadN X621.here hx rfl (hb hby d4_125) rfl rfl ?_
      refine XS.iload X621.here hx rfl (hb hby d4_126) rfl ?_
      show Steps p.tables e below (T621.setTop (mkF m 128 #[vR a1, vR ra, vR wF, vR b560, vI 1, vR rB, vI 2, vI r1] [(.int (1 : Int32)), (.ref b560), (.ref rB)])) _
      exact h)
  obtain ⟨cl623, Ar623, q623, Sz623, Ng623, Hs623, G623⟩ := id V_b560
  have hin623 : ¬ ((1 : Int32) < 0 ∨ cl623.slots.size ≤ ((1 : Int32)).toNatClampNeg) := inb_of Sz623 ⟨by decide, by decide⟩
  have hat623 : cl623.slots[((1 : Int32)).toNatClampNeg]? = some (.int r1) := Hs623.at hin623 (rfl)
  have k626 : Rch p e below S0 T621 (mkF m 133 #[vR a1, vR ra, vR wF, vR b560, vI 1, vR rB, vI 2, vI r1] [(.int (0 : Int32)), (.ref rB), (.int (0 : Int32)), (.ref rB)]) := fun t h => k624 t (by
      show Steps p.tables e below (T621.setTop (mkF m 128 #[vR a1, vR ra, vR wF, vR b560, vI 1, vR rB, vI 2, vI r1] [(.int (1 : Int32)), (.ref b560), (.ref rB)])) _
      refine X621.iaload hx (j := (1 : Int32)) (v := (.int r1)) (by rw [hh621]; exact Ar623.1) (State.isArrayOf_alike hZ.alike Ar623.2.1) Ar623.2.2 hin623 hat623 (g := (mkF m 128 #[vR a1, vR ra, vR wF, vR b560, vI 1, vR rB, vI 2, vI r1] [(.int (1 : Int32)), (.ref b560), (.ref rB)])) rfl rfl (hb hby d4_128) _ ?_
      refine XS.bipush X621.here hx rfl (hb hby d4_129) ?_
      show Steps p.tables e below (T621.setTop (mkF m 131 #[vR a1, vR ra, vR wF, vR b560, vI 1, vR rB, vI 2, vI r1] [(.int (64 : Int32)), (.int r1), (.ref rB)])) _
      refine XS.idiv X621.here hx rfl (hb hby d4_131) rfl (by decide) ?_
      rw [own_d64 hN1]
      refine XT.dup2 X621.here hx rfl (hb hby d4_132) rfl rfl rfl ?_
      exact h)
  obtain ⟨cl625, Ar625, q625, Sz625, Ng625, Hs625, G625⟩ := id VB
  have hin625 : ¬ ((0 : Int32) < 0 ∨ cl625.slots.size ≤ ((0 : Int32)).toNatClampNeg) := inb_of Sz625 ⟨by decide, by decide⟩
  have hat625 : cl625.slots[((0 : Int32)).toNatClampNeg]? = some (.long vv) := Hs625.at hin625 (rfl)
  have k628 : Rch p e below S0 T621 (mkF m 138 #[vR a1, vR ra, vR wF, vR b560, vI 1, vR rB, vI 2, vI r1] [(.int (1 : Int32)), (.ref b560), (.long (1 : Int64)), (.long vv), (.int (0 : Int32)), (.ref rB)]) := fun t h => k626 t (by
      show Steps p.tables e below (T621.setTop (mkF m 133 #[vR a1, vR ra, vR wF, vR b560, vI 1, vR rB, vI 2, vI r1] [(.int (0 : Int32)), (.ref rB), (.int (0 : Int32)), (.ref rB)])) _
      refine X621.laload hx (j := (0 : Int32)) (v := (.long vv)) (by rw [hh621]; exact Ar625.1) (State.isArrayOf_alike hZ.alike Ar625.2.1) Ar625.2.2 hin625 hat625 (g := (mkF m 133 #[vR a1, vR ra, vR wF, vR b560, vI 1, vR rB, vI 2, vI r1] [(.int (0 : Int32)), (.ref rB), (.int (0 : Int32)), (.ref rB)])) rfl rfl (hb hby d4_133) _ ?_
      refine XS.lconst X621.here hx rfl (hb hby d4_134) ?_
      refine XS.aloadN X621.here hx rfl (hb hby d4_135) rfl rfl ?_
      refine XS.iload X621.here hx rfl (hb hby d4_136) rfl ?_
      exact h)
  obtain ⟨cl627, Ar627, q627, Sz627, Ng627, Hs627, G627⟩ := id V_b560
  have hin627 : ¬ ((1 : Int32) < 0 ∨ cl627.slots.size ≤ ((1 : Int32)).toNatClampNeg) := inb_of Sz627 ⟨by decide, by decide⟩
  have hat627 : cl627.slots[((1 : Int32)).toNatClampNeg]? = some (.int r1) := Hs627.at hin627 (rfl)
  have k630 : Rch p e below S0 T621 (mkF m 141 #[vR a1, vR ra, vR wF, vR b560, vI 1, vR rB, vI 2, vI r1] [(.long (vv ||| ((1 : Int64) <<< (r1 &&& 0x3f).toInt64))), (.int (0 : Int32)), (.ref rB)]) := fun t h => k628 t (by
      show Steps p.tables e below (T621.setTop (mkF m 138 #[vR a1, vR ra, vR wF, vR b560, vI 1, vR rB, vI 2, vI r1] [(.int (1 : Int32)), (.ref b560), (.long (1 : Int64)), (.long vv), (.int (0 : Int32)), (.ref rB)])) _
      refine X621.iaload hx (j := (1 : Int32)) (v := (.int r1)) (by rw [hh621]; exact Ar627.1) (State.isArrayOf_alike hZ.alike Ar627.2.1) Ar627.2.2 hin627 hat627 (g := (mkF m 138 #[vR a1, vR ra, vR wF, vR b560, vI 1, vR rB, vI 2, vI r1] [(.int (1 : Int32)), (.ref b560), (.long (1 : Int64)), (.long vv), (.int (0 : Int32)), (.ref rB)])) rfl rfl (hb hby d4_138) _ ?_
      refine XS.lshl X621.here hx rfl (hb hby d4_139) rfl ?_
      refine XS.lor X621.here hx rfl (hb hby d4_140) rfl ?_
      exact h)
  obtain ⟨cl629, Ar629, q629, Sz629, Ng629, Hs629, G629⟩ := id VB
  have hin629 : ¬ ((0 : Int32) < 0 ∨ cl629.slots.size ≤ ((0 : Int32)).toNatClampNeg) := inb_of Sz629 ⟨by decide, by decide⟩
  obtain ⟨T629, h629, X629, e629, W629, st629⟩ := stJ X621 hx hZ hh621 Ar629 (j := (0 : Int32)) hin629 (g := (mkF m 141 #[vR a1, vR ra, vR wF, vR b560, vI 1, vR rB, vI 2, vI r1] [(.long (vv ||| ((1 : Int64) <<< (r1 &&& 0x3f).toInt64))), (.int (0 : Int32)), (.ref rB)])) rfl rfl (hb hby d4_141)
  have k631 : Rch p e below S0 T629 (mkF m 142 #[vR a1, vR ra, vR wF, vR b560, vI 1, vR rB, vI 2, vI r1] []) := fun t h => k630 t (st629 t h)
  have N629 := Fr.snoc X629 N621 ge_rB
  have VB' := Arv.set Ar629 q629 Sz629 Ng629 Hs629 G629 rfl W629 0 rfl (Nat.le_of_ble_eq_true rfl)
  replace VB : Arv Z h629 rB kL .long (1 : Int32) [(.long (vv ||| ((1 : Int64) <<< (r1 &&& 0x3f).toInt64)))] (.long (0 : Int64)) := VB'
  have O632 := O612.wr W629 ge_rB
  have K633 := K613.wr W629 (Or.inl (gm 1 rfl))
  replace Ew := Ew.wr W629
  replace Fh := Fh.other W629 (Or.inl ne_a1_rB)
  replace Fc := Fc.other W629 (Or.inl ne_a1_rB)
  replace Fw := Fw.other W629 (Or.inl ne_a1_rB)
  replace VH := VH.other W629 ne_aH_rB
  replace VA := VA.other W629 ne_rA_rB
  replace VR := VR.other W629 ne_ra_rB
  replace V_b560 := V_b560.other W629 (Ne.symm ne_rB_b560)
  have k635 : Rch p e below S0 T629 (mkF m 102 #[vR a1, vR ra, vR wF, vR b560, vI 2, vR rB, vI 2, vI r1] [(.ref ra), (.int (2 : Int32))]) := fun t h => k631 t (by
      show Steps p.tables e below (T629.setTop (mkF m 142 #[vR a1, vR ra, vR wF, vR b560, vI 1, vR rB, vI 2, vI r1] [])) _
      refine XS.iinc X629.here hx rfl (hb hby d4_142) rfl (l' := #[vR a1, vR ra, vR wF, vR b560, vI ((1 : Int32) + (1 : Int32)), vR rB, vI 2, vI r1]) rfl ?_
      rw [(by decide : ((1 : Int32) + (1 : Int32)) = (2 : Int32))]
      refine XS.goto X629.here hx rfl (pc0 := 145) (pc' := 99) rfl (hb hby d4_145) (by decide) (by decide) ?_
      refine XS.iload X629.here hx rfl (hb hby d4_99) rfl ?_
      refine XS.aloadN X629.here hx rfl (hb hby d4_101) rfl rfl ?_
      exact h)
  obtain ⟨cl634, Ar634, q634, Sz634, Ng634, Hs634, G634⟩ := id VR
  have k636 : Rch p e below S0 T629 (mkF m 149 #[vR a1, vR ra, vR wF, vR b560, vI 2, vR rB, vI 2, vI r1] [(.ref b560)]) := fun t h => k635 t (by
      show Steps p.tables e below (T629.setTop (mkF m 102 #[vR a1, vR ra, vR wF, vR b560, vI 2, vR rB, vI 2, vI r1] [(.ref ra), (.int (2 : Int32))])) _
      refine X629.arraylength hx (by rw [e629]; exact Ar634.1) (State.isArrayOf_alike hZ.alike Ar634.2.1) (g := (mkF m 102 #[vR a1, vR ra, vR wF, vR b560, vI 2, vR rB, vI 2, vI r1] [(.ref ra), (.int (2 : Int32))])) rfl rfl (hb hby d4_102) _ ?_
      rw [len_of Sz634 Ng634]
      refine XS.icmpYes X629.here hx rfl (pc0 := 103) (pc' := 148) rfl (hb hby d4_103) rfl (flt (by decide : ¬ ((2 : Int32) < (2 : Int32)))).2.1 (by decide) (by decide) ?_
      refine XS.aloadN X629.here hx rfl (hb hby d4_148) rfl rfl ?_
      exact h)
  obtain ⟨fs, hr, hrun, hended, hW, hsame⟩ := X629.leave (v := (some (.ref b560))) (fun h => by rw [Bd.returns] at h; cases h)
  refine ⟨_, _, ?_, hrun, hended, _, _, rfl, ?_, ⟨_, rfl⟩, hW, hsame.mono (by decide) (by decide)⟩
  · rw [← hS0]
    refine k636 _ ?_
    show Steps p.tables e below (T629.setTop (mkF m 149 #[vR a1, vR ra, vR wF, vR b560, vI 2, vR rB, vI 2, vI r1] [(.ref b560)])) _
    jvm_step X629.here [X629.here.top, hx, (hb hby d4_149), X629.method', Bd.returns, Value.isRef, FieldType.isReference]
    first | (intro acts; rw [hr _ acts rfl rfl rfl]) | rw [hr _ _ rfl rfl rfl]
    exact Steps.refl _
  · show Q_rmT_OK Z rA rB r0 r1 h0 n0 _ T629.heap _
    rw [e629]
    exact ⟨b560, k560, rfl, N629, K633, sz_b560, V_b560⟩
def Q_rmE_1 (Z : State) (rA : Addr) (rB : Addr) (kL : ClassId) (u : Int64) (vv : Int64) (h0 : Heap) (n0 : Nat) (v : Option Value) (h : Heap) (L : List Loc) : Prop := v = none ∧ Fr n0 L ∧ Keep h0 h [rA, rB] ∧ Arv Z h rA kL .long (1 : Int32) [(.long (u &&& (-2 : Int64)))] (.long (0 : Int64)) ∧ Arv Z h rB kL .long (1 : Int32) [(.long (vv &&& (-2 : Int64)))] (.long (0 : Int64))
theorem ef_10 (m : MethodId) (x0 : Addr) (x1 : Addr) (x2 : Addr) : entryFrame m #[(.ref x0), (.ref x1), (.ref x2)] 4 = mkF m 0 #[.val (.ref x0), .val (.ref x1), .val (.ref x2), .unset] [] := by first | (simp [entryFrame, mkF, argsToLocals, Value.category]; done) | rfl
theorem d10_0 : decode prog_37_method_3_code 0 = .ok (.iconst 0, 1) := by decide +kernel
theorem d10_1 : decode prog_37_method_3_code 1 = .ok (.istore_n 3, 1) := by decide +kernel
theorem d10_2 : decode prog_37_method_3_code 2 = .ok (.iload_n 3, 1) := by decide +kernel
theorem d10_3 : decode prog_37_method_3_code 3 = .ok (.aload_n 1, 1) := by decide +kernel
theorem d10_4 : decode prog_37_method_3_code 4 = .ok (.arraylength, 1) := by decide +kernel
theorem d10_5 : decode prog_37_method_3_code 5 = .ok (.if_icmp .ge 36, 3) := by decide +kernel
theorem d10_8 : decode prog_37_method_3_code 8 = .ok (.aload_n 0, 1) := by decide +kernel
theorem d10_9 : decode prog_37_method_3_code 9 = .ok (.getfield 22, 3) := by decide +kernel
theorem d10_12 : decode prog_37_method_3_code 12 = .ok (.aload_n 1, 1) := by decide +kernel
theorem d10_13 : decode prog_37_method_3_code 13 = .ok (.iload_n 3, 1) := by decide +kernel
theorem d10_14 : decode prog_37_method_3_code 14 = .ok (.iaload, 1) := by decide +kernel
theorem d10_15 : decode prog_37_method_3_code 15 = .ok (.aaload, 1) := by decide +kernel
theorem d10_16 : decode prog_37_method_3_code 16 = .ok (.aload_n 2, 1) := by decide +kernel
theorem d10_17 : decode prog_37_method_3_code 17 = .ok (.iload_n 3, 1) := by decide +kernel
theorem d10_18 : decode prog_37_method_3_code 18 = .ok (.iaload, 1) := by decide +kernel
theorem d10_19 : decode prog_37_method_3_code 19 = .ok (.bipush 64, 2) := by decide +kernel
theorem d10_21 : decode prog_37_method_3_code 21 = .ok (.idiv, 1) := by decide +kernel
theorem d10_22 : decode prog_37_method_3_code 22 = .ok (.dup2, 1) := by decide +kernel
theorem d10_23 : decode prog_37_method_3_code 23 = .ok (.laload, 1) := by decide +kernel
theorem d10_24 : decode prog_37_method_3_code 24 = .ok (.lconst 1, 1) := by decide +kernel
theorem d10_25 : decode prog_37_method_3_code 25 = .ok (.aload_n 2, 1) := by decide +kernel
theorem d10_26 : decode prog_37_method_3_code 26 = .ok (.iload_n 3, 1) := by decide +kernel
theorem d10_27 : decode prog_37_method_3_code 27 = .ok (.iaload, 1) := by decide +kernel
theorem d10_28 : decode prog_37_method_3_code 28 = .ok (.lshl, 1) := by decide +kernel
theorem d10_29 : decode prog_37_method_3_code 29 = .ok (.ldc2_w 45, 3) := by decide +kernel
theorem d10_32 : decode prog_37_method_3_code 32 = .ok (.lxor, 1) := by decide +kernel
theorem d10_33 : decode prog_37_method_3_code 33 = .ok (.land, 1) := by decide +kernel
theorem d10_34 : decode prog_37_method_3_code 34 = .ok (.lastore, 1) := by decide +kernel
theorem d10_35 : decode prog_37_method_3_code 35 = .ok (.iinc 3 1, 3) := by decide +kernel
theorem d10_38 : decode prog_37_method_3_code 38 = .ok (.goto (-36), 3) := by decide +kernel
theorem d10_41 : decode prog_37_method_3_code 41 = .ok (.return_, 1) := by decide +kernel
set_option maxRecDepth 65536 in
set_option maxHeartbeats 40000000 in
theorem rmE_1 (l : Launch) (Z : State) (a0 : Array Value) (hw : ∀ d ∈ tables_1, d.before a0 Z = true) (ws : List Jvm.Cond) (a1 : Addr) (aH : Addr) (rA : Addr) (rB : Addr) (kH : ClassId) (kL : ClassId) (cn : Int32) (wd : Int32) (u : Int64) (vv : Int64) (ra : Addr) (kR : ClassId) (ta : Addr) (kT : ClassId) (h0 : Heap) (n0 : Nat) (O0 : Old Z n0 h0) (ge_rA : n0 ≤ rA) (ge_rB : n0 ≤ rB) (Fh : Fld Z h0 a1 "com/example/lumenplan/lumenplan/simulation/Wavelengths" "held" "[[J" (.ref aH)) (VH : Arv Z h0 aH kH (.array .long) (2 : Int32) [(.ref rA), (.ref rB)] .null) (VA : Arv Z h0 rA kL .long (1 : Int32) [(.long u)] (.long (0 : Int64))) (VB : Arv Z h0 rB kL .long (1 : Int32) [(.long vv)] (.long (0 : Int64))) (VR : Arv Z h0 ra kR .int (2 : Int32) [(.int (0 : Int32)), (.int (1 : Int32))] (.int (0 : Int32))) (VT : Arv Z h0 ta kT .int (2 : Int32) [(.int (0 : Int32)), (.int (0 : Int32))] (.int (0 : Int32))) (ne_a1_rA : a1 ≠ rA) (ne_a1_rB : a1 ≠ rB) (ne_aH_rA : aH ≠ rA) (ne_aH_rB : aH ≠ rB) (ne_rA_rB : rA ≠ rB) (ne_ra_rA : ra ≠ rA) (ne_ra_rB : ra ≠ rB) (ne_ta_rA : ta ≠ rA) (ne_ta_rB : ta ≠ rB) :
    MetFree l (⟨"com/example/lumenplan/lumenplan/simulation/Wavelengths", "release", "([I[I)V"⟩ : MethodName) (head1 (Jvm.Cond.code (⟨"com/example/lumenplan/lumenplan/simulation/Wavelengths", "release", "([I[I)V"⟩ : MethodName) prog_37_method_3_code 4 none :: ws) ({ frames := 0, cells := 0, slots := 0, locals := 0 } : Room)) (fun a U => a = #[(.ref a1), (.ref ra), (.ref ta)] ∧ Z.Warmed39 U.vm ∧ U.heap = h0) (fun _ _ _ _ _ => True) (fun _ U o U' => ∃ v L, o = .returned v ∧ Q_rmE_1 Z rA rB kL u vv h0 n0 v U'.heap L ∧ FrameEnd U o U' L ({ frames := 0, cells := 0, slots := 0, locals := 0 } : Room).cells ({ frames := 0, cells := 0, slots := 0, locals := 0 } : Room).slots) := by
  refine MetFree.of_bodySF (plainFor_of_name pn_Wavelengths) hisR ?_
  intro p e s m args below meth c s₁ Bd hml0 hP hK
  obtain ⟨rfl, hZ, hh⟩ := hP
  have hx := Bd.exec
  have hby := Bd.bytes
  have hml : c.maxLocals = 4 := hml0
  have hown : s.vm.findClass "com/example/lumenplan/lumenplan/simulation/Wavelengths" = some m.cls := findClass_of_methodNamed Bd.named
  have hnm := (name_of_methodNamed Bd.named Bd.method).1
  have X0 : Stand p l e ({ frames := 0, cells := 0, slots := 0, locals := 0 } : Room) s m #[(.ref a1), (.ref ra), (.ref ta)] below meth c s₁ [] 0 0 := Stand.of_body Bd
  have e0 : s₁.heap = h0 := by rw [← hh, Bd.state]; rfl
  have N0 := Fr.nil n0
  obtain ⟨S0, hS0⟩ : ∃ z, z = s₁.setTop (entryFrame m #[(.ref a1), (.ref ra), (.ref ta)] 4) := ⟨_, rfl⟩
  have k0 : Rch p e below S0 s₁ (mkF m 0 #[vR a1, vR ra, vR ta, vU] []) := fun t kq => hS0 ▸ castTop (ef_10 m a1 ra ta) kq
  have K0 : Keep h0 h0 [rA, rB] := Keep.refl h0 _
  have k638 : Rch p e below S0 s₁ (mkF m 4 #[vR a1, vR ra, vR ta, vI 0] [(.ref ra), (.int (0 : Int32))]) := fun t h => k0 t (by
      show Steps p.tables e below (s₁.setTop (mkF m 0 #[vR a1, vR ra, vR ta, vU] [])) _
      refine XS.iconst X0.here hx rfl (hb hby d10_0) ?_
      refine XS.istoreN X0.here hx rfl (hb hby d10_1) rfl (l' := #[vR a1, vR ra, vR ta, vI 0]) rfl ?_
      refine XS.iloadN X0.here hx rfl (hb hby d10_2) rfl ?_
      refine XS.aloadN X0.here hx rfl (hb hby d10_3) rfl rfl ?_
      exact h)
  obtain ⟨cl637, Ar637, q637, Sz637, Ng637, Hs637, G637⟩ := id VR
  have k640 : Rch p e below S0 s₁ (mkF m 9 #[vR a1, vR ra, vR ta, vI 0] [(.ref a1)]) := fun t h => k638 t (by
      show Steps p.tables e below (s₁.setTop (mkF m 4 #[vR a1, vR ra, vR ta, vI 0] [(.ref ra), (.int (0 : Int32))])) _
      refine X0.arraylength hx (by rw [e0]; exact Ar637.1) (State.isArrayOf_alike hZ.alike Ar637.2.1) (g := (mkF m 4 #[vR a1, vR ra, vR ta, vI 0] [(.ref ra), (.int (0 : Int32))])) rfl rfl (hb hby d10_4) _ ?_
      rw [len_of Sz637 Ng637]
      refine XS.icmpNo X0.here hx rfl (hb hby d10_5) rfl (tlt (by decide : (0 : Int32) < (2 : Int32))).2.1 ?_
      refine XS.aloadN X0.here hx rfl (hb hby d10_8) rfl rfl ?_
      exact h)
  obtain ⟨T639, X639, e639, st639⟩ := getF X0 hx hZ hown (host := "") (Or.inl (hw _ (gm 22 rfl))) Via.refl e0 Fh (g := (mkF m 9 #[vR a1, vR ra, vR ta, vI 0] [(.ref a1)])) rfl rfl (hb hby d10_9)
  have k641 : Rch p e below S0 T639 (mkF m 12 #[vR a1, vR ra, vR ta, vI 0] [(.ref aH)]) := fun t h => k640 t (st639 t h)
  have k643 : Rch p e below S0 T639 (mkF m 14 #[vR a1, vR ra, vR ta, vI 0] [(.int (0 : Int32)), (.ref ra), (.ref aH)]) := fun t h => k641 t (by
      show Steps p.tables e below (T639.setTop (mkF m 12 #[vR a1, vR ra, vR ta, vI 0] [(.ref aH)])) _
      refine XS.aloadN X639.here hx rfl (hb hby d10_12) rfl rfl ?_
      refine XS.iloadN X639.here hx rfl (hb hby d10_13) rfl ?_
      exact h)
  obtain ⟨cl642, Ar642, q642, Sz642, Ng642, Hs642, G642⟩ := id VR
  have hin642 : ¬ ((0 : Int32) < 0 ∨ cl642.slots.size ≤ ((0 : Int32)).toNatClampNeg) := inb_of Sz642 ⟨by decide, by decide⟩
  have hat642 : cl642.slots[((0 : Int32)).toNatClampNeg]? = some (.int (0 : Int32)) := Hs642.at hin642 (rfl)
  have k645 : Rch p e below S0 T639 (mkF m 15 #[vR a1, vR ra, vR ta, vI 0] [(.int (0 : Int32)), (.ref aH)]) := fun t h => k643 t (by
      show Steps p.tables e below (T639.setTop (mkF m 14 #[vR a1, vR ra, vR ta, vI 0] [(.int (0 : Int32)), (.ref ra), (.ref aH)])) _
      refine X639.iaload hx (j := (0 : Int32)) (v := (.int (0 : Int32))) (by rw [e639]; exact Ar642.1) (State.isArrayOf_alike hZ.alike Ar642.2.1) Ar642.2.2 hin642 hat642 (g := (mkF m 14 #[vR a1, vR ra, vR ta, vI 0] [(.int (0 : Int32)), (.ref ra), (.ref aH)])) rfl rfl (hb hby d10_14) _ ?_
      exact h)
  obtain ⟨cl644, Ar644, q644, Sz644, Ng644, Hs644, G644⟩ := id VH
  have hin644 : ¬ ((0 : Int32) < 0 ∨ cl644.slots.size ≤ ((0 : Int32)).toNatClampNeg) := inb_of Sz644 ⟨by decide, by decide⟩
  have hat644 : cl644.slots[((0 : Int32)).toNatClampNeg]? = some (.ref rA) := Hs644.at hin644 (rfl)
  have k647 : Rch p e below S0 T639 (mkF m 18 #[vR a1, vR ra, vR ta, vI 0] [(.int (0 : Int32)), (.ref ta), (.ref rA)]) := fun t h => k645 t (by
      show Steps p.tables e below (T639.setTop (mkF m 15 #[vR a1, vR ra, vR ta, vI 0] [(.int (0 : Int32)), (.ref aH)])) _
      refine X639.aaload hx (j := (0 : Int32)) (v := (.ref rA)) (by rw [e639]; exact Ar644.1) (State.isArrayOf_alike hZ.alike Ar644.2.1) rfl Ar644.2.2 hin644 hat644 (g := (mkF m 15 #[vR a1, vR ra, vR ta, vI 0] [(.int (0 : Int32)), (.ref aH)])) rfl rfl (hb hby d10_15) _ ?_
      refine XS.aloadN X639.here hx rfl (hb hby d10_16) rfl rfl ?_
      refine XS.iloadN X639.here hx rfl (hb hby d10_17) rfl ?_
      exact h)
  obtain ⟨cl646, Ar646, q646, Sz646, Ng646, Hs646, G646⟩ := id VT
  have hin646 : ¬ ((0 : Int32) < 0 ∨ cl646.slots.size ≤ ((0 : Int32)).toNatClampNeg) := inb_of Sz646 ⟨by decide, by decide⟩
  have hat646 : cl646.slots[((0 : Int32)).toNatClampNeg]? = some (.int (0 : Int32)) := Hs646.at hin646 (rfl)
  have k649 : Rch p e below S0 T639 (mkF m 23 #[vR a1, vR ra, vR ta, vI 0] [(.int (0 : Int32)), (.ref rA), (.int (0 : Int32)), (.ref rA)]) := fun t h => k647 t (by
      show Steps p.tables e below (T639.setTop (mkF m 18 #[vR a1, vR ra, vR ta, vI 0] [(.int (0 : Int32)), (.ref ta), (.ref rA)])) _
      refine X639.iaload hx (j := (0 : Int32)) (v := (.int (0 : Int32))) (by rw [e639]; exact Ar646.1) (State.isArrayOf_alike hZ.alike Ar646.2.1) Ar646.2.2 hin646 hat646 (g := (mkF m 18 #[vR a1, vR ra, vR ta, vI 0] [(.int (0 : Int32)), (.ref ta), (.ref rA)])) rfl rfl (hb hby d10_18) _ ?_
      refine XS.bipush X639.here hx rfl (hb hby d10_19) ?_
      show Steps p.tables e below (T639.setTop (mkF m 21 #[vR a1, vR ra, vR ta, vI 0] [(.int (64 : Int32)), (.int (0 : Int32)), (.ref rA)])) _
      refine XS.idiv X639.here hx rfl (hb hby d10_21) rfl (by decide) ?_
      rw [(by decide : ((0 : Int32) / (64 : Int32)) = (0 : Int32))]
      refine XT.dup2 X639.here hx rfl (hb hby d10_22) rfl rfl rfl ?_
      exact h)
  obtain ⟨cl648, Ar648, q648, Sz648, Ng648, Hs648, G648⟩ := id VA
  have hin648 : ¬ ((0 : Int32) < 0 ∨ cl648.slots.size ≤ ((0 : Int32)).toNatClampNeg) := inb_of Sz648 ⟨by decide, by decide⟩
  have hat648 : cl648.slots[((0 : Int32)).toNatClampNeg]? = some (.long u) := Hs648.at hin648 (rfl)
  have k651 : Rch p e below S0 T639 (mkF m 27 #[vR a1, vR ra, vR ta, vI 0] [(.int (0 : Int32)), (.ref ta), (.long (1 : Int64)), (.long u), (.int (0 : Int32)), (.ref rA)]) := fun t h => k649 t (by
      show Steps p.tables e below (T639.setTop (mkF m 23 #[vR a1, vR ra, vR ta, vI 0] [(.int (0 : Int32)), (.ref rA), (.int (0 : Int32)), (.ref rA)])) _
      refine X639.laload hx (j := (0 : Int32)) (v := (.long u)) (by rw [e639]; exact Ar648.1) (State.isArrayOf_alike hZ.alike Ar648.2.1) Ar648.2.2 hin648 hat648 (g := (mkF m 23 #[vR a1, vR ra, vR ta, vI 0] [(.int (0 : Int32)), (.ref rA), (.int (0 : Int32)), (.ref rA)])) rfl rfl (hb hby d10_23) _ ?_
      refine XS.lconst X639.here hx rfl (hb hby d10_24) ?_
      refine XS.aloadN X639.here hx rfl (hb hby d10_25) rfl rfl ?_
      refine XS.iloadN X639.here hx rfl (hb hby d10_26) rfl ?_
      exact h)
  obtain ⟨cl650, Ar650, q650, Sz650, Ng650, Hs650, G650⟩ := id VT
  have hin650 : ¬ ((0 : Int32) < 0 ∨ cl650.slots.size ≤ ((0 : Int32)).toNatClampNeg) := inb_of Sz650 ⟨by decide, by decide⟩
  have hat650 : cl650.slots[((0 : Int32)).toNatClampNeg]? = some (.int (0 : Int32)) := Hs650.at hin650 (rfl)
  have k653 : Rch p e below S0 T639 (mkF m 34 #[vR a1, vR ra, vR ta, vI 0] [(.long (u &&& (-2 : Int64))), (.int (0 : Int32)), (.ref rA)]) := fun t h => k651 t (by
      show Steps p.tables e below (T639.setTop (mkF m 27 #[vR a1, vR ra, vR ta, vI 0] [(.int (0 : Int32)), (.ref ta), (.long (1 : Int64)), (.long u), (.int (0 : Int32)), (.ref rA)])) _
      refine X639.iaload hx (j := (0 : Int32)) (v := (.int (0 : Int32))) (by rw [e639]; exact Ar650.1) (State.isArrayOf_alike hZ.alike Ar650.2.1) Ar650.2.2 hin650 hat650 (g := (mkF m 27 #[vR a1, vR ra, vR ta, vI 0] [(.int (0 : Int32)), (.ref ta), (.long (1 : Int64)), (.long u), (.int (0 : Int32)), (.ref rA)])) rfl rfl (hb hby d10_27) _ ?_
      show Steps p.tables e below (T639.setTop (mkF m 28 #[vR a1, vR ra, vR ta, vI 0] [(.int (0 : Int32)), (.long (1 : Int64)), (.long u), (.int (0 : Int32)), (.ref rA)])) _
      refine XS.lshl X639.here hx rfl (hb hby d10_28) rfl ?_
      rw [(by decide : ((1 : Int64) <<< ((0 : Int32) &&& 0x3f).toInt64) = (1 : Int64))]
      refine X639.ldc2Long hx hown (mvT hZ (hw _ (gm 37 rfl))) (g := (mkF m 29 #[vR a1, vR ra, vR ta, vI 0] [(.long (1 : Int64)), (.long u), (.int (0 : Int32)), (.ref rA)])) rfl (hb hby d10_29) _ ?_
      show Steps p.tables e below (T639.setTop (mkF m 32 #[vR a1, vR ra, vR ta, vI 0] [(.long (-1 : Int64)), (.long (1 : Int64)), (.long u), (.int (0 : Int32)), (.ref rA)])) _
      refine XS.lxor X639.here hx rfl (hb hby d10_32) rfl ?_
      rw [(by decide : ((1 : Int64) ^^^ (-1 : Int64)) = (-2 : Int64))]
      refine XS.land X639.here hx rfl (hb hby d10_33) rfl ?_
      exact h)
  obtain ⟨cl652, Ar652, q652, Sz652, Ng652, Hs652, G652⟩ := id VA
  have hin652 : ¬ ((0 : Int32) < 0 ∨ cl652.slots.size ≤ ((0 : Int32)).toNatClampNeg) := inb_of Sz652 ⟨by decide, by decide⟩
  obtain ⟨T652, h652, X652, e652, W652, st652⟩ := stJ X639 hx hZ e639 Ar652 (j := (0 : Int32)) hin652 (g := (mkF m 34 #[vR a1, vR ra, vR ta, vI 0] [(.long (u &&& (-2 : Int64))), (.int (0 : Int32)), (.ref rA)])) rfl rfl (hb hby d10_34)
  have k654 : Rch p e below S0 T652 (mkF m 35 #[vR a1, vR ra, vR ta, vI 0] []) := fun t h => k653 t (st652 t h)
  have N652 := Fr.snoc X652 N0 ge_rA
  have VA' := Arv.set Ar652 q652 Sz652 Ng652 Hs652 G652 rfl W652 0 rfl (Nat.le_of_ble_eq_true rfl)
  replace VA : Arv Z h652 rA kL .long (1 : Int32) [(.long (u &&& (-2 : Int64)))] (.long (0 : Int64)) := VA'
  have O655 := O0.wr W652 ge_rA
  have K656 := K0.wr W652 (Or.inl (gm 0 rfl))
  replace Fh := Fh.other W652 (Or.inl ne_a1_rA)
  replace VH := VH.other W652 ne_aH_rA
  replace VB := VB.other W652 (Ne.symm ne_rA_rB)
  replace VR := VR.other W652 ne_ra_rA
  replace VT := VT.other W652 ne_ta_rA
  have k658 : Rch p e below S0 T652 (mkF m 4 #[vR a1, vR ra, vR ta, vI 1] [(.ref ra), (.int (1 : Int32))]) := fun t h => k654 t (by
      show Steps p.tables e below (T652.setTop (mkF m 35 #[vR a1, vR ra, vR ta, vI 0] [])) _
      refine XS.iinc X652.here hx rfl (hb hby d10_35) rfl (l' := #[vR a1, vR ra, vR ta, vI ((0 : Int32) + (1 : Int32))]) rfl ?_
      rw [(by decide : ((0 : Int32) + (1 : Int32)) = (1 : Int32))]
      refine XS.goto X652.here hx rfl (pc0 := 38) (pc' := 2) rfl (hb hby d10_38) (by decide) (by decide) ?_
      refine XS.iloadN X652.here hx rfl (hb hby d10_2) rfl ?_
      refine XS.aloadN X652.here hx rfl (hb hby d10_3) rfl rfl ?_
      exact h)
  obtain ⟨cl657, Ar657, q657, Sz657, Ng657, Hs657, G657⟩ := id VR
  have k660 : Rch p e below S0 T652 (mkF m 9 #[vR a1, vR ra, vR ta, vI 1] [(.ref a1)]) := fun t h => k658 t (by
      show Steps p.tables e below (T652.setTop (mkF m 4 #[vR a1, vR ra, vR ta, vI 1] [(.ref ra), (.int (1 : Int32))])) _
      refine X652.arraylength hx (by rw [e652]; exact Ar657.1) (State.isArrayOf_alike hZ.alike Ar657.2.1) (g := (mkF m 4 #[vR a1, vR ra, vR ta, vI 1] [(.ref ra), (.int (1 : Int32))])) rfl rfl (hb hby d10_4) _ ?_
      rw [len_of Sz657 Ng657]
      refine XS.icmpNo X652.here hx rfl (hb hby d10_5) rfl (tlt (by decide : (1 : Int32) < (2 : Int32))).2.1 ?_
      refine XS.aloadN X652.here hx rfl (hb hby d10_8) rfl rfl ?_
      exact h)
  obtain ⟨T659, X659, e659, st659⟩ := getF X652 hx hZ hown (host := "") (Or.inl (hw _ (gm 22 rfl))) Via.refl e652 Fh (g := (mkF m 9 #[vR a1, vR ra, vR ta, vI 1] [(.ref a1)])) rfl rfl (hb hby d10_9)
  have k661 : Rch p e below S0 T659 (mkF m 12 #[vR a1, vR ra, vR ta, vI 1] [(.ref aH)]) := fun t h => k660 t (st659 t h)
  have k663 : Rch p e below S0 T659 (mkF m 14 #[vR a1, vR ra, vR ta, vI 1] [(.int (1 : Int32)), (.ref ra), (.ref aH)]) := fun t h => k661 t (by
      show Steps p.tables e below (T659.setTop (mkF m 12 #[vR a1, vR ra, vR ta, vI 1] [(.ref aH)])) _
      refine XS.aloadN X659.here hx rfl (hb hby d10_12) rfl rfl ?_
      refine XS.iloadN X659.here hx rfl (hb hby d10_13) rfl ?_
      exact h)
  obtain ⟨cl662, Ar662, q662, Sz662, Ng662, Hs662, G662⟩ := id VR
  have hin662 : ¬ ((1 : Int32) < 0 ∨ cl662.slots.size ≤ ((1 : Int32)).toNatClampNeg) := inb_of Sz662 ⟨by decide, by decide⟩
  have hat662 : cl662.slots[((1 : Int32)).toNatClampNeg]? = some (.int (1 : Int32)) := Hs662.at hin662 (rfl)
  have k665 : Rch p e below S0 T659 (mkF m 15 #[vR a1, vR ra, vR ta, vI 1] [(.int (1 : Int32)), (.ref aH)]) := fun t h => k663 t (by
      show Steps p.tables e below (T659.setTop (mkF m 14 #[vR a1, vR ra, vR ta, vI 1] [(.int (1 : Int32)), (.ref ra), (.ref aH)])) _
      refine X659.iaload hx (j := (1 : Int32)) (v := (.int (1 : Int32))) (by rw [e659]; exact Ar662.1) (State.isArrayOf_alike hZ.alike Ar662.2.1) Ar662.2.2 hin662 hat662 (g := (mkF m 14 #[vR a1, vR ra, vR ta, vI 1] [(.int (1 : Int32)), (.ref ra), (.ref aH)])) rfl rfl (hb hby d10_14) _ ?_
      exact h)
  obtain ⟨cl664, Ar664, q664, Sz664, Ng664, Hs664, G664⟩ := id VH
  have hin664 : ¬ ((1 : Int32) < 0 ∨ cl664.slots.size ≤ ((1 : Int32)).toNatClampNeg) := inb_of Sz664 ⟨by decide, by decide⟩
  have hat664 : cl664.slots[((1 : Int32)).toNatClampNeg]? = some (.ref rB) := Hs664.at hin664 (rfl)
  have k667 : Rch p e below S0 T659 (mkF m 18 #[vR a1, vR ra, vR ta, vI 1] [(.int (1 : Int32)), (.ref ta), (.ref rB)]) := fun t h => k665 t (by
      show Steps p.tables e below (T659.setTop (mkF m 15 #[vR a1, vR ra, vR ta, vI 1] [(.int (1 : Int32)), (.ref aH)])) _
      refine X659.aaload hx (j := (1 : Int32)) (v := (.ref rB)) (by rw [e659]; exact Ar664.1) (State.isArrayOf_alike hZ.alike Ar664.2.1) rfl Ar664.2.2 hin664 hat664 (g := (mkF m 15 #[vR a1, vR ra, vR ta, vI 1] [(.int (1 : Int32)), (.ref aH)])) rfl rfl (hb hby d10_15) _ ?_
      refine XS.aloadN X659.here hx rfl (hb hby d10_16) rfl rfl ?_
      refine XS.iloadN X659.here hx rfl (hb hby d10_17) rfl ?_
      exact h)
  obtain ⟨cl666, Ar666, q666, Sz666, Ng666, Hs666, G666⟩ := id VT
  have hin666 : ¬ ((1 : Int32) < 0 ∨ cl666.slots.size ≤ ((1 : Int32)).toNatClampNeg) := inb_of Sz666 ⟨by decide, by decide⟩
  have hat666 : cl666.slots[((1 : Int32)).toNatClampNeg]? = some (.int (0 : Int32)) := Hs666.at hin666 (rfl)
  have k669 : Rch p e below S0 T659 (mkF m 23 #[vR a1, vR ra, vR ta, vI 1] [(.int (0 : Int32)), (.ref rB), (.int (0 : Int32)), (.ref rB)]) := fun t h => k667 t (by
      show Steps p.tables e below (T659.setTop (mkF m 18 #[vR a1, vR ra, vR ta, vI 1] [(.int (1 : Int32)), (.ref ta), (.ref rB)])) _
      refine X659.iaload hx (j := (1 : Int32)) (v := (.int (0 : Int32))) (by rw [e659]; exact Ar666.1) (State.isArrayOf_alike hZ.alike Ar666.2.1) Ar666.2.2 hin666 hat666 (g := (mkF m 18 #[vR a1, vR ra, vR ta, vI 1] [(.int (1 : Int32)), (.ref ta), (.ref rB)])) rfl rfl (hb hby d10_18) _ ?_
      refine XS.bipush X659.here hx rfl (hb hby d10_19) ?_
      show Steps p.tables e below (T659.setTop (mkF m 21 #[vR a1, vR ra, vR ta, vI 1] [(.int (64 : Int32)), (.int (0 : Int32)), (.ref rB)])) _
      refine XS.idiv X659.here hx rfl (hb hby d10_21) rfl (by decide) ?_
      rw [(by decide : ((0 : Int32) / (64 : Int32)) = (0 : Int32))]
      refine XT.dup2 X659.here hx rfl (hb hby d10_22) rfl rfl rfl ?_
      exact h)
  obtain ⟨cl668, Ar668, q668, Sz668, Ng668, Hs668, G668⟩ := id VB
  have hin668 : ¬ ((0 : Int32) < 0 ∨ cl668.slots.size ≤ ((0 : Int32)).toNatClampNeg) := inb_of Sz668 ⟨by decide, by decide⟩
  have hat668 : cl668.slots[((0 : Int32)).toNatClampNeg]? = some (.long vv) := Hs668.at hin668 (rfl)
  have k671 : Rch p e below S0 T659 (mkF m 27 #[vR a1, vR ra, vR ta, vI 1] [(.int (1 : Int32)), (.ref ta), (.long (1 : Int64)), (.long vv), (.int (0 : Int32)), (.ref rB)]) := fun t h => k669 t (by
      show Steps p.tables e below (T659.setTop (mkF m 23 #[vR a1, vR ra, vR ta, vI 1] [(.int (0 : Int32)), (.ref rB), (.int (0 : Int32)), (.ref rB)])) _
      refine X659.laload hx (j := (0 : Int32)) (v := (.long vv)) (by rw [e659]; exact Ar668.1) (State.isArrayOf_alike hZ.alike Ar668.2.1) Ar668.2.2 hin668 hat668 (g := (mkF m 23 #[vR a1, vR ra, vR ta, vI 1] [(.int (0 : Int32)), (.ref rB), (.int (0 : Int32)), (.ref rB)])) rfl rfl (hb hby d10_23) _ ?_
      refine XS.lconst X659.here hx rfl (hb hby d10_24) ?_
      refine XS.aloadN X659.here hx rfl (hb hby d10_25) rfl rfl ?_
      refine XS.iloadN X659.here hx rfl (hb hby d10_26) rfl ?_
      exact h)
  obtain ⟨cl670, Ar670, q670, Sz670, Ng670, Hs670, G670⟩ := id VT
  have hin670 : ¬ ((1 : Int32) < 0 ∨ cl670.slots.size ≤ ((1 : Int32)).toNatClampNeg) := inb_of Sz670 ⟨by decide, by decide⟩
  have hat670 : cl670.slots[((1 : Int32)).toNatClampNeg]? = some (.int (0 : Int32)) := Hs670.at hin670 (rfl)
  have k673 : Rch p e below S0 T659 (mkF m 34 #[vR a1, vR ra, vR ta, vI 1] [(.long (vv &&& (-2 : Int64))), (.int (0 : Int32)), (.ref rB)]) := fun t h => k671 t (by
      show Steps p.tables e below (T659.setTop (mkF m 27 #[vR a1, vR ra, vR ta, vI 1] [(.int (1 : Int32)), (.ref ta), (.long (1 : Int64)), (.long vv), (.int (0 : Int32)), (.ref rB)])) _
      refine X659.iaload hx (j := (1 : Int32)) (v := (.int (0 : Int32))) (by rw [e659]; exact Ar670.1) (State.isArrayOf_alike hZ.alike Ar670.2.1) Ar670.2.2 hin670 hat670 (g := (mkF m 27 #[vR a1, vR ra, vR ta, vI 1] [(.int (1 : Int32)), (.ref ta), (.long (1 : Int64)), (.long vv), (.int (0 : Int32)), (.ref rB)])) rfl rfl (hb hby d10_27) _ ?_
      show Steps p.tables e below (T659.setTop (mkF m 28 #[vR a1, vR ra, vR ta, vI 1] [(.int (0 : Int32)), (.long (1 : Int64)), (.long vv), (.int (0 : Int32)), (.ref rB)])) _
      refine XS.lshl X659.here hx rfl (hb hby d10_28) rfl ?_
      rw [(by decide : ((1 : Int64) <<< ((0 : Int32) &&& 0x3f).toInt64) = (1 : Int64))]
      refine X659.ldc2Long hx hown (mvT hZ (hw _ (gm 37 rfl))) (g := (mkF m 29 #[vR a1, vR ra, vR ta, vI 1] [(.long (1 : Int64)), (.long vv), (.int (0 : Int32)), (.ref rB)])) rfl (hb hby d10_29) _ ?_
      show Steps p.tables e below (T659.setTop (mkF m 32 #[vR a1, vR ra, vR ta, vI 1] [(.long (-1 : Int64)), (.long (1 : Int64)), (.long vv), (.int (0 : Int32)), (.ref rB)])) _
      refine XS.lxor X659.here hx rfl (hb hby d10_32) rfl ?_
      rw [(by decide : ((1 : Int64) ^^^ (-1 : Int64)) = (-2 : Int64))]
      refine XS.land X659.here hx rfl (hb hby d10_33) rfl ?_
      exact h)
  obtain ⟨cl672, Ar672, q672, Sz672, Ng672, Hs672, G672⟩ := id VB
  have hin672 : ¬ ((0 : Int32) < 0 ∨ cl672.slots.size ≤ ((0 : Int32)).toNatClampNeg) := inb_of Sz672 ⟨by decide, by decide⟩
  obtain ⟨T672, h672, X672, e672, W672, st672⟩ := stJ X659 hx hZ e659 Ar672 (j := (0 : Int32)) hin672 (g := (mkF m 34 #[vR a1, vR ra, vR ta, vI 1] [(.long (vv &&& (-2 : Int64))), (.int (0 : Int32)), (.ref rB)])) rfl rfl (hb hby d10_34)
  have k674 : Rch p e below S0 T672 (mkF m 35 #[vR a1, vR ra, vR ta, vI 1] []) := fun t h => k673 t (st672 t h)
  have N672 := Fr.snoc X672 N652 ge_rB
  have VB' := Arv.set Ar672 q672 Sz672 Ng672 Hs672 G672 rfl W672 0 rfl (Nat.le_of_ble_eq_true rfl)
  replace VB : Arv Z h672 rB kL .long (1 : Int32) [(.long (vv &&& (-2 : Int64)))] (.long (0 : Int64)) := VB'
  have O675 := O655.wr W672 ge_rB
  have K676 := K656.wr W672 (Or.inl (gm 1 rfl))
  replace Fh := Fh.other W672 (Or.inl ne_a1_rB)
  replace VH := VH.other W672 ne_aH_rB
  replace VA := VA.other W672 ne_rA_rB
  replace VR := VR.other W672 ne_ra_rB
  replace VT := VT.other W672 ne_ta_rB
  have k678 : Rch p e below S0 T672 (mkF m 4 #[vR a1, vR ra, vR ta, vI 2] [(.ref ra), (.int (2 : Int32))]) := fun t h => k674 t (by
      show Steps p.tables e below (T672.setTop (mkF m 35 #[vR a1, vR ra, vR ta, vI 1] [])) _
      refine XS.iinc X672.here hx rfl (hb hby d10_35) rfl (l' := #[vR a1, vR ra, vR ta, vI ((1 : Int32) + (1 : Int32))]) rfl ?_
      rw [(by decide : ((1 : Int32) + (1 : Int32)) = (2 : Int32))]
      refine XS.goto X672.here hx rfl (pc0 := 38) (pc' := 2) rfl (hb hby d10_38) (by decide) (by decide) ?_
      refine XS.iloadN X672.here hx rfl (hb hby d10_2) rfl ?_
      refine XS.aloadN X672.here hx rfl (hb hby d10_3) rfl rfl ?_
      exact h)
  obtain ⟨cl677, Ar677, q677, Sz677, Ng677, Hs677, G677⟩ := id VR
  have k679 : Rch p e below S0 T672 (mkF m 41 #[vR a1, vR ra, vR ta, vI 2] []) := fun t h => k678 t (by
      show Steps p.tables e below (T672.setTop (mkF m 4 #[vR a1, vR ra, vR ta, vI 2] [(.ref ra), (.int (2 : Int32))])) _
      refine X672.arraylength hx (by rw [e672]; exact Ar677.1) (State.isArrayOf_alike hZ.alike Ar677.2.1) (g := (mkF m 4 #[vR a1, vR ra, vR ta, vI 2] [(.ref ra), (.int (2 : Int32))])) rfl rfl (hb hby d10_4) _ ?_
      rw [len_of Sz677 Ng677]
      refine XS.icmpYes X672.here hx rfl (pc0 := 5) (pc' := 41) rfl (hb hby d10_5) rfl (flt (by decide : ¬ ((2 : Int32) < (2 : Int32)))).2.1 (by decide) (by decide) ?_
      exact h)
  obtain ⟨fs, hr, hrun, hended, hW, hsame⟩ := X672.leave (v := none) (fun _ => rfl)
  refine ⟨_, _, ?_, hrun, hended, _, _, rfl, ?_, ⟨_, rfl⟩, hW, hsame.mono (by decide) (by decide)⟩
  · rw [← hS0]
    refine k679 _ ?_
    show Steps p.tables e below (T672.setTop (mkF m 41 #[vR a1, vR ra, vR ta, vI 2] [])) _
    exact X672.returnOut hx Bd.returns (hb hby d10_41) hr
  · show Q_rmE_1 Z rA rB kL u vv h0 n0 _ T672.heap _
    rw [e672]
    exact ⟨rfl, N672, K676, VA, VB⟩
def Q_rmE_2 (Z : State) (rA : Addr) (rB : Addr) (kL : ClassId) (u : Int64) (vv : Int64) (h0 : Heap) (n0 : Nat) (v : Option Value) (h : Heap) (L : List Loc) : Prop := v = none ∧ Fr n0 L ∧ Keep h0 h [rA, rB] ∧ Arv Z h rA kL .long (1 : Int32) [(.long (u &&& (-3 : Int64)))] (.long (0 : Int64)) ∧ Arv Z h rB kL .long (1 : Int32) [(.long vv)] (.long (0 : Int64))
set_option maxRecDepth 65536 in
set_option maxHeartbeats 40000000 in
theorem rmE_2 (l : Launch) (Z : State) (a0 : Array Value) (hw : ∀ d ∈ tables_1, d.before a0 Z = true) (ws : List Jvm.Cond) (a1 : Addr) (aH : Addr) (rA : Addr) (rB : Addr) (kH : ClassId) (kL : ClassId) (cn : Int32) (wd : Int32) (u : Int64) (vv : Int64) (ra : Addr) (kR : ClassId) (ta : Addr) (kT : ClassId) (h0 : Heap) (n0 : Nat) (O0 : Old Z n0 h0) (ge_rA : n0 ≤ rA) (ge_rB : n0 ≤ rB) (Fh : Fld Z h0 a1 "com/example/lumenplan/lumenplan/simulation/Wavelengths" "held" "[[J" (.ref aH)) (VH : Arv Z h0 aH kH (.array .long) (2 : Int32) [(.ref rA), (.ref rB)] .null) (VA : Arv Z h0 rA kL .long (1 : Int32) [(.long u)] (.long (0 : Int64))) (VB : Arv Z h0 rB kL .long (1 : Int32) [(.long vv)] (.long (0 : Int64))) (VR : Arv Z h0 ra kR .int (1 : Int32) [(.int (0 : Int32))] (.int (0 : Int32))) (VT : Arv Z h0 ta kT .int (1 : Int32) [(.int (1 : Int32))] (.int (0 : Int32))) (ne_a1_rA : a1 ≠ rA) (ne_a1_rB : a1 ≠ rB) (ne_aH_rA : aH ≠ rA) (ne_aH_rB : aH ≠ rB) (ne_rA_rB : rA ≠ rB) (ne_ra_rA : ra ≠ rA) (ne_ra_rB : ra ≠ rB) (ne_ta_rA : ta ≠ rA) (ne_ta_rB : ta ≠ rB) :
    MetFree l (⟨"com/example/lumenplan/lumenplan/simulation/Wavelengths", "release", "([I[I)V"⟩ : MethodName) (head1 (Jvm.Cond.code (⟨"com/example/lumenplan/lumenplan/simulation/Wavelengths", "release", "([I[I)V"⟩ : MethodName) prog_37_method_3_code 4 none :: ws) ({ frames := 0, cells := 0, slots := 0, locals := 0 } : Room)) (fun a U => a = #[(.ref a1), (.ref ra), (.ref ta)] ∧ Z.Warmed39 U.vm ∧ U.heap = h0) (fun _ _ _ _ _ => True) (fun _ U o U' => ∃ v L, o = .returned v ∧ Q_rmE_2 Z rA rB kL u vv h0 n0 v U'.heap L ∧ FrameEnd U o U' L ({ frames := 0, cells := 0, slots := 0, locals := 0 } : Room).cells ({ frames := 0, cells := 0, slots := 0, locals := 0 } : Room).slots) := by
  refine MetFree.of_bodySF (plainFor_of_name pn_Wavelengths) hisR ?_
  intro p e s m args below meth c s₁ Bd hml0 hP hK
  obtain ⟨rfl, hZ, hh⟩ := hP
  have hx := Bd.exec
  have hby := Bd.bytes
  have hml : c.maxLocals = 4 := hml0
  have hown : s.vm.findClass "com/example/lumenplan/lumenplan/simulation/Wavelengths" = some m.cls := findClass_of_methodNamed Bd.named
  have hnm := (name_of_methodNamed Bd.named Bd.method).1
  have X0 : Stand p l e ({ frames := 0, cells := 0, slots := 0, locals := 0 } : Room) s m #[(.ref a1), (.ref ra), (.ref ta)] below meth c s₁ [] 0 0 := Stand.of_body Bd
  have e0 : s₁.heap = h0 := by rw [← hh, Bd.state]; rfl
  have N0 := Fr.nil n0
  obtain ⟨S0, hS0⟩ : ∃ z, z = s₁.setTop (entryFrame m #[(.ref a1), (.ref ra), (.ref ta)] 4) := ⟨_, rfl⟩
  have k0 : Rch p e below S0 s₁ (mkF m 0 #[vR a1, vR ra, vR ta, vU] []) := fun t kq => hS0 ▸ castTop (ef_10 m a1 ra ta) kq
  have K0 : Keep h0 h0 [rA, rB] := Keep.refl h0 _
  have k681 : Rch p e below S0 s₁ (mkF m 4 #[vR a1, vR ra, vR ta, vI 0] [(.ref ra), (.int (0 : Int32))]) := fun t h => k0 t (by
      show Steps p.tables e below (s₁.setTop (mkF m 0 #[vR a1, vR ra, vR ta, vU] [])) _
      refine XS.iconst X0.here hx rfl (hb hby d10_0) ?_
      refine XS.istoreN X0.here hx rfl (hb hby d10_1) rfl (l' := #[vR a1, vR ra, vR ta, vI 0]) rfl ?_
      refine XS.iloadN X0.here hx rfl (hb hby d10_2) rfl ?_
      refine XS.aloadN X0.here hx rfl (hb hby d10_3) rfl rfl ?_
      exact h)
  obtain ⟨cl680, Ar680, q680, Sz680, Ng680, Hs680, G680⟩ := id VR
  have k683 : Rch p e below S0 s₁ (mkF m 9 #[vR a1, vR ra, vR ta, vI 0] [(.ref a1)]) := fun t h => k681 t (by
      show Steps p.tables e below (s₁.setTop (mkF m 4 #[vR a1, vR ra, vR ta, vI 0] [(.ref ra), (.int (0 : Int32))])) _
      refine X0.arraylength hx (by rw [e0]; exact Ar680.1) (State.isArrayOf_alike hZ.alike Ar680.2.1) (g := (mkF m 4 #[vR a1, vR ra, vR ta, vI 0] [(.ref ra), (.int (0 : Int32))])) rfl rfl (hb hby d10_4) _ ?_
      rw [len_of Sz680 Ng680]
      refine XS.icmpNo X0.here hx rfl (hb hby d10_5) rfl (tlt (by decide : (0 : Int32) < (1 : Int32))).2.1 ?_
      refine XS.aloadN X0.here hx rfl (hb hby d10_8) rfl rfl ?_
      exact h)
  obtain ⟨T682, X682, e682, st682⟩ := getF X0 hx hZ hown (host := "") (Or.inl (hw _ (gm 22 rfl))) Via.refl e0 Fh (g := (mkF m 9 #[vR a1, vR ra, vR ta, vI 0] [(.ref a1)])) rfl rfl (hb hby d10_9)
  have k684 : Rch p e below S0 T682 (mkF m 12 #[vR a1, vR ra, vR ta, vI 0] [(.ref aH)]) := fun t h => k683 t (st682 t h)
  have k686 : Rch p e below S0 T682 (mkF m 14 #[vR a1, vR ra, vR ta, vI 0] [(.int (0 : Int32)), (.ref ra), (.ref aH)]) := fun t h => k684 t (by
      show Steps p.tables e below (T682.setTop (mkF m 12 #[vR a1, vR ra, vR ta, vI 0] [(.ref aH)])) _
      refine XS.aloadN X682.here hx rfl (hb hby d10_12) rfl rfl ?_
      refine XS.iloadN X682.here hx rfl (hb hby d10_13) rfl ?_
      exact h)
  obtain ⟨cl685, Ar685, q685, Sz685, Ng685, Hs685, G685⟩ := id VR
  have hin685 : ¬ ((0 : Int32) < 0 ∨ cl685.slots.size ≤ ((0 : Int32)).toNatClampNeg) := inb_of Sz685 ⟨by decide, by decide⟩
  have hat685 : cl685.slots[((0 : Int32)).toNatClampNeg]? = some (.int (0 : Int32)) := Hs685.at hin685 (rfl)
  have k688 : Rch p e below S0 T682 (mkF m 15 #[vR a1, vR ra, vR ta, vI 0] [(.int (0 : Int32)), (.ref aH)]) := fun t h => k686 t (by
      show Steps p.tables e below (T682.setTop (mkF m 14 #[vR a1, vR ra, vR ta, vI 0] [(.int (0 : Int32)), (.ref ra), (.ref aH)])) _
      refine X682.iaload hx (j := (0 : Int32)) (v := (.int (0 : Int32))) (by rw [e682]; exact Ar685.1) (State.isArrayOf_alike hZ.alike Ar685.2.1) Ar685.2.2 hin685 hat685 (g := (mkF m 14 #[vR a1, vR ra, vR ta, vI 0] [(.int (0 : Int32)), (.ref ra), (.ref aH)])) rfl rfl (hb hby d10_14) _ ?_
      exact h)
  obtain ⟨cl687, Ar687, q687, Sz687, Ng687, Hs687, G687⟩ := id VH
  have hin687 : ¬ ((0 : Int32) < 0 ∨ cl687.slots.size ≤ ((0 : Int32)).toNatClampNeg) := inb_of Sz687 ⟨by decide, by decide⟩
  have hat687 : cl687.slots[((0 : Int32)).toNatClampNeg]? = some (.ref rA) := Hs687.at hin687 (rfl)
  have k690 : Rch p e below S0 T682 (mkF m 18 #[vR a1, vR ra, vR ta, vI 0] [(.int (0 : Int32)), (.ref ta), (.ref rA)]) := fun t h => k688 t (by
      show Steps p.tables e below (T682.setTop (mkF m 15 #[vR a1, vR ra, vR ta, vI 0] [(.int (0 : Int32)), (.ref aH)])) _
      refine X682.aaload hx (j := (0 : Int32)) (v := (.ref rA)) (by rw [e682]; exact Ar687.1) (State.isArrayOf_alike hZ.alike Ar687.2.1) rfl Ar687.2.2 hin687 hat687 (g := (mkF m 15 #[vR a1, vR ra, vR ta, vI 0] [(.int (0 : Int32)), (.ref aH)])) rfl rfl (hb hby d10_15) _ ?_
      refine XS.aloadN X682.here hx rfl (hb hby d10_16) rfl rfl ?_
      refine XS.iloadN X682.here hx rfl (hb hby d10_17) rfl ?_
      exact h)
  obtain ⟨cl689, Ar689, q689, Sz689, Ng689, Hs689, G689⟩ := id VT
  have hin689 : ¬ ((0 : Int32) < 0 ∨ cl689.slots.size ≤ ((0 : Int32)).toNatClampNeg) := inb_of Sz689 ⟨by decide, by decide⟩
  have hat689 : cl689.slots[((0 : Int32)).toNatClampNeg]? = some (.int (1 : Int32)) := Hs689.at hin689 (rfl)
  have k692 : Rch p e below S0 T682 (mkF m 23 #[vR a1, vR ra, vR ta, vI 0] [(.int (0 : Int32)), (.ref rA), (.int (0 : Int32)), (.ref rA)]) := fun t h => k690 t (by
      show Steps p.tables e below (T682.setTop (mkF m 18 #[vR a1, vR ra, vR ta, vI 0] [(.int (0 : Int32)), (.ref ta), (.ref rA)])) _
      refine X682.iaload hx (j := (0 : Int32)) (v := (.int (1 : Int32))) (by rw [e682]; exact Ar689.1) (State.isArrayOf_alike hZ.alike Ar689.2.1) Ar689.2.2 hin689 hat689 (g := (mkF m 18 #[vR a1, vR ra, vR ta, vI 0] [(.int (0 : Int32)), (.ref ta), (.ref rA)])) rfl rfl (hb hby d10_18) _ ?_
      refine XS.bipush X682.here hx rfl (hb hby d10_19) ?_
      show Steps p.tables e below (T682.setTop (mkF m 21 #[vR a1, vR ra, vR ta, vI 0] [(.int (64 : Int32)), (.int (1 : Int32)), (.ref rA)])) _
      refine XS.idiv X682.here hx rfl (hb hby d10_21) rfl (by decide) ?_
      rw [(by decide : ((1 : Int32) / (64 : Int32)) = (0 : Int32))]
      refine XT.dup2 X682.here hx rfl (hb hby d10_22) rfl rfl rfl ?_
      exact h)
  obtain ⟨cl691, Ar691, q691, Sz691, Ng691, Hs691, G691⟩ := id VA
  have hin691 : ¬ ((0 : Int32) < 0 ∨ cl691.slots.size ≤ ((0 : Int32)).toNatClampNeg) := inb_of Sz691 ⟨by decide, by decide⟩
  have hat691 : cl691.slots[((0 : Int32)).toNatClampNeg]? = some (.long u) := Hs691.at hin691 (rfl)
  have k694 : Rch p e below S0 T682 (mkF m 27 #[vR a1, vR ra, vR ta, vI 0] [(.int (0 : Int32)), (.ref ta), (.long (1 : Int64)), (.long u), (.int (0 : Int32)), (.ref rA)]) := fun t h => k692 t (by
      show Steps p.tables e below (T682.setTop (mkF m 23 #[vR a1, vR ra, vR ta, vI 0] [(.int (0 : Int32)), (.ref rA), (.int (0 : Int32)), (.ref rA)])) _
      refine X682.laload hx (j := (0 : Int32)) (v := (.long u)) (by rw [e682]; exact Ar691.1) (State.isArrayOf_alike hZ.alike Ar691.2.1) Ar691.2.2 hin691 hat691 (g := (mkF m 23 #[vR a1, vR ra, vR ta, vI 0] [(.int (0 : Int32)), (.ref rA), (.int (0 : Int32)), (.ref rA)])) rfl rfl (hb hby d10_23) _ ?_
      refine XS.lconst X682.here hx rfl (hb hby d10_24) ?_
      refine XS.aloadN X682.here hx rfl (hb hby d10_25) rfl rfl ?_
      refine XS.iloadN X682.here hx rfl (hb hby d10_26) rfl ?_
      exact h)
  obtain ⟨cl693, Ar693, q693, Sz693, Ng693, Hs693, G693⟩ := id VT
  have hin693 : ¬ ((0 : Int32) < 0 ∨ cl693.slots.size ≤ ((0 : Int32)).toNatClampNeg) := inb_of Sz693 ⟨by decide, by decide⟩
  have hat693 : cl693.slots[((0 : Int32)).toNatClampNeg]? = some (.int (1 : Int32)) := Hs693.at hin693 (rfl)
  have k696 : Rch p e below S0 T682 (mkF m 34 #[vR a1, vR ra, vR ta, vI 0] [(.long (u &&& (-3 : Int64))), (.int (0 : Int32)), (.ref rA)]) := fun t h => k694 t (by
      show Steps p.tables e below (T682.setTop (mkF m 27 #[vR a1, vR ra, vR ta, vI 0] [(.int (0 : Int32)), (.ref ta), (.long (1 : Int64)), (.long u), (.int (0 : Int32)), (.ref rA)])) _
      refine X682.iaload hx (j := (0 : Int32)) (v := (.int (1 : Int32))) (by rw [e682]; exact Ar693.1) (State.isArrayOf_alike hZ.alike Ar693.2.1) Ar693.2.2 hin693 hat693 (g := (mkF m 27 #[vR a1, vR ra, vR ta, vI 0] [(.int (0 : Int32)), (.ref ta), (.long (1 : Int64)), (.long u), (.int (0 : Int32)), (.ref rA)])) rfl rfl (hb hby d10_27) _ ?_
      show Steps p.tables e below (T682.setTop (mkF m 28 #[vR a1, vR ra, vR ta, vI 0] [(.int (1 : Int32)), (.long (1 : Int64)), (.long u), (.int (0 : Int32)), (.ref rA)])) _
      refine XS.lshl X682.here hx rfl (hb hby d10_28) rfl ?_
      rw [(by decide : ((1 : Int64) <<< ((1 : Int32) &&& 0x3f).toInt64) = (2 : Int64))]
      refine X682.ldc2Long hx hown (mvT hZ (hw _ (gm 37 rfl))) (g := (mkF m 29 #[vR a1, vR ra, vR ta, vI 0] [(.long (2 : Int64)), (.long u), (.int (0 : Int32)), (.ref rA)])) rfl (hb hby d10_29) _ ?_
      show Steps p.tables e below (T682.setTop (mkF m 32 #[vR a1, vR ra, vR ta, vI 0] [(.long (-1 : Int64)), (.long (2 : Int64)), (.long u), (.int (0 : Int32)), (.ref rA)])) _
      refine XS.lxor X682.here hx rfl (hb hby d10_32) rfl ?_
      rw [(by decide : ((2 : Int64) ^^^ (-1 : Int64)) = (-3 : Int64))]
      refine XS.land X682.here hx rfl (hb hby d10_33) rfl ?_
      exact h)
  obtain ⟨cl695, Ar695, q695, Sz695, Ng695, Hs695, G695⟩ := id VA
  have hin695 : ¬ ((0 : Int32) < 0 ∨ cl695.slots.size ≤ ((0 : Int32)).toNatClampNeg) := inb_of Sz695 ⟨by decide, by decide⟩
  obtain ⟨T695, h695, X695, e695, W695, st695⟩ := stJ X682 hx hZ e682 Ar695 (j := (0 : Int32)) hin695 (g := (mkF m 34 #[vR a1, vR ra, vR ta, vI 0] [(.long (u &&& (-3 : Int64))), (.int (0 : Int32)), (.ref rA)])) rfl rfl (hb hby d10_34)
  have k697 : Rch p e below S0 T695 (mkF m 35 #[vR a1, vR ra, vR ta, vI 0] []) := fun t h => k696 t (st695 t h)
  have N695 := Fr.snoc X695 N0 ge_rA
  have VA' := Arv.set Ar695 q695 Sz695 Ng695 Hs695 G695 rfl W695 0 rfl (Nat.le_of_ble_eq_true rfl)
  replace VA : Arv Z h695 rA kL .long (1 : Int32) [(.long (u &&& (-3 : Int64)))] (.long (0 : Int64)) := VA'
  have O698 := O0.wr W695 ge_rA
  have K699 := K0.wr W695 (Or.inl (gm 0 rfl))
  replace Fh := Fh.other W695 (Or.inl ne_a1_rA)
  replace VH := VH.other W695 ne_aH_rA
  replace VB := VB.other W695 (Ne.symm ne_rA_rB)
  replace VR := VR.other W695 ne_ra_rA
  replace VT := VT.other W695 ne_ta_rA
  have k701 : Rch p e below S0 T695 (mkF m 4 #[vR a1, vR ra, vR ta, vI 1] [(.ref ra), (.int (1 : Int32))]) := fun t h => k697 t (by
      show Steps p.tables e below (T695.setTop (mkF m 35 #[vR a1, vR ra, vR ta, vI 0] [])) _
      refine XS.iinc X695.here hx rfl (hb hby d10_35) rfl (l' := #[vR a1, vR ra, vR ta, vI ((0 : Int32) + (1 : Int32))]) rfl ?_
      rw [(by decide : ((0 : Int32) + (1 : Int32)) = (1 : Int32))]
      refine XS.goto X695.here hx rfl (pc0 := 38) (pc' := 2) rfl (hb hby d10_38) (by decide) (by decide) ?_
      refine XS.iloadN X695.here hx rfl (hb hby d10_2) rfl ?_
      refine XS.aloadN X695.here hx rfl (hb hby d10_3) rfl rfl ?_
      exact h)
  obtain ⟨cl700, Ar700, q700, Sz700, Ng700, Hs700, G700⟩ := id VR
  have k702 : Rch p e below S0 T695 (mkF m 41 #[vR a1, vR ra, vR ta, vI 1] []) := fun t h => k701 t (by
      show Steps p.tables e below (T695.setTop (mkF m 4 #[vR a1, vR ra, vR ta, vI 1] [(.ref ra), (.int (1 : Int32))])) _
      refine X695.arraylength hx (by rw [e695]; exact Ar700.1) (State.isArrayOf_alike hZ.alike Ar700.2.1) (g := (mkF m 4 #[vR a1, vR ra, vR ta, vI 1] [(.ref ra), (.int (1 : Int32))])) rfl rfl (hb hby d10_4) _ ?_
      rw [len_of Sz700 Ng700]
      refine XS.icmpYes X695.here hx rfl (pc0 := 5) (pc' := 41) rfl (hb hby d10_5) rfl (flt (by decide : ¬ ((1 : Int32) < (1 : Int32)))).2.1 (by decide) (by decide) ?_
      exact h)
  obtain ⟨fs, hr, hrun, hended, hW, hsame⟩ := X695.leave (v := none) (fun _ => rfl)
  refine ⟨_, _, ?_, hrun, hended, _, _, rfl, ?_, ⟨_, rfl⟩, hW, hsame.mono (by decide) (by decide)⟩
  · rw [← hS0]
    refine k702 _ ?_
    show Steps p.tables e below (T695.setTop (mkF m 41 #[vR a1, vR ra, vR ta, vI 1] [])) _
    exact X695.returnOut hx Bd.returns (hb hby d10_41) hr
  · show Q_rmE_2 Z rA rB kL u vv h0 n0 _ T695.heap _
    rw [e695]
    exact ⟨rfl, N695, K699, VA, VB⟩
def Q_rmE_3 (Z : State) (rA : Addr) (rB : Addr) (kL : ClassId) (u : Int64) (vv : Int64) (h0 : Heap) (n0 : Nat) (v : Option Value) (h : Heap) (L : List Loc) : Prop := v = none ∧ Fr n0 L ∧ Keep h0 h [rA, rB] ∧ Arv Z h rA kL .long (1 : Int32) [(.long u)] (.long (0 : Int64)) ∧ Arv Z h rB kL .long (1 : Int32) [(.long (vv &&& (-3 : Int64)))] (.long (0 : Int64))
set_option maxRecDepth 65536 in
set_option maxHeartbeats 40000000 in
theorem rmE_3 (l : Launch) (Z : State) (a0 : Array Value) (hw : ∀ d ∈ tables_1, d.before a0 Z = true) (ws : List Jvm.Cond) (a1 : Addr) (aH : Addr) (rA : Addr) (rB : Addr) (kH : ClassId) (kL : ClassId) (cn : Int32) (wd : Int32) (u : Int64) (vv : Int64) (ra : Addr) (kR : ClassId) (ta : Addr) (kT : ClassId) (h0 : Heap) (n0 : Nat) (O0 : Old Z n0 h0) (ge_rA : n0 ≤ rA) (ge_rB : n0 ≤ rB) (Fh : Fld Z h0 a1 "com/example/lumenplan/lumenplan/simulation/Wavelengths" "held" "[[J" (.ref aH)) (VH : Arv Z h0 aH kH (.array .long) (2 : Int32) [(.ref rA), (.ref rB)] .null) (VA : Arv Z h0 rA kL .long (1 : Int32) [(.long u)] (.long (0 : Int64))) (VB : Arv Z h0 rB kL .long (1 : Int32) [(.long vv)] (.long (0 : Int64))) (VR : Arv Z h0 ra kR .int (1 : Int32) [(.int (1 : Int32))] (.int (0 : Int32))) (VT : Arv Z h0 ta kT .int (1 : Int32) [(.int (1 : Int32))] (.int (0 : Int32))) (ne_a1_rA : a1 ≠ rA) (ne_a1_rB : a1 ≠ rB) (ne_aH_rA : aH ≠ rA) (ne_aH_rB : aH ≠ rB) (ne_rA_rB : rA ≠ rB) (ne_ra_rA : ra ≠ rA) (ne_ra_rB : ra ≠ rB) (ne_ta_rA : ta ≠ rA) (ne_ta_rB : ta ≠ rB) :
    MetFree l (⟨"com/example/lumenplan/lumenplan/simulation/Wavelengths", "release", "([I[I)V"⟩ : MethodName) (head1 (Jvm.Cond.code (⟨"com/example/lumenplan/lumenplan/simulation/Wavelengths", "release", "([I[I)V"⟩ : MethodName) prog_37_method_3_code 4 none :: ws) ({ frames := 0, cells := 0, slots := 0, locals := 0 } : Room)) (fun a U => a = #[(.ref a1), (.ref ra), (.ref ta)] ∧ Z.Warmed39 U.vm ∧ U.heap = h0) (fun _ _ _ _ _ => True) (fun _ U o U' => ∃ v L, o = .returned v ∧ Q_rmE_3 Z rA rB kL u vv h0 n0 v U'.heap L ∧ FrameEnd U o U' L ({ frames := 0, cells := 0, slots := 0, locals := 0 } : Room).cells ({ frames := 0, cells := 0, slots := 0, locals := 0 } : Room).slots) := by
  refine MetFree.of_bodySF (plainFor_of_name pn_Wavelengths) hisR ?_
  intro p e s m args below meth c s₁ Bd hml0 hP hK
  obtain ⟨rfl, hZ, hh⟩ := hP
  have hx := Bd.exec
  have hby := Bd.bytes
  have hml : c.maxLocals = 4 := hml0
  have hown : s.vm.findClass "com/example/lumenplan/lumenplan/simulation/Wavelengths" = some m.cls := findClass_of_methodNamed Bd.named
  have hnm := (name_of_methodNamed Bd.named Bd.method).1
  have X0 : Stand p l e ({ frames := 0, cells := 0, slots := 0, locals := 0 } : Room) s m #[(.ref a1), (.ref ra), (.ref ta)] below meth c s₁ [] 0 0 := Stand.of_body Bd
  have e0 : s₁.heap = h0 := by rw [← hh, Bd.state]; rfl
  have N0 := Fr.nil n0
  obtain ⟨S0, hS0⟩ : ∃ z, z = s₁.setTop (entryFrame m #[(.ref a1), (.ref ra), (.ref ta)] 4) := ⟨_, rfl⟩
  have k0 : Rch p e below S0 s₁ (mkF m 0 #[vR a1, vR ra, vR ta, vU] []) := fun t kq => hS0 ▸ castTop (ef_10 m a1 ra ta) kq
  have K0 : Keep h0 h0 [rA, rB] := Keep.refl h0 _
  have k704 : Rch p e below S0 s₁ (mkF m 4 #[vR a1, vR ra, vR ta, vI 0] [(.ref ra), (.int (0 : Int32))]) := fun t h => k0 t (by
      show Steps p.tables e below (s₁.setTop (mkF m 0 #[vR a1, vR ra, vR ta, vU] [])) _
      refine XS.iconst X0.here hx rfl (hb hby d10_0) ?_
      refine XS.istoreN X0.here hx rfl (hb hby d10_1) rfl (l' := #[vR a1, vR ra, vR ta, vI 0]) rfl ?_
      refine XS.iloadN X0.here hx rfl (hb hby d10_2) rfl ?_
      refine XS.aloadN X0.here hx rfl (hb hby d10_3) rfl rfl ?_
      exact h)
  obtain ⟨cl703, Ar703, q703, Sz703, Ng703, Hs703, G703⟩ := id VR
  have k706 : Rch p e below S0 s₁ (mkF m 9 #[vR a1, vR ra, vR ta, vI 0] [(.ref a1)]) := fun t h => k704 t (by
      show Steps p.tables e below (s₁.setTop (mkF m 4 #[vR a1, vR ra, vR ta, vI 0] [(.ref ra), (.int (0 : Int32))])) _
      refine X0.arraylength hx (by rw [e0]; exact Ar703.1) (State.isArrayOf_alike hZ.alike Ar703.2.1) (g := (mkF m 4 #[vR a1, vR ra, vR ta, vI 0] [(.ref ra), (.int (0 : Int32))])) rfl rfl (hb hby d10_4) _ ?_
      rw [len_of Sz703 Ng703]
      refine XS.icmpNo X0.here hx rfl (hb hby d10_5) rfl (tlt (by decide : (0 : Int32) < (1 : Int32))).2.1 ?_
      refine XS.aloadN X0.here hx rfl (hb hby d10_8) rfl rfl ?_
      exact h)
  obtain ⟨T705, X705, e705, st705⟩ := getF X0 hx hZ hown (host := "") (Or.inl (hw _ (gm 22 rfl))) Via.refl e0 Fh (g := (mkF m 9 #[vR a1, vR ra, vR ta, vI 0] [(.ref a1)])) rfl rfl (hb hby d10_9)
  have k707 : Rch p e below S0 T705 (mkF m 12 #[vR a1, vR ra, vR ta, vI 0] [(.ref aH)]) := fun t h => k706 t (st705 t h)
  have k709 : Rch p e below S0 T705 (mkF m 14 #[vR a1, vR ra, vR ta, vI 0] [(.int (0 : Int32)), (.ref ra), (.ref aH)]) := fun t h => k707 t (by
      show Steps p.tables e below (T705.setTop (mkF m 12 #[vR a1, vR ra, vR ta, vI 0] [(.ref aH)])) _
      refine XS.aloadN X705.here hx rfl (hb hby d10_12) rfl rfl ?_
      refine XS.iloadN X705.here hx rfl (hb hby d10_13) rfl ?_
      exact h)
  obtain ⟨cl708, Ar708, q708, Sz708, Ng708, Hs708, G708⟩ := id VR
  have hin708 : ¬ ((0 : Int32) < 0 ∨ cl708.slots.size ≤ ((0 : Int32)).toNatClampNeg) := inb_of Sz708 ⟨by decide, by decide⟩
  have hat708 : cl708.slots[((0 : Int32)).toNatClampNeg]? = some (.int (1 : Int32)) := Hs708.at hin708 (rfl)
  have k711 : Rch p e below S0 T705 (mkF m 15 #[vR a1, vR ra, vR ta, vI 0] [(.int (1 : Int32)), (.ref aH)]) := fun t h => k709 t (by
      show Steps p.tables e below (T705.setTop (mkF m 14 #[vR a1, vR ra, vR ta, vI 0] [(.int (0 : Int32)), (.ref ra), (.ref aH)])) _
      refine X705.iaload hx (j := (0 : Int32)) (v := (.int (1 : Int32))) (by rw [e705]; exact Ar708.1) (State.isArrayOf_alike hZ.alike Ar708.2.1) Ar708.2.2 hin708 hat708 (g := (mkF m 14 #[vR a1, vR ra, vR ta, vI 0] [(.int (0 : Int32)), (.ref ra), (.ref aH)])) rfl rfl (hb hby d10_14) _ ?_
      exact h)
  obtain ⟨cl710, Ar710, q710, Sz710, Ng710, Hs710, G710⟩ := id VH
  have hin710 : ¬ ((1 : Int32) < 0 ∨ cl710.slots.size ≤ ((1 : Int32)).toNatClampNeg) := inb_of Sz710 ⟨by decide, by decide⟩
  have hat710 : cl710.slots[((1 : Int32)).toNatClampNeg]? = some (.ref rB) := Hs710.at hin710 (rfl)
  have k713 : Rch p e below S0 T705 (mkF m 18 #[vR a1, vR ra, vR ta, vI 0] [(.int (0 : Int32)), (.ref ta), (.ref rB)]) := fun t h => k711 t (by
      show Steps p.tables e below (T705.setTop (mkF m 15 #[vR a1, vR ra, vR ta, vI 0] [(.int (1 : Int32)), (.ref aH)])) _
      refine X705.aaload hx (j := (1 : Int32)) (v := (.ref rB)) (by rw [e705]; exact Ar710.1) (State.isArrayOf_alike hZ.alike Ar710.2.1) rfl Ar710.2.2 hin710 hat710 (g := (mkF m 15 #[vR a1, vR ra, vR ta, vI 0] [(.int (1 : Int32)), (.ref aH)])) rfl rfl (hb hby d10_15) _ ?_
      refine XS.aloadN X705.here hx rfl (hb hby d10_16) rfl rfl ?_
      refine XS.iloadN X705.here hx rfl (hb hby d10_17) rfl ?_
      exact h)
  obtain ⟨cl712, Ar712, q712, Sz712, Ng712, Hs712, G712⟩ := id VT
  have hin712 : ¬ ((0 : Int32) < 0 ∨ cl712.slots.size ≤ ((0 : Int32)).toNatClampNeg) := inb_of Sz712 ⟨by decide, by decide⟩
  have hat712 : cl712.slots[((0 : Int32)).toNatClampNeg]? = some (.int (1 : Int32)) := Hs712.at hin712 (rfl)
  have k715 : Rch p e below S0 T705 (mkF m 23 #[vR a1, vR ra, vR ta, vI 0] [(.int (0 : Int32)), (.ref rB), (.int (0 : Int32)), (.ref rB)]) := fun t h => k713 t (by
      show Steps p.tables e below (T705.setTop (mkF m 18 #[vR a1, vR ra, vR ta, vI 0] [(.int (0 : Int32)), (.ref ta), (.ref rB)])) _
      refine X705.iaload hx (j := (0 : Int32)) (v := (.int (1 : Int32))) (by rw [e705]; exact Ar712.1) (State.isArrayOf_alike hZ.alike Ar712.2.1) Ar712.2.2 hin712 hat712 (g := (mkF m 18 #[vR a1, vR ra, vR ta, vI 0] [(.int (0 : Int32)), (.ref ta), (.ref rB)])) rfl rfl (hb hby d10_18) _ ?_
      refine XS.bipush X705.here hx rfl (hb hby d10_19) ?_
      show Steps p.tables e below (T705.setTop (mkF m 21 #[vR a1, vR ra, vR ta, vI 0] [(.int (64 : Int32)), (.int (1 : Int32)), (.ref rB)])) _
      refine XS.idiv X705.here hx rfl (hb hby d10_21) rfl (by decide) ?_
      rw [(by decide : ((1 : Int32) / (64 : Int32)) = (0 : Int32))]
      refine XT.dup2 X705.here hx rfl (hb hby d10_22) rfl rfl rfl ?_
      exact h)
  obtain ⟨cl714, Ar714, q714, Sz714, Ng714, Hs714, G714⟩ := id VB
  have hin714 : ¬ ((0 : Int32) < 0 ∨ cl714.slots.size ≤ ((0 : Int32)).toNatClampNeg) := inb_of Sz714 ⟨by decide, by decide⟩
  have hat714 : cl714.slots[((0 : Int32)).toNatClampNeg]? = some (.long vv) := Hs714.at hin714 (rfl)
  have k717 : Rch p e below S0 T705 (mkF m 27 #[vR a1, vR ra, vR ta, vI 0] [(.int (0 : Int32)), (.ref ta), (.long (1 : Int64)), (.long vv), (.int (0 : Int32)), (.ref rB)]) := fun t h => k715 t (by
      show Steps p.tables e below (T705.setTop (mkF m 23 #[vR a1, vR ra, vR ta, vI 0] [(.int (0 : Int32)), (.ref rB), (.int (0 : Int32)), (.ref rB)])) _
      refine X705.laload hx (j := (0 : Int32)) (v := (.long vv)) (by rw [e705]; exact Ar714.1) (State.isArrayOf_alike hZ.alike Ar714.2.1) Ar714.2.2 hin714 hat714 (g := (mkF m 23 #[vR a1, vR ra, vR ta, vI 0] [(.int (0 : Int32)), (.ref rB), (.int (0 : Int32)), (.ref rB)])) rfl rfl (hb hby d10_23) _ ?_
      refine XS.lconst X705.here hx rfl (hb hby d10_24) ?_
      refine XS.aloadN X705.here hx rfl (hb hby d10_25) rfl rfl ?_
      refine XS.iloadN X705.here hx rfl (hb hby d10_26) rfl ?_
      exact h)
  obtain ⟨cl716, Ar716, q716, Sz716, Ng716, Hs716, G716⟩ := id VT
  have hin716 : ¬ ((0 : Int32) < 0 ∨ cl716.slots.size ≤ ((0 : Int32)).toNatClampNeg) := inb_of Sz716 ⟨by decide, by decide⟩
  have hat716 : cl716.slots[((0 : Int32)).toNatClampNeg]? = some (.int (1 : Int32)) := Hs716.at hin716 (rfl)
  have k719 : Rch p e below S0 T705 (mkF m 34 #[vR a1, vR ra, vR ta, vI 0] [(.long (vv &&& (-3 : Int64))), (.int (0 : Int32)), (.ref rB)]) := fun t h => k717 t (by
      show Steps p.tables e below (T705.setTop (mkF m 27 #[vR a1, vR ra, vR ta, vI 0] [(.int (0 : Int32)), (.ref ta), (.long (1 : Int64)), (.long vv), (.int (0 : Int32)), (.ref rB)])) _
      refine X705.iaload hx (j := (0 : Int32)) (v := (.int (1 : Int32))) (by rw [e705]; exact Ar716.1) (State.isArrayOf_alike hZ.alike Ar716.2.1) Ar716.2.2 hin716 hat716 (g := (mkF m 27 #[vR a1, vR ra, vR ta, vI 0] [(.int (0 : Int32)), (.ref ta), (.long (1 : Int64)), (.long vv), (.int (0 : Int32)), (.ref rB)])) rfl rfl (hb hby d10_27) _ ?_
      show Steps p.tables e below (T705.setTop (mkF m 28 #[vR a1, vR ra, vR ta, vI 0] [(.int (1 : Int32)), (.long (1 : Int64)), (.long vv), (.int (0 : Int32)), (.ref rB)])) _
      refine XS.lshl X705.here hx rfl (hb hby d10_28) rfl ?_
      rw [(by decide : ((1 : Int64) <<< ((1 : Int32) &&& 0x3f).toInt64) = (2 : Int64))]
      refine X705.ldc2Long hx hown (mvT hZ (hw _ (gm 37 rfl))) (g := (mkF m 29 #[vR a1, vR ra, vR ta, vI 0] [(.long (2 : Int64)), (.long vv), (.int (0 : Int32)), (.ref rB)])) rfl (hb hby d10_29) _ ?_
      show Steps p.tables e below (T705.setTop (mkF m 32 #[vR a1, vR ra, vR ta, vI 0] [(.long (-1 : Int64)), (.long (2 : Int64)), (.long vv), (.int (0 : Int32)), (.ref rB)])) _
      refine XS.lxor X705.here hx rfl (hb hby d10_32) rfl ?_
      rw [(by decide : ((2 : Int64) ^^^ (-1 : Int64)) = (-3 : Int64))]
      refine XS.land X705.here hx rfl (hb hby d10_33) rfl ?_
      exact h)
  obtain ⟨cl718, Ar718, q718, Sz718, Ng718, Hs718, G718⟩ := id VB
  have hin718 : ¬ ((0 : Int32) < 0 ∨ cl718.slots.size ≤ ((0 : Int32)).toNatClampNeg) := inb_of Sz718 ⟨by decide, by decide⟩
  obtain ⟨T718, h718, X718, e718, W718, st718⟩ := stJ X705 hx hZ e705 Ar718 (j := (0 : Int32)) hin718 (g := (mkF m 34 #[vR a1, vR ra, vR ta, vI 0] [(.long (vv &&& (-3 : Int64))), (.int (0 : Int32)), (.ref rB)])) rfl rfl (hb hby d10_34)
  have k720 : Rch p e below S0 T718 (mkF m 35 #[vR a1, vR ra, vR ta, vI 0] []) := fun t h => k719 t (st718 t h)
  have N718 := Fr.snoc X718 N0 ge_rB
  have VB' := Arv.set Ar718 q718 Sz718 Ng718 Hs718 G718 rfl W718 0 rfl (Nat.le_of_ble_eq_true rfl)
  replace VB : Arv Z h718 rB kL .long (1 : Int32) [(.long (vv &&& (-3 : Int64)))] (.long (0 : Int64)) := VB'
  have O721 := O0.wr W718 ge_rB
  have K722 := K0.wr W718 (Or.inl (gm 1 rfl))
  replace Fh := Fh.other W718 (Or.inl ne_a1_rB)
  replace VH := VH.other W718 ne_aH_rB
  replace VA := VA.other W718 ne_rA_rB
  replace VR := VR.other W718 ne_ra_rB
  replace VT := VT.other W718 ne_ta_rB
  have k724 : Rch p e below S0 T718 (mkF m 4 #[vR a1, vR ra, vR ta, vI 1] [(.ref ra), (.int (1 : Int32))]) := fun t h => k720 t (by
      show Steps p.tables e below (T718.setTop (mkF m 35 #[vR a1, vR ra, vR ta, vI 0] [])) _
      refine XS.iinc X718.here hx rfl (hb hby d10_35) rfl (l' := #[vR a1, vR ra, vR ta, vI ((0 : Int32) + (1 : Int32))]) rfl ?_
      rw [(by decide : ((0 : Int32) + (1 : Int32)) = (1 : Int32))]
      refine XS.goto X718.here hx rfl (pc0 := 38) (pc' := 2) rfl (hb hby d10_38) (by decide) (by decide) ?_
      refine XS.iloadN X718.here hx rfl (hb hby d10_2) rfl ?_
      refine XS.aloadN X718.here hx rfl (hb hby d10_3) rfl rfl ?_
      exact h)
  obtain ⟨cl723, Ar723, q723, Sz723, Ng723, Hs723, G723⟩ := id VR
  have k725 : Rch p e below S0 T718 (mkF m 41 #[vR a1, vR ra, vR ta, vI 1] []) := fun t h => k724 t (by
      show Steps p.tables e below (T718.setTop (mkF m 4 #[vR a1, vR ra, vR ta, vI 1] [(.ref ra), (.int (1 : Int32))])) _
      refine X718.arraylength hx (by rw [e718]; exact Ar723.1) (State.isArrayOf_alike hZ.alike Ar723.2.1) (g := (mkF m 4 #[vR a1, vR ra, vR ta, vI 1] [(.ref ra), (.int (1 : Int32))])) rfl rfl (hb hby d10_4) _ ?_
      rw [len_of Sz723 Ng723]
      refine XS.icmpYes X718.here hx rfl (pc0 := 5) (pc' := 41) rfl (hb hby d10_5) rfl (flt (by decide : ¬ ((1 : Int32) < (1 : Int32)))).2.1 (by decide) (by decide) ?_
      exact h)
  obtain ⟨fs, hr, hrun, hended, hW, hsame⟩ := X718.leave (v := none) (fun _ => rfl)
  refine ⟨_, _, ?_, hrun, hended, _, _, rfl, ?_, ⟨_, rfl⟩, hW, hsame.mono (by decide) (by decide)⟩
  · rw [← hS0]
    refine k725 _ ?_
    show Steps p.tables e below (T718.setTop (mkF m 41 #[vR a1, vR ra, vR ta, vI 1] [])) _
    exact X718.returnOut hx Bd.returns (hb hby d10_41) hr
  · show Q_rmE_3 Z rA rB kL u vv h0 n0 _ T718.heap _
    rw [e718]
    exact ⟨rfl, N718, K722, VA, VB⟩
def Q_rmE_4n (Z : State) (rA : Addr) (rB : Addr) (kL : ClassId) (u : Int64) (vv : Int64) (h0 : Heap) (n0 : Nat) (v : Option Value) (h : Heap) (L : List Loc) : Prop := v = none ∧ Fr n0 L ∧ Keep h0 h [rA, rB] ∧ Arv Z h rA kL .long (1 : Int32) [(.long (u &&& (-5 : Int64)))] (.long (0 : Int64)) ∧ Arv Z h rB kL .long (1 : Int32) [(.long (vv &&& (-5 : Int64)))] (.long (0 : Int64))
set_option maxRecDepth 65536 in
set_option maxHeartbeats 40000000 in
theorem rmE_4n (l : Launch) (Z : State) (a0 : Array Value) (hw : ∀ d ∈ tables_1, d.before a0 Z = true) (ws : List Jvm.Cond) (a1 : Addr) (aH : Addr) (rA : Addr) (rB : Addr) (kH : ClassId) (kL : ClassId) (cn : Int32) (wd : Int32) (u : Int64) (vv : Int64) (ra : Addr) (kR : ClassId) (ta : Addr) (kT : ClassId) (h0 : Heap) (n0 : Nat) (O0 : Old Z n0 h0) (ge_rA : n0 ≤ rA) (ge_rB : n0 ≤ rB) (Fh : Fld Z h0 a1 "com/example/lumenplan/lumenplan/simulation/Wavelengths" "held" "[[J" (.ref aH)) (VH : Arv Z h0 aH kH (.array .long) (2 : Int32) [(.ref rA), (.ref rB)] .null) (VA : Arv Z h0 rA kL .long (1 : Int32) [(.long u)] (.long (0 : Int64))) (VB : Arv Z h0 rB kL .long (1 : Int32) [(.long vv)] (.long (0 : Int64))) (VR : Arv Z h0 ra kR .int (2 : Int32) [(.int (0 : Int32)), (.int (1 : Int32))] (.int (0 : Int32))) (VT : Arv Z h0 ta kT .int (2 : Int32) [(.int (2 : Int32)), (.int (2 : Int32))] (.int (0 : Int32))) (ne_a1_rA : a1 ≠ rA) (ne_a1_rB : a1 ≠ rB) (ne_aH_rA : aH ≠ rA) (ne_aH_rB : aH ≠ rB) (ne_rA_rB : rA ≠ rB) (ne_ra_rA : ra ≠ rA) (ne_ra_rB : ra ≠ rB) (ne_ta_rA : ta ≠ rA) (ne_ta_rB : ta ≠ rB) :
    MetFree l (⟨"com/example/lumenplan/lumenplan/simulation/Wavelengths", "release", "([I[I)V"⟩ : MethodName) (head1 (Jvm.Cond.code (⟨"com/example/lumenplan/lumenplan/simulation/Wavelengths", "release", "([I[I)V"⟩ : MethodName) prog_37_method_3_code 4 none :: ws) ({ frames := 0, cells := 0, slots := 0, locals := 0 } : Room)) (fun a U => a = #[(.ref a1), (.ref ra), (.ref ta)] ∧ Z.Warmed39 U.vm ∧ U.heap = h0) (fun _ _ _ _ _ => True) (fun _ U o U' => ∃ v L, o = .returned v ∧ Q_rmE_4n Z rA rB kL u vv h0 n0 v U'.heap L ∧ FrameEnd U o U' L ({ frames := 0, cells := 0, slots := 0, locals := 0 } : Room).cells ({ frames := 0, cells := 0, slots := 0, locals := 0 } : Room).slots) := by
  refine MetFree.of_bodySF (plainFor_of_name pn_Wavelengths) hisR ?_
  intro p e s m args below meth c s₁ Bd hml0 hP hK
  obtain ⟨rfl, hZ, hh⟩ := hP
  have hx := Bd.exec
  have hby := Bd.bytes
  have hml : c.maxLocals = 4 := hml0
  have hown : s.vm.findClass "com/example/lumenplan/lumenplan/simulation/Wavelengths" = some m.cls := findClass_of_methodNamed Bd.named
  have hnm := (name_of_methodNamed Bd.named Bd.method).1
  have X0 : Stand p l e ({ frames := 0, cells := 0, slots := 0, locals := 0 } : Room) s m #[(.ref a1), (.ref ra), (.ref ta)] below meth c s₁ [] 0 0 := Stand.of_body Bd
  have e0 : s₁.heap = h0 := by rw [← hh, Bd.state]; rfl
  have N0 := Fr.nil n0
  obtain ⟨S0, hS0⟩ : ∃ z, z = s₁.setTop (entryFrame m #[(.ref a1), (.ref ra), (.ref ta)] 4) := ⟨_, rfl⟩
  have k0 : Rch p e below S0 s₁ (mkF m 0 #[vR a1, vR ra, vR ta, vU] []) := fun t kq => hS0 ▸ castTop (ef_10 m a1 ra ta) kq
  have K0 : Keep h0 h0 [rA, rB] := Keep.refl h0 _
  have k727 : Rch p e below S0 s₁ (mkF m 4 #[vR a1, vR ra, vR ta, vI 0] [(.ref ra), (.int (0 : Int32))]) := fun t h => k0 t (by
      show Steps p.tables e below (s₁.setTop (mkF m 0 #[vR a1, vR ra, vR ta, vU] [])) _
      refine XS.iconst X0.here hx rfl (hb hby d10_0) ?_
      refine XS.istoreN X0.here hx rfl (hb hby d10_1) rfl (l' := #[vR a1, vR ra, vR ta, vI 0]) rfl ?_
      refine XS.iloadN X0.here hx rfl (hb hby d10_2) rfl ?_
      refine XS.aloadN X0.here hx rfl (hb hby d10_3) rfl rfl ?_
      exact h)
  obtain ⟨cl726, Ar726, q726, Sz726, Ng726, Hs726, G726⟩ := id VR
  have k729 : Rch p e below S0 s₁ (mkF m 9 #[vR a1, vR ra, vR ta, vI 0] [(.ref a1)]) := fun t h => k727 t (by
      show Steps p.tables e below (s₁.setTop (mkF m 4 #[vR a1, vR ra, vR ta, vI 0] [(.ref ra), (.int (0 : Int32))])) _
      refine X0.arraylength hx (by rw [e0]; exact Ar726.1) (State.isArrayOf_alike hZ.alike Ar726.2.1) (g := (mkF m 4 #[vR a1, vR ra, vR ta, vI 0] [(.ref ra), (.int (0 : Int32))])) rfl rfl (hb hby d10_4) _ ?_
      rw [len_of Sz726 Ng726]
      refine XS.icmpNo X0.here hx rfl (hb hby d10_5) rfl (tlt (by decide : (0 : Int32) < (2 : Int32))).2.1 ?_
      refine XS.aloadN X0.here hx rfl (hb hby d10_8) rfl rfl ?_
      exact h)
  obtain ⟨T728, X728, e728, st728⟩ := getF X0 hx hZ hown (host := "") (Or.inl (hw _ (gm 22 rfl))) Via.refl e0 Fh (g := (mkF m 9 #[vR a1, vR ra, vR ta, vI 0] [(.ref a1)])) rfl rfl (hb hby d10_9)
  have k730 : Rch p e below S0 T728 (mkF m 12 #[vR a1, vR ra, vR ta, vI 0] [(.ref aH)]) := fun t h => k729 t (st728 t h)
  have k732 : Rch p e below S0 T728 (mkF m 14 #[vR a1, vR ra, vR ta, vI 0] [(.int (0 : Int32)), (.ref ra), (.ref aH)]) := fun t h => k730 t (by
      show Steps p.tables e below (T728.setTop (mkF m 12 #[vR a1, vR ra, vR ta, vI 0] [(.ref aH)])) _
      refine XS.aloadN X728.here hx rfl (hb hby d10_12) rfl rfl ?_
      refine XS.iloadN X728.here hx rfl (hb hby d10_13) rfl ?_
      exact h)
  obtain ⟨cl731, Ar731, q731, Sz731, Ng731, Hs731, G731⟩ := id VR
  have hin731 : ¬ ((0 : Int32) < 0 ∨ cl731.slots.size ≤ ((0 : Int32)).toNatClampNeg) := inb_of Sz731 ⟨by decide, by decide⟩
  have hat731 : cl731.slots[((0 : Int32)).toNatClampNeg]? = some (.int (0 : Int32)) := Hs731.at hin731 (rfl)
  have k734 : Rch p e below S0 T728 (mkF m 15 #[vR a1, vR ra, vR ta, vI 0] [(.int (0 : Int32)), (.ref aH)]) := fun t h => k732 t (by
      show Steps p.tables e below (T728.setTop (mkF m 14 #[vR a1, vR ra, vR ta, vI 0] [(.int (0 : Int32)), (.ref ra), (.ref aH)])) _
      refine X728.iaload hx (j := (0 : Int32)) (v := (.int (0 : Int32))) (by rw [e728]; exact Ar731.1) (State.isArrayOf_alike hZ.alike Ar731.2.1) Ar731.2.2 hin731 hat731 (g := (mkF m 14 #[vR a1, vR ra, vR ta, vI 0] [(.int (0 : Int32)), (.ref ra), (.ref aH)])) rfl rfl (hb hby d10_14) _ ?_
      exact h)
  obtain ⟨cl733, Ar733, q733, Sz733, Ng733, Hs733, G733⟩ := id VH
  have hin733 : ¬ ((0 : Int32) < 0 ∨ cl733.slots.size ≤ ((0 : Int32)).toNatClampNeg) := inb_of Sz733 ⟨by decide, by decide⟩
  have hat733 : cl733.slots[((0 : Int32)).toNatClampNeg]? = some (.ref rA) := Hs733.at hin733 (rfl)
  have k736 : Rch p e below S0 T728 (mkF m 18 #[vR a1, vR ra, vR ta, vI 0] [(.int (0 : Int32)), (.ref ta), (.ref rA)]) := fun t h => k734 t (by
      show Steps p.tables e below (T728.setTop (mkF m 15 #[vR a1, vR ra, vR ta, vI 0] [(.int (0 : Int32)), (.ref aH)])) _
      refine X728.aaload hx (j := (0 : Int32)) (v := (.ref rA)) (by rw [e728]; exact Ar733.1) (State.isArrayOf_alike hZ.alike Ar733.2.1) rfl Ar733.2.2 hin733 hat733 (g := (mkF m 15 #[vR a1, vR ra, vR ta, vI 0] [(.int (0 : Int32)), (.ref aH)])) rfl rfl (hb hby d10_15) _ ?_
      refine XS.aloadN X728.here hx rfl (hb hby d10_16) rfl rfl ?_
      refine XS.iloadN X728.here hx rfl (hb hby d10_17) rfl ?_
      exact h)
  obtain ⟨cl735, Ar735, q735, Sz735, Ng735, Hs735, G735⟩ := id VT
  have hin735 : ¬ ((0 : Int32) < 0 ∨ cl735.slots.size ≤ ((0 : Int32)).toNatClampNeg) := inb_of Sz735 ⟨by decide, by decide⟩
  have hat735 : cl735.slots[((0 : Int32)).toNatClampNeg]? = some (.int (2 : Int32)) := Hs735.at hin735 (rfl)
  have k738 : Rch p e below S0 T728 (mkF m 23 #[vR a1, vR ra, vR ta, vI 0] [(.int (0 : Int32)), (.ref rA), (.int (0 : Int32)), (.ref rA)]) := fun t h => k736 t (by
      show Steps p.tables e below (T728.setTop (mkF m 18 #[vR a1, vR ra, vR ta, vI 0] [(.int (0 : Int32)), (.ref ta), (.ref rA)])) _
      refine X728.iaload hx (j := (0 : Int32)) (v := (.int (2 : Int32))) (by rw [e728]; exact Ar735.1) (State.isArrayOf_alike hZ.alike Ar735.2.1) Ar735.2.2 hin735 hat735 (g := (mkF m 18 #[vR a1, vR ra, vR ta, vI 0] [(.int (0 : Int32)), (.ref ta), (.ref rA)])) rfl rfl (hb hby d10_18) _ ?_
      refine XS.bipush X728.here hx rfl (hb hby d10_19) ?_
      show Steps p.tables e below (T728.setTop (mkF m 21 #[vR a1, vR ra, vR ta, vI 0] [(.int (64 : Int32)), (.int (2 : Int32)), (.ref rA)])) _
      refine XS.idiv X728.here hx rfl (hb hby d10_21) rfl (by decide) ?_
      rw [(by decide : ((2 : Int32) / (64 : Int32)) = (0 : Int32))]
      refine XT.dup2 X728.here hx rfl (hb hby d10_22) rfl rfl rfl ?_
      exact h)
  obtain ⟨cl737, Ar737, q737, Sz737, Ng737, Hs737, G737⟩ := id VA
  have hin737 : ¬ ((0 : Int32) < 0 ∨ cl737.slots.size ≤ ((0 : Int32)).toNatClampNeg) := inb_of Sz737 ⟨by decide, by decide⟩
  have hat737 : cl737.slots[((0 : Int32)).toNatClampNeg]? = some (.long u) := Hs737.at hin737 (rfl)
  have k740 : Rch p e below S0 T728 (mkF m 27 #[vR a1, vR ra, vR ta, vI 0] [(.int (0 : Int32)), (.ref ta), (.long (1 : Int64)), (.long u), (.int (0 : Int32)), (.ref rA)]) := fun t h => k738 t (by
      show Steps p.tables e below (T728.setTop (mkF m 23 #[vR a1, vR ra, vR ta, vI 0] [(.int (0 : Int32)), (.ref rA), (.int (0 : Int32)), (.ref rA)])) _
      refine X728.laload hx (j := (0 : Int32)) (v := (.long u)) (by rw [e728]; exact Ar737.1) (State.isArrayOf_alike hZ.alike Ar737.2.1) Ar737.2.2 hin737 hat737 (g := (mkF m 23 #[vR a1, vR ra, vR ta, vI 0] [(.int (0 : Int32)), (.ref rA), (.int (0 : Int32)), (.ref rA)])) rfl rfl (hb hby d10_23) _ ?_
      refine XS.lconst X728.here hx rfl (hb hby d10_24) ?_
      refine XS.aloadN X728.here hx rfl (hb hby d10_25) rfl rfl ?_
      refine XS.iloadN X728.here hx rfl (hb hby d10_26) rfl ?_
      exact h)
  obtain ⟨cl739, Ar739, q739, Sz739, Ng739, Hs739, G739⟩ := id VT
  have hin739 : ¬ ((0 : Int32) < 0 ∨ cl739.slots.size ≤ ((0 : Int32)).toNatClampNeg) := inb_of Sz739 ⟨by decide, by decide⟩
  have hat739 : cl739.slots[((0 : Int32)).toNatClampNeg]? = some (.int (2 : Int32)) := Hs739.at hin739 (rfl)
  have k742 : Rch p e below S0 T728 (mkF m 34 #[vR a1, vR ra, vR ta, vI 0] [(.long (u &&& (-5 : Int64))), (.int (0 : Int32)), (.ref rA)]) := fun t h => k740 t (by
      show Steps p.tables e below (T728.setTop (mkF m 27 #[vR a1, vR ra, vR ta, vI 0] [(.int (0 : Int32)), (.ref ta), (.long (1 : Int64)), (.long u), (.int (0 : Int32)), (.ref rA)])) _
      refine X728.iaload hx (j := (0 : Int32)) (v := (.int (2 : Int32))) (by rw [e728]; exact Ar739.1) (State.isArrayOf_alike hZ.alike Ar739.2.1) Ar739.2.2 hin739 hat739 (g := (mkF m 27 #[vR a1, vR ra, vR ta, vI 0] [(.int (0 : Int32)), (.ref ta), (.long (1 : Int64)), (.long u), (.int (0 : Int32)), (.ref rA)])) rfl rfl (hb hby d10_27) _ ?_
      show Steps p.tables e below (T728.setTop (mkF m 28 #[vR a1, vR ra, vR ta, vI 0] [(.int (2 : Int32)), (.long (1 : Int64)), (.long u), (.int (0 : Int32)), (.ref rA)])) _
      refine XS.lshl X728.here hx rfl (hb hby d10_28) rfl ?_
      rw [(by decide : ((1 : Int64) <<< ((2 : Int32) &&& 0x3f).toInt64) = (4 : Int64))]
      refine X728.ldc2Long hx hown (mvT hZ (hw _ (gm 37 rfl))) (g := (mkF m 29 #[vR a1, vR ra, vR ta, vI 0] [(.long (4 : Int64)), (.long u), (.int (0 : Int32)), (.ref rA)])) rfl (hb hby d10_29) _ ?_
      show Steps p.tables e below (T728.setTop (mkF m 32 #[vR a1, vR ra, vR ta, vI 0] [(.long (-1 : Int64)), (.long (4 : Int64)), (.long u), (.int (0 : Int32)), (.ref rA)])) _
      refine XS.lxor X728.here hx rfl (hb hby d10_32) rfl ?_
      rw [(by decide : ((4 : Int64) ^^^ (-1 : Int64)) = (-5 : Int64))]
      refine XS.land X728.here hx rfl (hb hby d10_33) rfl ?_
      exact h)
  obtain ⟨cl741, Ar741, q741, Sz741, Ng741, Hs741, G741⟩ := id VA
  have hin741 : ¬ ((0 : Int32) < 0 ∨ cl741.slots.size ≤ ((0 : Int32)).toNatClampNeg) := inb_of Sz741 ⟨by decide, by decide⟩
  obtain ⟨T741, h741, X741, e741, W741, st741⟩ := stJ X728 hx hZ e728 Ar741 (j := (0 : Int32)) hin741 (g := (mkF m 34 #[vR a1, vR ra, vR ta, vI 0] [(.long (u &&& (-5 : Int64))), (.int (0 : Int32)), (.ref rA)])) rfl rfl (hb hby d10_34)
  have k743 : Rch p e below S0 T741 (mkF m 35 #[vR a1, vR ra, vR ta, vI 0] []) := fun t h => k742 t (st741 t h)
  have N741 := Fr.snoc X741 N0 ge_rA
  have VA' := Arv.set Ar741 q741 Sz741 Ng741 Hs741 G741 rfl W741 0 rfl (Nat.le_of_ble_eq_true rfl)
  replace VA : Arv Z h741 rA kL .long (1 : Int32) [(.long (u &&& (-5 : Int64)))] (.long (0 : Int64)) := VA'
  have O744 := O0.wr W741 ge_rA
  have K745 := K0.wr W741 (Or.inl (gm 0 rfl))
  replace Fh := Fh.other W741 (Or.inl ne_a1_rA)
  replace VH := VH.other W741 ne_aH_rA
  replace VB := VB.other W741 (Ne.symm ne_rA_rB)
  replace VR := VR.other W741 ne_ra_rA
  replace VT := VT.other W741 ne_ta_rA
  have k747 : Rch p e below S0 T741 (mkF m 4 #[vR a1, vR ra, vR ta, vI 1] [(.ref ra), (.int (1 : Int32))]) := fun t h => k743 t (by
      show Steps p.tables e below (T741.setTop (mkF m 35 #[vR a1, vR ra, vR ta, vI 0] [])) _
      refine XS.iinc X741.here hx rfl (hb hby d10_35) rfl (l' := #[vR a1, vR ra, vR ta, vI ((0 : Int32) + (1 : Int32))]) rfl ?_
      rw [(by decide : ((0 : Int32) + (1 : Int32)) = (1 : Int32))]
      refine XS.goto X741.here hx rfl (pc0 := 38) (pc' := 2) rfl (hb hby d10_38) (by decide) (by decide) ?_
      refine XS.iloadN X741.here hx rfl (hb hby d10_2) rfl ?_
      refine XS.aloadN X741.here hx rfl (hb hby d10_3) rfl rfl ?_
      exact h)
  obtain ⟨cl746, Ar746, q746, Sz746, Ng746, Hs746, G746⟩ := id VR
  have k749 : Rch p e below S0 T741 (mkF m 9 #[vR a1, vR ra, vR ta, vI 1] [(.ref a1)]) := fun t h => k747 t (by
      show Steps p.tables e below (T741.setTop (mkF m 4 #[vR a1, vR ra, vR ta, vI 1] [(.ref ra), (.int (1 : Int32))])) _
      refine X741.arraylength hx (by rw [e741]; exact Ar746.1) (State.isArrayOf_alike hZ.alike Ar746.2.1) (g := (mkF m 4 #[vR a1, vR ra, vR ta, vI 1] [(.ref ra), (.int (1 : Int32))])) rfl rfl (hb hby d10_4) _ ?_
      rw [len_of Sz746 Ng746]
      refine XS.icmpNo X741.here hx rfl (hb hby d10_5) rfl (tlt (by decide : (1 : Int32) < (2 : Int32))).2.1 ?_
      refine XS.aloadN X741.here hx rfl (hb hby d10_8) rfl rfl ?_
      exact h)
  obtain ⟨T748, X748, e748, st748⟩ := getF X741 hx hZ hown (host := "") (Or.inl (hw _ (gm 22 rfl))) Via.refl e741 Fh (g := (mkF m 9 #[vR a1, vR ra, vR ta, vI 1] [(.ref a1)])) rfl rfl (hb hby d10_9)
  have k750 : Rch p e below S0 T748 (mkF m 12 #[vR a1, vR ra, vR ta, vI 1] [(.ref aH)]) := fun t h => k749 t (st748 t h)
  have k752 : Rch p e below S0 T748 (mkF m 14 #[vR a1, vR ra, vR ta, vI 1] [(.int (1 : Int32)), (.ref ra), (.ref aH)]) := fun t h => k750 t (by
      show Steps p.tables e below (T748.setTop (mkF m 12 #[vR a1, vR ra, vR ta, vI 1] [(.ref aH)])) _
      refine XS.aloadN X748.here hx rfl (hb hby d10_12) rfl rfl ?_
      refine XS.iloadN X748.here hx rfl (hb hby d10_13) rfl ?_
      exact h)
  obtain ⟨cl751, Ar751, q751, Sz751, Ng751, Hs751, G751⟩ := id VR
  have hin751 : ¬ ((1 : Int32) < 0 ∨ cl751.slots.size ≤ ((1 : Int32)).toNatClampNeg) := inb_of Sz751 ⟨by decide, by decide⟩
  have hat751 : cl751.slots[((1 : Int32)).toNatClampNeg]? = some (.int (1 : Int32)) := Hs751.at hin751 (rfl)
  have k754 : Rch p e below S0 T748 (mkF m 15 #[vR a1, vR ra, vR ta, vI 1] [(.int (1 : Int32)), (.ref aH)]) := fun t h => k752 t (by
      show Steps p.tables e below (T748.setTop (mkF m 14 #[vR a1, vR ra, vR ta, vI 1] [(.int (1 : Int32)), (.ref ra), (.ref aH)])) _
      refine X748.iaload hx (j := (1 : Int32)) (v := (.int (1 : Int32))) (by rw [e748]; exact Ar751.1) (State.isArrayOf_alike hZ.alike Ar751.2.1) Ar751.2.2 hin751 hat751 (g := (mkF m 14 #[vR a1, vR ra, vR ta, vI 1] [(.int (1 : Int32)), (.ref ra), (.ref aH)])) rfl rfl (hb hby d10_14) _ ?_
      exact h)
  obtain ⟨cl753, Ar753, q753, Sz753, Ng753, Hs753, G753⟩ := id VH
  have hin753 : ¬ ((1 : Int32) < 0 ∨ cl753.slots.size ≤ ((1 : Int32)).toNatClampNeg) := inb_of Sz753 ⟨by decide, by decide⟩
  have hat753 : cl753.slots[((1 : Int32)).toNatClampNeg]? = some (.ref rB) := Hs753.at hin753 (rfl)
  have k756 : Rch p e below S0 T748 (mkF m 18 #[vR a1, vR ra, vR ta, vI 1] [(.int (1 : Int32)), (.ref ta), (.ref rB)]) := fun t h => k754 t (by
      show Steps p.tables e below (T748.setTop (mkF m 15 #[vR a1, vR ra, vR ta, vI 1] [(.int (1 : Int32)), (.ref aH)])) _
      refine X748.aaload hx (j := (1 : Int32)) (v := (.ref rB)) (by rw [e748]; exact Ar753.1) (State.isArrayOf_alike hZ.alike Ar753.2.1) rfl Ar753.2.2 hin753 hat753 (g := (mkF m 15 #[vR a1, vR ra, vR ta, vI 1] [(.int (1 : Int32)), (.ref aH)])) rfl rfl (hb hby d10_15) _ ?_
      refine XS.aloadN X748.here hx rfl (hb hby d10_16) rfl rfl ?_
      refine XS.iloadN X748.here hx rfl (hb hby d10_17) rfl ?_
      exact h)
  obtain ⟨cl755, Ar755, q755, Sz755, Ng755, Hs755, G755⟩ := id VT
  have hin755 : ¬ ((1 : Int32) < 0 ∨ cl755.slots.size ≤ ((1 : Int32)).toNatClampNeg) := inb_of Sz755 ⟨by decide, by decide⟩
  have hat755 : cl755.slots[((1 : Int32)).toNatClampNeg]? = some (.int (2 : Int32)) := Hs755.at hin755 (rfl)
  have k758 : Rch p e below S0 T748 (mkF m 23 #[vR a1, vR ra, vR ta, vI 1] [(.int (0 : Int32)), (.ref rB), (.int (0 : Int32)), (.ref rB)]) := fun t h => k756 t (by
      show Steps p.tables e below (T748.setTop (mkF m 18 #[vR a1, vR ra, vR ta, vI 1] [(.int (1 : Int32)), (.ref ta), (.ref rB)])) _
      refine X748.iaload hx (j := (1 : Int32)) (v := (.int (2 : Int32))) (by rw [e748]; exact Ar755.1) (State.isArrayOf_alike hZ.alike Ar755.2.1) Ar755.2.2 hin755 hat755 (g := (mkF m 18 #[vR a1, vR ra, vR ta, vI 1] [(.int (1 : Int32)), (.ref ta), (.ref rB)])) rfl rfl (hb hby d10_18) _ ?_
      refine XS.bipush X748.here hx rfl (hb hby d10_19) ?_
      show Steps p.tables e below (T748.setTop (mkF m 21 #[vR a1, vR ra, vR ta, vI 1] [(.int (64 : Int32)), (.int (2 : Int32)), (.ref rB)])) _
      refine XS.idiv X748.here hx rfl (hb hby d10_21) rfl (by decide) ?_
      rw [(by decide : ((2 : Int32) / (64 : Int32)) = (0 : Int32))]
      refine XT.dup2 X748.here hx rfl (hb hby d10_22) rfl rfl rfl ?_
      exact h)
  obtain ⟨cl757, Ar757, q757, Sz757, Ng757, Hs757, G757⟩ := id VB
  have hin757 : ¬ ((0 : Int32) < 0 ∨ cl757.slots.size ≤ ((0 : Int32)).toNatClampNeg) := inb_of Sz757 ⟨by decide, by decide⟩
  have hat757 : cl757.slots[((0 : Int32)).toNatClampNeg]? = some (.long vv) := Hs757.at hin757 (rfl)
  have k760 : Rch p e below S0 T748 (mkF m 27 #[vR a1, vR ra, vR ta, vI 1] [(.int (1 : Int32)), (.ref ta), (.long (1 : Int64)), (.long vv), (.int (0 : Int32)), (.ref rB)]) := fun t h => k758 t (by
      show Steps p.tables e below (T748.setTop (mkF m 23 #[vR a1, vR ra, vR ta, vI 1] [(.int (0 : Int32)), (.ref rB), (.int (0 : Int32)), (.ref rB)])) _
      refine X748.laload hx (j := (0 : Int32)) (v := (.long vv)) (by rw [e748]; exact Ar757.1) (State.isArrayOf_alike hZ.alike Ar757.2.1) Ar757.2.2 hin757 hat757 (g := (mkF m 23 #[vR a1, vR ra, vR ta, vI 1] [(.int (0 : Int32)), (.ref rB), (.int (0 : Int32)), (.ref rB)])) rfl rfl (hb hby d10_23) _ ?_
      refine XS.lconst X748.here hx rfl (hb hby d10_24) ?_
      refine XS.aloadN X748.here hx rfl (hb hby d10_25) rfl rfl ?_
      refine XS.iloadN X748.here hx rfl (hb hby d10_26) rfl ?_
      exact h)
  obtain ⟨cl759, Ar759, q759, Sz759, Ng759, Hs759, G759⟩ := id VT
  have hin759 : ¬ ((1 : Int32) < 0 ∨ cl759.slots.size ≤ ((1 : Int32)).toNatClampNeg) := inb_of Sz759 ⟨by decide, by decide⟩
  have hat759 : cl759.slots[((1 : Int32)).toNatClampNeg]? = some (.int (2 : Int32)) := Hs759.at hin759 (rfl)
  have k762 : Rch p e below S0 T748 (mkF m 34 #[vR a1, vR ra, vR ta, vI 1] [(.long (vv &&& (-5 : Int64))), (.int (0 : Int32)), (.ref rB)]) := fun t h => k760 t (by
      show Steps p.tables e below (T748.setTop (mkF m 27 #[vR a1, vR ra, vR ta, vI 1] [(.int (1 : Int32)), (.ref ta), (.long (1 : Int64)), (.long vv), (.int (0 : Int32)), (.ref rB)])) _
      refine X748.iaload hx (j := (1 : Int32)) (v := (.int (2 : Int32))) (by rw [e748]; exact Ar759.1) (State.isArrayOf_alike hZ.alike Ar759.2.1) Ar759.2.2 hin759 hat759 (g := (mkF m 27 #[vR a1, vR ra, vR ta, vI 1] [(.int (1 : Int32)), (.ref ta), (.long (1 : Int64)), (.long vv), (.int (0 : Int32)), (.ref rB)])) rfl rfl (hb hby d10_27) _ ?_
      show Steps p.tables e below (T748.setTop (mkF m 28 #[vR a1, vR ra, vR ta, vI 1] [(.int (2 : Int32)), (.long (1 : Int64)), (.long vv), (.int (0 : Int32)), (.ref rB)])) _
      refine XS.lshl X748.here hx rfl (hb hby d10_28) rfl ?_
      rw [(by decide : ((1 : Int64) <<< ((2 : Int32) &&& 0x3f).toInt64) = (4 : Int64))]
      refine X748.ldc2Long hx hown (mvT hZ (hw _ (gm 37 rfl))) (g := (mkF m 29 #[vR a1, vR ra, vR ta, vI 1] [(.long (4 : Int64)), (.long vv), (.int (0 : Int32)), (.ref rB)])) rfl (hb hby d10_29) _ ?_
      show Steps p.tables e below (T748.setTop (mkF m 32 #[vR a1, vR ra, vR ta, vI 1] [(.long (-1 : Int64)), (.long (4 : Int64)), (.long vv), (.int (0 : Int32)), (.ref rB)])) _
      refine XS.lxor X748.here hx rfl (hb hby d10_32) rfl ?_
      rw [(by decide : ((4 : Int64) ^^^ (-1 : Int64)) = (-5 : Int64))]
      refine XS.land X748.here hx rfl (hb hby d10_33) rfl ?_
      exact h)
  obtain ⟨cl761, Ar761, q761, Sz761, Ng761, Hs761, G761⟩ := id VB
  have hin761 : ¬ ((0 : Int32) < 0 ∨ cl761.slots.size ≤ ((0 : Int32)).toNatClampNeg) := inb_of Sz761 ⟨by decide, by decide⟩
  obtain ⟨T761, h761, X761, e761, W761, st761⟩ := stJ X748 hx hZ e748 Ar761 (j := (0 : Int32)) hin761 (g := (mkF m 34 #[vR a1, vR ra, vR ta, vI 1] [(.long (vv &&& (-5 : Int64))), (.int (0 : Int32)), (.ref rB)])) rfl rfl (hb hby d10_34)
  have k763 : Rch p e below S0 T761 (mkF m 35 #[vR a1, vR ra, vR ta, vI 1] []) := fun t h => k762 t (st761 t h)
  have N761 := Fr.snoc X761 N741 ge_rB
  have VB' := Arv.set Ar761 q761 Sz761 Ng761 Hs761 G761 rfl W761 0 rfl (Nat.le_of_ble_eq_true rfl)
  replace VB : Arv Z h761 rB kL .long (1 : Int32) [(.long (vv &&& (-5 : Int64)))] (.long (0 : Int64)) := VB'
  have O764 := O744.wr W761 ge_rB
  have K765 := K745.wr W761 (Or.inl (gm 1 rfl))
  replace Fh := Fh.other W761 (Or.inl ne_a1_rB)
  replace VH := VH.other W761 ne_aH_rB
  replace VA := VA.other W761 ne_rA_rB
  replace VR := VR.other W761 ne_ra_rB
  replace VT := VT.other W761 ne_ta_rB
  have k767 : Rch p e below S0 T761 (mkF m 4 #[vR a1, vR ra, vR ta, vI 2] [(.ref ra), (.int (2 : Int32))]) := fun t h => k763 t (by
      show Steps p.tables e below (T761.setTop (mkF m 35 #[vR a1, vR ra, vR ta, vI 1] [])) _
      refine XS.iinc X761.here hx rfl (hb hby d10_35) rfl (l' := #[vR a1, vR ra, vR ta, vI ((1 : Int32) + (1 : Int32))]) rfl ?_
      rw [(by decide : ((1 : Int32) + (1 : Int32)) = (2 : Int32))]
      refine XS.goto X761.here hx rfl (pc0 := 38) (pc' := 2) rfl (hb hby d10_38) (by decide) (by decide) ?_
      refine XS.iloadN X761.here hx rfl (hb hby d10_2) rfl ?_
      refine XS.aloadN X761.here hx rfl (hb hby d10_3) rfl rfl ?_
      exact h)
  obtain ⟨cl766, Ar766, q766, Sz766, Ng766, Hs766, G766⟩ := id VR
  have k768 : Rch p e below S0 T761 (mkF m 41 #[vR a1, vR ra, vR ta, vI 2] []) := fun t h => k767 t (by
      show Steps p.tables e below (T761.setTop (mkF m 4 #[vR a1, vR ra, vR ta, vI 2] [(.ref ra), (.int (2 : Int32))])) _
      refine X761.arraylength hx (by rw [e761]; exact Ar766.1) (State.isArrayOf_alike hZ.alike Ar766.2.1) (g := (mkF m 4 #[vR a1, vR ra, vR ta, vI 2] [(.ref ra), (.int (2 : Int32))])) rfl rfl (hb hby d10_4) _ ?_
      rw [len_of Sz766 Ng766]
      refine XS.icmpYes X761.here hx rfl (pc0 := 5) (pc' := 41) rfl (hb hby d10_5) rfl (flt (by decide : ¬ ((2 : Int32) < (2 : Int32)))).2.1 (by decide) (by decide) ?_
      exact h)
  obtain ⟨fs, hr, hrun, hended, hW, hsame⟩ := X761.leave (v := none) (fun _ => rfl)
  refine ⟨_, _, ?_, hrun, hended, _, _, rfl, ?_, ⟨_, rfl⟩, hW, hsame.mono (by decide) (by decide)⟩
  · rw [← hS0]
    refine k768 _ ?_
    show Steps p.tables e below (T761.setTop (mkF m 41 #[vR a1, vR ra, vR ta, vI 2] [])) _
    exact X761.returnOut hx Bd.returns (hb hby d10_41) hr
  · show Q_rmE_4n Z rA rB kL u vv h0 n0 _ T761.heap _
    rw [e761]
    exact ⟨rfl, N761, K765, VA, VB⟩
def Q_rmE_4f (Z : State) (rA : Addr) (rB : Addr) (kL : ClassId) (u : Int64) (vv : Int64) (h0 : Heap) (n0 : Nat) (v : Option Value) (h : Heap) (L : List Loc) : Prop := v = none ∧ Fr n0 L ∧ Keep h0 h [rA, rB] ∧ Arv Z h rA kL .long (1 : Int32) [(.long (u &&& (-5 : Int64)))] (.long (0 : Int64)) ∧ Arv Z h rB kL .long (1 : Int32) [(.long (vv &&& (-5 : Int64)))] (.long (0 : Int64))
set_option maxRecDepth 65536 in
set_option maxHeartbeats 40000000 in
theorem rmE_4f (l : Launch) (Z : State) (a0 : Array Value) (hw : ∀ d ∈ tables_1, d.before a0 Z = true) (ws : List Jvm.Cond) (a1 : Addr) (aH : Addr) (rA : Addr) (rB : Addr) (kH : ClassId) (kL : ClassId) (cn : Int32) (wd : Int32) (u : Int64) (vv : Int64) (ra : Addr) (kR : ClassId) (ta : Addr) (kT : ClassId) (h0 : Heap) (n0 : Nat) (O0 : Old Z n0 h0) (ge_rA : n0 ≤ rA) (ge_rB : n0 ≤ rB) (Fh : Fld Z h0 a1 "com/example/lumenplan/lumenplan/simulation/Wavelengths" "held" "[[J" (.ref aH)) (VH : Arv Z h0 aH kH (.array .long) (2 : Int32) [(.ref rA), (.ref rB)] .null) (VA : Arv Z h0 rA kL .long (1 : Int32) [(.long u)] (.long (0 : Int64))) (VB : Arv Z h0 rB kL .long (1 : Int32) [(.long vv)] (.long (0 : Int64))) (VR : Arv Z h0 ra kR .int (2 : Int32) [(.int (1 : Int32)), (.int (0 : Int32))] (.int (0 : Int32))) (VT : Arv Z h0 ta kT .int (2 : Int32) [(.int (2 : Int32)), (.int (2 : Int32))] (.int (0 : Int32))) (ne_a1_rA : a1 ≠ rA) (ne_a1_rB : a1 ≠ rB) (ne_aH_rA : aH ≠ rA) (ne_aH_rB : aH ≠ rB) (ne_rA_rB : rA ≠ rB) (ne_ra_rA : ra ≠ rA) (ne_ra_rB : ra ≠ rB) (ne_ta_rA : ta ≠ rA) (ne_ta_rB : ta ≠ rB) :
    MetFree l (⟨"com/example/lumenplan/lumenplan/simulation/Wavelengths", "release", "([I[I)V"⟩ : MethodName) (head1 (Jvm.Cond.code (⟨"com/example/lumenplan/lumenplan/simulation/Wavelengths", "release", "([I[I)V"⟩ : MethodName) prog_37_method_3_code 4 none :: ws) ({ frames := 0, cells := 0, slots := 0, locals := 0 } : Room)) (fun a U => a = #[(.ref a1), (.ref ra), (.ref ta)] ∧ Z.Warmed39 U.vm ∧ U.heap = h0) (fun _ _ _ _ _ => True) (fun _ U o U' => ∃ v L, o = .returned v ∧ Q_rmE_4f Z rA rB kL u vv h0 n0 v U'.heap L ∧ FrameEnd U o U' L ({ frames := 0, cells := 0, slots := 0, locals := 0 } : Room).cells ({ frames := 0, cells := 0, slots := 0, locals := 0 } : Room).slots) := by
  refine MetFree.of_bodySF (plainFor_of_name pn_Wavelengths) hisR ?_
  intro p e s m args below meth c s₁ Bd hml0 hP hK
  obtain ⟨rfl, hZ, hh⟩ := hP
  have hx := Bd.exec
  have hby := Bd.bytes
  have hml : c.maxLocals = 4 := hml0
  have hown : s.vm.findClass "com/example/lumenplan/lumenplan/simulation/Wavelengths" = some m.cls := findClass_of_methodNamed Bd.named
  have hnm := (name_of_methodNamed Bd.named Bd.method).1
  have X0 : Stand p l e ({ frames := 0, cells := 0, slots := 0, locals := 0 } : Room) s m #[(.ref a1), (.ref ra), (.ref ta)] below meth c s₁ [] 0 0 := Stand.of_body Bd
  have e0 : s₁.heap = h0 := by rw [← hh, Bd.state]; rfl
  have N0 := Fr.nil n0
  obtain ⟨S0, hS0⟩ : ∃ z, z = s₁.setTop (entryFrame m #[(.ref a1), (.ref ra), (.ref ta)] 4) := ⟨_, rfl⟩
  have k0 : Rch p e below S0 s₁ (mkF m 0 #[vR a1, vR ra, vR ta, vU] []) := fun t kq => hS0 ▸ castTop (ef_10 m a1 ra ta) kq
  have K0 : Keep h0 h0 [rA, rB] := Keep.refl h0 _
  have k770 : Rch p e below S0 s₁ (mkF m 4 #[vR a1, vR ra, vR ta, vI 0] [(.ref ra), (.int (0 : Int32))]) := fun t h => k0 t (by
      show Steps p.tables e below (s₁.setTop (mkF m 0 #[vR a1, vR ra, vR ta, vU] [])) _
      refine XS.iconst X0.here hx rfl (hb hby d10_0) ?_
      refine XS.istoreN X0.here hx rfl (hb hby d10_1) rfl (l' := #[vR a1, vR ra, vR ta, vI 0]) rfl ?_
      refine XS.iloadN X0.here hx rfl (hb hby d10_2) rfl ?_
      refine XS.aloadN X0.here hx rfl (hb hby d10_3) rfl rfl ?_
      exact h)
  obtain ⟨cl769, Ar769, q769, Sz769, Ng769, Hs769, G769⟩ := id VR
  have k772 : Rch p e below S0 s₁ (mkF m 9 #[vR a1, vR ra, vR ta, vI 0] [(.ref a1)]) := fun t h => k770 t (by
      show Steps p.tables e below (s₁.setTop (mkF m 4 #[vR a1, vR ra, vR ta, vI 0] [(.ref ra), (.int (0 : Int32))])) _
      refine X0.arraylength hx (by rw [e0]; exact Ar769.1) (State.isArrayOf_alike hZ.alike Ar769.2.1) (g := (mkF m 4 #[vR a1, vR ra, vR ta, vI 0] [(.ref ra), (.int (0 : Int32))])) rfl rfl (hb hby d10_4) _ ?_
      rw [len_of Sz769 Ng769]
      refine XS.icmpNo X0.here hx rfl (hb hby d10_5) rfl (tlt (by decide : (0 : Int32) < (2 : Int32))).2.1 ?_
      refine XS.aloadN X0.here hx rfl (hb hby d10_8) rfl rfl ?_
      exact h)
  obtain ⟨T771, X771, e771, st771⟩ := getF X0 hx hZ hown (host := "") (Or.inl (hw _ (gm 22 rfl))) Via.refl e0 Fh (g := (mkF m 9 #[vR a1, vR ra, vR ta, vI 0] [(.ref a1)])) rfl rfl (hb hby d10_9)
  have k773 : Rch p e below S0 T771 (mkF m 12 #[vR a1, vR ra, vR ta, vI 0] [(.ref aH)]) := fun t h => k772 t (st771 t h)
  have k775 : Rch p e below S0 T771 (mkF m 14 #[vR a1, vR ra, vR ta, vI 0] [(.int (0 : Int32)), (.ref ra), (.ref aH)]) := fun t h => k773 t (by
      show Steps p.tables e below (T771.setTop (mkF m 12 #[vR a1, vR ra, vR ta, vI 0] [(.ref aH)])) _
      refine XS.aloadN X771.here hx rfl (hb hby d10_12) rfl rfl ?_
      refine XS.iloadN X771.here hx rfl (hb hby d10_13) rfl ?_
      exact h)
  obtain ⟨cl774, Ar774, q774, Sz774, Ng774, Hs774, G774⟩ := id VR
  have hin774 : ¬ ((0 : Int32) < 0 ∨ cl774.slots.size ≤ ((0 : Int32)).toNatClampNeg) := inb_of Sz774 ⟨by decide, by decide⟩
  have hat774 : cl774.slots[((0 : Int32)).toNatClampNeg]? = some (.int (1 : Int32)) := Hs774.at hin774 (rfl)
  have k777 : Rch p e below S0 T771 (mkF m 15 #[vR a1, vR ra, vR ta, vI 0] [(.int (1 : Int32)), (.ref aH)]) := fun t h => k775 t (by
      show Steps p.tables e below (T771.setTop (mkF m 14 #[vR a1, vR ra, vR ta, vI 0] [(.int (0 : Int32)), (.ref ra), (.ref aH)])) _
      refine X771.iaload hx (j := (0 : Int32)) (v := (.int (1 : Int32))) (by rw [e771]; exact Ar774.1) (State.isArrayOf_alike hZ.alike Ar774.2.1) Ar774.2.2 hin774 hat774 (g := (mkF m 14 #[vR a1, vR ra, vR ta, vI 0] [(.int (0 : Int32)), (.ref ra), (.ref aH)])) rfl rfl (hb hby d10_14) _ ?_
      exact h)
  obtain ⟨cl776, Ar776, q776, Sz776, Ng776, Hs776, G776⟩ := id VH
  have hin776 : ¬ ((1 : Int32) < 0 ∨ cl776.slots.size ≤ ((1 : Int32)).toNatClampNeg) := inb_of Sz776 ⟨by decide, by decide⟩
  have hat776 : cl776.slots[((1 : Int32)).toNatClampNeg]? = some (.ref rB) := Hs776.at hin776 (rfl)
  have k779 : Rch p e below S0 T771 (mkF m 18 #[vR a1, vR ra, vR ta, vI 0] [(.int (0 : Int32)), (.ref ta), (.ref rB)]) := fun t h => k777 t (by
      show Steps p.tables e below (T771.setTop (mkF m 15 #[vR a1, vR ra, vR ta, vI 0] [(.int (1 : Int32)), (.ref aH)])) _
      refine X771.aaload hx (j := (1 : Int32)) (v := (.ref rB)) (by rw [e771]; exact Ar776.1) (State.isArrayOf_alike hZ.alike Ar776.2.1) rfl Ar776.2.2 hin776 hat776 (g := (mkF m 15 #[vR a1, vR ra, vR ta, vI 0] [(.int (1 : Int32)), (.ref aH)])) rfl rfl (hb hby d10_15) _ ?_
      refine XS.aloadN X771.here hx rfl (hb hby d10_16) rfl rfl ?_
      refine XS.iloadN X771.here hx rfl (hb hby d10_17) rfl ?_
      exact h)
  obtain ⟨cl778, Ar778, q778, Sz778, Ng778, Hs778, G778⟩ := id VT
  have hin778 : ¬ ((0 : Int32) < 0 ∨ cl778.slots.size ≤ ((0 : Int32)).toNatClampNeg) := inb_of Sz778 ⟨by decide, by decide⟩
  have hat778 : cl778.slots[((0 : Int32)).toNatClampNeg]? = some (.int (2 : Int32)) := Hs778.at hin778 (rfl)
  have k781 : Rch p e below S0 T771 (mkF m 23 #[vR a1, vR ra, vR ta, vI 0] [(.int (0 : Int32)), (.ref rB), (.int (0 : Int32)), (.ref rB)]) := fun t h => k779 t (by
      show Steps p.tables e below (T771.setTop (mkF m 18 #[vR a1, vR ra, vR ta, vI 0] [(.int (0 : Int32)), (.ref ta), (.ref rB)])) _
      refine X771.iaload hx (j := (0 : Int32)) (v := (.int (2 : Int32))) (by rw [e771]; exact Ar778.1) (State.isArrayOf_alike hZ.alike Ar778.2.1) Ar778.2.2 hin778 hat778 (g := (mkF m 18 #[vR a1, vR ra, vR ta, vI 0] [(.int (0 : Int32)), (.ref ta), (.ref rB)])) rfl rfl (hb hby d10_18) _ ?_
      refine XS.bipush X771.here hx rfl (hb hby d10_19) ?_
      show Steps p.tables e below (T771.setTop (mkF m 21 #[vR a1, vR ra, vR ta, vI 0] [(.int (64 : Int32)), (.int (2 : Int32)), (.ref rB)])) _
      refine XS.idiv X771.here hx rfl (hb hby d10_21) rfl (by decide) ?_
      rw [(by decide : ((2 : Int32) / (64 : Int32)) = (0 : Int32))]
      refine XT.dup2 X771.here hx rfl (hb hby d10_22) rfl rfl rfl ?_
      exact h)
  obtain ⟨cl780, Ar780, q780, Sz780, Ng780, Hs780, G780⟩ := id VB
  have hin780 : ¬ ((0 : Int32) < 0 ∨ cl780.slots.size ≤ ((0 : Int32)).toNatClampNeg) := inb_of Sz780 ⟨by decide, by decide⟩
  have hat780 : cl780.slots[((0 : Int32)).toNatClampNeg]? = some (.long vv) := Hs780.at hin780 (rfl)
  have k783 : Rch p e below S0 T771 (mkF m 27 #[vR a1, vR ra, vR ta, vI 0] [(.int (0 : Int32)), (.ref ta), (.long (1 : Int64)), (.long vv), (.int (0 : Int32)), (.ref rB)]) := fun t h => k781 t (by
      show Steps p.tables e below (T771.setTop (mkF m 23 #[vR a1, vR ra, vR ta, vI 0] [(.int (0 : Int32)), (.ref rB), (.int (0 : Int32)), (.ref rB)])) _
      refine X771.laload hx (j := (0 : Int32)) (v := (.long vv)) (by rw [e771]; exact Ar780.1) (State.isArrayOf_alike hZ.alike Ar780.2.1) Ar780.2.2 hin780 hat780 (g := (mkF m 23 #[vR a1, vR ra, vR ta, vI 0] [(.int (0 : Int32)), (.ref rB), (.int (0 : Int32)), (.ref rB)])) rfl rfl (hb hby d10_23) _ ?_
      refine XS.lconst X771.here hx rfl (hb hby d10_24) ?_
      refine XS.aloadN X771.here hx rfl (hb hby d10_25) rfl rfl ?_
      refine XS.iloadN X771.here hx rfl (hb hby d10_26) rfl ?_
      exact h)
  obtain ⟨cl782, Ar782, q782, Sz782, Ng782, Hs782, G782⟩ := id VT
  have hin782 : ¬ ((0 : Int32) < 0 ∨ cl782.slots.size ≤ ((0 : Int32)).toNatClampNeg) := inb_of Sz782 ⟨by decide, by decide⟩
  have hat782 : cl782.slots[((0 : Int32)).toNatClampNeg]? = some (.int (2 : Int32)) := Hs782.at hin782 (rfl)
  have k785 : Rch p e below S0 T771 (mkF m 34 #[vR a1, vR ra, vR ta, vI 0] [(.long (vv &&& (-5 : Int64))), (.int (0 : Int32)), (.ref rB)]) := fun t h => k783 t (by
      show Steps p.tables e below (T771.setTop (mkF m 27 #[vR a1, vR ra, vR ta, vI 0] [(.int (0 : Int32)), (.ref ta), (.long (1 : Int64)), (.long vv), (.int (0 : Int32)), (.ref rB)])) _
      refine X771.iaload hx (j := (0 : Int32)) (v := (.int (2 : Int32))) (by rw [e771]; exact Ar782.1) (State.isArrayOf_alike hZ.alike Ar782.2.1) Ar782.2.2 hin782 hat782 (g := (mkF m 27 #[vR a1, vR ra, vR ta, vI 0] [(.int (0 : Int32)), (.ref ta), (.long (1 : Int64)), (.long vv), (.int (0 : Int32)), (.ref rB)])) rfl rfl (hb hby d10_27) _ ?_
      show Steps p.tables e below (T771.setTop (mkF m 28 #[vR a1, vR ra, vR ta, vI 0] [(.int (2 : Int32)), (.long (1 : Int64)), (.long vv), (.int (0 : Int32)), (.ref rB)])) _
      refine XS.lshl X771.here hx rfl (hb hby d10_28) rfl ?_
      rw [(by decide : ((1 : Int64) <<< ((2 : Int32) &&& 0x3f).toInt64) = (4 : Int64))]
      refine X771.ldc2Long hx hown (mvT hZ (hw _ (gm 37 rfl))) (g := (mkF m 29 #[vR a1, vR ra, vR ta, vI 0] [(.long (4 : Int64)), (.long vv), (.int (0 : Int32)), (.ref rB)])) rfl (hb hby d10_29) _ ?_
      show Steps p.tables e below (T771.setTop (mkF m 32 #[vR a1, vR ra, vR ta, vI 0] [(.long (-1 : Int64)), (.long (4 : Int64)), (.long vv), (.int (0 : Int32)), (.ref rB)])) _
      refine XS.lxor X771.here hx rfl (hb hby d10_32) rfl ?_
      rw [(by decide : ((4 : Int64) ^^^ (-1 : Int64)) = (-5 : Int64))]
      refine XS.land X771.here hx rfl (hb hby d10_33) rfl ?_
      exact h)
  obtain ⟨cl784, Ar784, q784, Sz784, Ng784, Hs784, G784⟩ := id VB
  have hin784 : ¬ ((0 : Int32) < 0 ∨ cl784.slots.size ≤ ((0 : Int32)).toNatClampNeg) := inb_of Sz784 ⟨by decide, by decide⟩
  obtain ⟨T784, h784, X784, e784, W784, st784⟩ := stJ X771 hx hZ e771 Ar784 (j := (0 : Int32)) hin784 (g := (mkF m 34 #[vR a1, vR ra, vR ta, vI 0] [(.long (vv &&& (-5 : Int64))), (.int (0 : Int32)), (.ref rB)])) rfl rfl (hb hby d10_34)
  have k786 : Rch p e below S0 T784 (mkF m 35 #[vR a1, vR ra, vR ta, vI 0] []) := fun t h => k785 t (st784 t h)
  have N784 := Fr.snoc X784 N0 ge_rB
  have VB' := Arv.set Ar784 q784 Sz784 Ng784 Hs784 G784 rfl W784 0 rfl (Nat.le_of_ble_eq_true rfl)
  replace VB : Arv Z h784 rB kL .long (1 : Int32) [(.long (vv &&& (-5 : Int64)))] (.long (0 : Int64)) := VB'
  have O787 := O0.wr W784 ge_rB
  have K788 := K0.wr W784 (Or.inl (gm 1 rfl))
  replace Fh := Fh.other W784 (Or.inl ne_a1_rB)
  replace VH := VH.other W784 ne_aH_rB
  replace VA := VA.other W784 ne_rA_rB
  replace VR := VR.other W784 ne_ra_rB
  replace VT := VT.other W784 ne_ta_rB
  have k790 : Rch p e below S0 T784 (mkF m 4 #[vR a1, vR ra, vR ta, vI 1] [(.ref ra), (.int (1 : Int32))]) := fun t h => k786 t (by
      show Steps p.tables e below (T784.setTop (mkF m 35 #[vR a1, vR ra, vR ta, vI 0] [])) _
      refine XS.iinc X784.here hx rfl (hb hby d10_35) rfl (l' := #[vR a1, vR ra, vR ta, vI ((0 : Int32) + (1 : Int32))]) rfl ?_
      rw [(by decide : ((0 : Int32) + (1 : Int32)) = (1 : Int32))]
      refine XS.goto X784.here hx rfl (pc0 := 38) (pc' := 2) rfl (hb hby d10_38) (by decide) (by decide) ?_
      refine XS.iloadN X784.here hx rfl (hb hby d10_2) rfl ?_
      refine XS.aloadN X784.here hx rfl (hb hby d10_3) rfl rfl ?_
      exact h)
  obtain ⟨cl789, Ar789, q789, Sz789, Ng789, Hs789, G789⟩ := id VR
  have k792 : Rch p e below S0 T784 (mkF m 9 #[vR a1, vR ra, vR ta, vI 1] [(.ref a1)]) := fun t h => k790 t (by
      show Steps p.tables e below (T784.setTop (mkF m 4 #[vR a1, vR ra, vR ta, vI 1] [(.ref ra), (.int (1 : Int32))])) _
      refine X784.arraylength hx (by rw [e784]; exact Ar789.1) (State.isArrayOf_alike hZ.alike Ar789.2.1) (g := (mkF m 4 #[vR a1, vR ra, vR ta, vI 1] [(.ref ra), (.int (1 : Int32))])) rfl rfl (hb hby d10_4) _ ?_
      rw [len_of Sz789 Ng789]
      refine XS.icmpNo X784.here hx rfl (hb hby d10_5) rfl (tlt (by decide : (1 : Int32) < (2 : Int32))).2.1 ?_
      refine XS.aloadN X784.here hx rfl (hb hby d10_8) rfl rfl ?_
      exact h)
  obtain ⟨T791, X791, e791, st791⟩ := getF X784 hx hZ hown (host := "") (Or.inl (hw _ (gm 22 rfl))) Via.refl e784 Fh (g := (mkF m 9 #[vR a1, vR ra, vR ta, vI 1] [(.ref a1)])) rfl rfl (hb hby d10_9)
  have k793 : Rch p e below S0 T791 (mkF m 12 #[vR a1, vR ra, vR ta, vI 1] [(.ref aH)]) := fun t h => k792 t (st791 t h)
  have k795 : Rch p e below S0 T791 (mkF m 14 #[vR a1, vR ra, vR ta, vI 1] [(.int (1 : Int32)), (.ref ra), (.ref aH)]) := fun t h => k793 t (by
      show Steps p.tables e below (T791.setTop (mkF m 12 #[vR a1, vR ra, vR ta, vI 1] [(.ref aH)])) _
      refine XS.aloadN X791.here hx rfl (hb hby d10_12) rfl rfl ?_
      refine XS.iloadN X791.here hx rfl (hb hby d10_13) rfl ?_
      exact h)
  obtain ⟨cl794, Ar794, q794, Sz794, Ng794, Hs794, G794⟩ := id VR
  have hin794 : ¬ ((1 : Int32) < 0 ∨ cl794.slots.size ≤ ((1 : Int32)).toNatClampNeg) := inb_of Sz794 ⟨by decide, by decide⟩
  have hat794 : cl794.slots[((1 : Int32)).toNatClampNeg]? = some (.int (0 : Int32)) := Hs794.at hin794 (rfl)
  have k797 : Rch p e below S0 T791 (mkF m 15 #[vR a1, vR ra, vR ta, vI 1] [(.int (0 : Int32)), (.ref aH)]) := fun t h => k795 t (by
      show Steps p.tables e below (T791.setTop (mkF m 14 #[vR a1, vR ra, vR ta, vI 1] [(.int (1 : Int32)), (.ref ra), (.ref aH)])) _
      refine X791.iaload hx (j := (1 : Int32)) (v := (.int (0 : Int32))) (by rw [e791]; exact Ar794.1) (State.isArrayOf_alike hZ.alike Ar794.2.1) Ar794.2.2 hin794 hat794 (g := (mkF m 14 #[vR a1, vR ra, vR ta, vI 1] [(.int (1 : Int32)), (.ref ra), (.ref aH)])) rfl rfl (hb hby d10_14) _ ?_
      exact h)
  obtain ⟨cl796, Ar796, q796, Sz796, Ng796, Hs796, G796⟩ := id VH
  have hin796 : ¬ ((0 : Int32) < 0 ∨ cl796.slots.size ≤ ((0 : Int32)).toNatClampNeg) := inb_of Sz796 ⟨by decide, by decide⟩
  have hat796 : cl796.slots[((0 : Int32)).toNatClampNeg]? = some (.ref rA) := Hs796.at hin796 (rfl)
  have k799 : Rch p e below S0 T791 (mkF m 18 #[vR a1, vR ra, vR ta, vI 1] [(.int (1 : Int32)), (.ref ta), (.ref rA)]) := fun t h => k797 t (by
      show Steps p.tables e below (T791.setTop (mkF m 15 #[vR a1, vR ra, vR ta, vI 1] [(.int (0 : Int32)), (.ref aH)])) _
      refine X791.aaload hx (j := (0 : Int32)) (v := (.ref rA)) (by rw [e791]; exact Ar796.1) (State.isArrayOf_alike hZ.alike Ar796.2.1) rfl Ar796.2.2 hin796 hat796 (g := (mkF m 15 #[vR a1, vR ra, vR ta, vI 1] [(.int (0 : Int32)), (.ref aH)])) rfl rfl (hb hby d10_15) _ ?_
      refine XS.aloadN X791.here hx rfl (hb hby d10_16) rfl rfl ?_
      refine XS.iloadN X791.here hx rfl (hb hby d10_17) rfl ?_
      exact h)
  obtain ⟨cl798, Ar798, q798, Sz798, Ng798, Hs798, G798⟩ := id VT
  have hin798 : ¬ ((1 : Int32) < 0 ∨ cl798.slots.size ≤ ((1 : Int32)).toNatClampNeg) := inb_of Sz798 ⟨by decide, by decide⟩
  have hat798 : cl798.slots[((1 : Int32)).toNatClampNeg]? = some (.int (2 : Int32)) := Hs798.at hin798 (rfl)
  have k801 : Rch p e below S0 T791 (mkF m 23 #[vR a1, vR ra, vR ta, vI 1] [(.int (0 : Int32)), (.ref rA), (.int (0 : Int32)), (.ref rA)]) := fun t h => k799 t (by
      show Steps p.tables e below (T791.setTop (mkF m 18 #[vR a1, vR ra, vR ta, vI 1] [(.int (1 : Int32)), (.ref ta), (.ref rA)])) _
      refine X791.iaload hx (j := (1 : Int32)) (v := (.int (2 : Int32))) (by rw [e791]; exact Ar798.1) (State.isArrayOf_alike hZ.alike Ar798.2.1) Ar798.2.2 hin798 hat798 (g := (mkF m 18 #[vR a1, vR ra, vR ta, vI 1] [(.int (1 : Int32)), (.ref ta), (.ref rA)])) rfl rfl (hb hby d10_18) _ ?_
      refine XS.bipush X791.here hx rfl (hb hby d10_19) ?_
      show Steps p.tables e below (T791.setTop (mkF m 21 #[vR a1, vR ra, vR ta, vI 1] [(.int (64 : Int32)), (.int (2 : Int32)), (.ref rA)])) _
      refine XS.idiv X791.here hx rfl (hb hby d10_21) rfl (by decide) ?_
      rw [(by decide : ((2 : Int32) / (64 : Int32)) = (0 : Int32))]
      refine XT.dup2 X791.here hx rfl (hb hby d10_22) rfl rfl rfl ?_
      exact h)
  obtain ⟨cl800, Ar800, q800, Sz800, Ng800, Hs800, G800⟩ := id VA
  have hin800 : ¬ ((0 : Int32) < 0 ∨ cl800.slots.size ≤ ((0 : Int32)).toNatClampNeg) := inb_of Sz800 ⟨by decide, by decide⟩
  have hat800 : cl800.slots[((0 : Int32)).toNatClampNeg]? = some (.long u) := Hs800.at hin800 (rfl)
  have k803 : Rch p e below S0 T791 (mkF m 27 #[vR a1, vR ra, vR ta, vI 1] [(.int (1 : Int32)), (.ref ta), (.long (1 : Int64)), (.long u), (.int (0 : Int32)), (.ref rA)]) := fun t h => k801 t (by
      show Steps p.tables e below (T791.setTop (mkF m 23 #[vR a1, vR ra, vR ta, vI 1] [(.int (0 : Int32)), (.ref rA), (.int (0 : Int32)), (.ref rA)])) _
      refine X791.laload hx (j := (0 : Int32)) (v := (.long u)) (by rw [e791]; exact Ar800.1) (State.isArrayOf_alike hZ.alike Ar800.2.1) Ar800.2.2 hin800 hat800 (g := (mkF m 23 #[vR a1, vR ra, vR ta, vI 1] [(.int (0 : Int32)), (.ref rA), (.int (0 : Int32)), (.ref rA)])) rfl rfl (hb hby d10_23) _ ?_
      refine XS.lconst X791.here hx rfl (hb hby d10_24) ?_
      refine XS.aloadN X791.here hx rfl (hb hby d10_25) rfl rfl ?_
      refine XS.iloadN X791.here hx rfl (hb hby d10_26) rfl ?_
      exact h)
  obtain ⟨cl802, Ar802, q802, Sz802, Ng802, Hs802, G802⟩ := id VT
  have hin802 : ¬ ((1 : Int32) < 0 ∨ cl802.slots.size ≤ ((1 : Int32)).toNatClampNeg) := inb_of Sz802 ⟨by decide, by decide⟩
  have hat802 : cl802.slots[((1 : Int32)).toNatClampNeg]? = some (.int (2 : Int32)) := Hs802.at hin802 (rfl)
  have k805 : Rch p e below S0 T791 (mkF m 34 #[vR a1, vR ra, vR ta, vI 1] [(.long (u &&& (-5 : Int64))), (.int (0 : Int32)), (.ref rA)]) := fun t h => k803 t (by
      show Steps p.tables e below (T791.setTop (mkF m 27 #[vR a1, vR ra, vR ta, vI 1] [(.int (1 : Int32)), (.ref ta), (.long (1 : Int64)), (.long u), (.int (0 : Int32)), (.ref rA)])) _
      refine X791.iaload hx (j := (1 : Int32)) (v := (.int (2 : Int32))) (by rw [e791]; exact Ar802.1) (State.isArrayOf_alike hZ.alike Ar802.2.1) Ar802.2.2 hin802 hat802 (g := (mkF m 27 #[vR a1, vR ra, vR ta, vI 1] [(.int (1 : Int32)), (.ref ta), (.long (1 : Int64)), (.long u), (.int (0 : Int32)), (.ref rA)])) rfl rfl (hb hby d10_27) _ ?_
      show Steps p.tables e below (T791.setTop (mkF m 28 #[vR a1, vR ra, vR ta, vI 1] [(.int (2 : Int32)), (.long (1 : Int64)), (.long u), (.int (0 : Int32)), (.ref rA)])) _
      refine XS.lshl X791.here hx rfl (hb hby d10_28) rfl ?_
      rw [(by decide : ((1 : Int64) <<< ((2 : Int32) &&& 0x3f).toInt64) = (4 : Int64))]
      refine X791.ldc2Long hx hown (mvT hZ (hw _ (gm 37 rfl))) (g := (mkF m 29 #[vR a1, vR ra, vR ta, vI 1] [(.long (4 : Int64)), (.long u), (.int (0 : Int32)), (.ref rA)])) rfl (hb hby d10_29) _ ?_
      show Steps p.tables e below (T791.setTop (mkF m 32 #[vR a1, vR ra, vR ta, vI 1] [(.long (-1 : Int64)), (.long (4 : Int64)), (.long u), (.int (0 : Int32)), (.ref rA)])) _
      refine XS.lxor X791.here hx rfl (hb hby d10_32) rfl ?_
      rw [(by decide : ((4 : Int64) ^^^ (-1 : Int64)) = (-5 : Int64))]
      refine XS.land X791.here hx rfl (hb hby d10_33) rfl ?_
      exact h)
  obtain ⟨cl804, Ar804, q804, Sz804, Ng804, Hs804, G804⟩ := id VA
  have hin804 : ¬ ((0 : Int32) < 0 ∨ cl804.slots.size ≤ ((0 : Int32)).toNatClampNeg) := inb_of Sz804 ⟨by decide, by decide⟩
  obtain ⟨T804, h804, X804, e804, W804, st804⟩ := stJ X791 hx hZ e791 Ar804 (j := (0 : Int32)) hin804 (g := (mkF m 34 #[vR a1, vR ra, vR ta, vI 1] [(.long (u &&& (-5 : Int64))), (.int (0 : Int32)), (.ref rA)])) rfl rfl (hb hby d10_34)
  have k806 : Rch p e below S0 T804 (mkF m 35 #[vR a1, vR ra, vR ta, vI 1] []) := fun t h => k805 t (st804 t h)
  have N804 := Fr.snoc X804 N784 ge_rA
  have VA' := Arv.set Ar804 q804 Sz804 Ng804 Hs804 G804 rfl W804 0 rfl (Nat.le_of_ble_eq_true rfl)
  replace VA : Arv Z h804 rA kL .long (1 : Int32) [(.long (u &&& (-5 : Int64)))] (.long (0 : Int64)) := VA'
  have O807 := O787.wr W804 ge_rA
  have K808 := K788.wr W804 (Or.inl (gm 0 rfl))
  replace Fh := Fh.other W804 (Or.inl ne_a1_rA)
  replace VH := VH.other W804 ne_aH_rA
  replace VB := VB.other W804 (Ne.symm ne_rA_rB)
  replace VR := VR.other W804 ne_ra_rA
  replace VT := VT.other W804 ne_ta_rA
  have k810 : Rch p e below S0 T804 (mkF m 4 #[vR a1, vR ra, vR ta, vI 2] [(.ref ra), (.int (2 : Int32))]) := fun t h => k806 t (by
      show Steps p.tables e below (T804.setTop (mkF m 35 #[vR a1, vR ra, vR ta, vI 1] [])) _
      refine XS.iinc X804.here hx rfl (hb hby d10_35) rfl (l' := #[vR a1, vR ra, vR ta, vI ((1 : Int32) + (1 : Int32))]) rfl ?_
      rw [(by decide : ((1 : Int32) + (1 : Int32)) = (2 : Int32))]
      refine XS.goto X804.here hx rfl (pc0 := 38) (pc' := 2) rfl (hb hby d10_38) (by decide) (by decide) ?_
      refine XS.iloadN X804.here hx rfl (hb hby d10_2) rfl ?_
      refine XS.aloadN X804.here hx rfl (hb hby d10_3) rfl rfl ?_
      exact h)
  obtain ⟨cl809, Ar809, q809, Sz809, Ng809, Hs809, G809⟩ := id VR
  have k811 : Rch p e below S0 T804 (mkF m 41 #[vR a1, vR ra, vR ta, vI 2] []) := fun t h => k810 t (by
      show Steps p.tables e below (T804.setTop (mkF m 4 #[vR a1, vR ra, vR ta, vI 2] [(.ref ra), (.int (2 : Int32))])) _
      refine X804.arraylength hx (by rw [e804]; exact Ar809.1) (State.isArrayOf_alike hZ.alike Ar809.2.1) (g := (mkF m 4 #[vR a1, vR ra, vR ta, vI 2] [(.ref ra), (.int (2 : Int32))])) rfl rfl (hb hby d10_4) _ ?_
      rw [len_of Sz809 Ng809]
      refine XS.icmpYes X804.here hx rfl (pc0 := 5) (pc' := 41) rfl (hb hby d10_5) rfl (flt (by decide : ¬ ((2 : Int32) < (2 : Int32)))).2.1 (by decide) (by decide) ?_
      exact h)
  obtain ⟨fs, hr, hrun, hended, hW, hsame⟩ := X804.leave (v := none) (fun _ => rfl)
  refine ⟨_, _, ?_, hrun, hended, _, _, rfl, ?_, ⟨_, rfl⟩, hW, hsame.mono (by decide) (by decide)⟩
  · rw [← hS0]
    refine k811 _ ?_
    show Steps p.tables e below (T804.setTop (mkF m 41 #[vR a1, vR ra, vR ta, vI 2] [])) _
    exact X804.returnOut hx Bd.returns (hb hby d10_41) hr
  · show Q_rmE_4f Z rA rB kL u vv h0 n0 _ T804.heap _
    rw [e804]
    exact ⟨rfl, N804, K808, VA, VB⟩
def Q_rmMX (Z : State) (cn : Int32) (h0 : Heap) (n0 : Nat) (v : Option Value) (h : Heap) (L : List Loc) : Prop := v = some (.int cn) ∧ Fr n0 L ∧ h = h0
theorem ef_1 (m : MethodId) (x0 : Int32) (x1 : Int32) : entryFrame m #[(.int x0), (.int x1)] 2 = mkF m 0 #[.val (.int x0), .val (.int x1)] [] := by first | (simp [entryFrame, mkF, argsToLocals, Value.category]; done) | rfl
theorem d1_0 : decode jdk_29_method_65_code 0 = .ok (.iload_n 0, 1) := by decide +kernel
theorem d1_1 : decode jdk_29_method_65_code 1 = .ok (.iload_n 1, 1) := by decide +kernel
theorem d1_2 : decode jdk_29_method_65_code 2 = .ok (.if_icmp .lt 7, 3) := by decide +kernel
theorem d1_5 : decode jdk_29_method_65_code 5 = .ok (.iload_n 0, 1) := by decide +kernel
theorem d1_6 : decode jdk_29_method_65_code 6 = .ok (.goto 4, 3) := by decide +kernel
theorem d1_10 : decode jdk_29_method_65_code 10 = .ok (.ireturn, 1) := by decide +kernel
theorem d1_9 : decode jdk_29_method_65_code 9 = .ok (.iload_n 1, 1) := by decide +kernel
set_option maxRecDepth 65536 in
set_option maxHeartbeats 40000000 in
theorem rmMX (l : Launch) (Z : State) (a0 : Array Value) (hw : ∀ d ∈ tables_1, d.before a0 Z = true) (ws : List Jvm.Cond) (p1 : Int32) (cn : Int32) (h0 : Heap) (n0 : Nat) (O0 : Old Z n0 h0) (hm : (¬ (3 : Int32) < p1 ∧ cn = 3) ∨ ((3 : Int32) < p1 ∧ cn = p1)) :
    MetFree l (⟨"java/lang/Math", "max", "(II)I"⟩ : MethodName) (head1 (Jvm.Cond.code (⟨"java/lang/Math", "max", "(II)I"⟩ : MethodName) jdk_29_method_65_code 2 (some .int) :: ws) ({ frames := 0, cells := 0, slots := 0, locals := 0 } : Room)) (fun a U => a = #[(.int (3 : Int32)), (.int p1)] ∧ Z.Warmed39 U.vm ∧ U.heap = h0) (fun _ _ _ _ _ => True) (fun _ U o U' => ∃ v L, o = .returned v ∧ Q_rmMX Z cn h0 n0 v U'.heap L ∧ FrameEnd U o U' L ({ frames := 0, cells := 0, slots := 0, locals := 0 } : Room).cells ({ frames := 0, cells := 0, slots := 0, locals := 0 } : Room).slots) := by
  refine MetFree.of_bodySF (Jvm.Free.JP.mathPlain rfl (by decide +kernel)) hisR ?_
  intro p e s m args below meth c s₁ Bd hml0 hP hK
  obtain ⟨rfl, hZ, hh⟩ := hP
  have hx := Bd.exec
  have hby := Bd.bytes
  have hml : c.maxLocals = 2 := hml0
  have hown : s.vm.findClass "java/lang/Math" = some m.cls := findClass_of_methodNamed Bd.named
  have hnm := (name_of_methodNamed Bd.named Bd.method).1
  have X0 : Stand p l e ({ frames := 0, cells := 0, slots := 0, locals := 0 } : Room) s m #[(.int (3 : Int32)), (.int p1)] below meth c s₁ [] 0 0 := Stand.of_body Bd
  have e0 : s₁.heap = h0 := by rw [← hh, Bd.state]; rfl
  have N0 := Fr.nil n0
  obtain ⟨S0, hS0⟩ : ∃ z, z = s₁.setTop (entryFrame m #[(.int (3 : Int32)), (.int p1)] 2) := ⟨_, rfl⟩
  have k0 : Rch p e below S0 s₁ (mkF m 0 #[vI 3, vI p1] []) := fun t kq => hS0 ▸ castTop (ef_1 m (3 : Int32) p1) kq
  rcases hm with hm | hm
  · have k812 : Rch p e below S0 s₁ (mkF m 10 #[vI 3, vI p1] [(.int (3 : Int32))]) := fun t h => k0 t (by
        show Steps p.tables e below (s₁.setTop (mkF m 0 #[vI 3, vI p1] [])) _
        refine XS.iloadN X0.here hx rfl (hb hby d1_0) rfl ?_
        refine XS.iloadN X0.here hx rfl (hb hby d1_1) rfl ?_
        refine XS.icmpNo X0.here hx rfl (hb hby d1_2) rfl (flt (hm.1 : ¬ ((3 : Int32) < p1))).1 ?_
        refine XS.iloadN X0.here hx rfl (hb hby d1_5) rfl ?_
        refine XS.goto X0.here hx rfl (pc0 := 6) (pc' := 10) rfl (hb hby d1_6) (by decide) (by decide) ?_
        exact h)
    obtain ⟨fs, hr, hrun, hended, hW, hsame⟩ := X0.leave (v := (some (.int (3 : Int32)))) (fun h => by rw [Bd.returns] at h; cases h)
    refine ⟨_, _, ?_, hrun, hended, _, _, rfl, ?_, ⟨_, rfl⟩, hW, hsame.mono (by decide) (by decide)⟩
    · rw [← hS0]
      refine k812 _ ?_
      show Steps p.tables e below (s₁.setTop (mkF m 10 #[vI 3, vI p1] [(.int (3 : Int32))])) _
      exact retI X0 hx Bd.returns (hb hby d1_10) hr
    · show Q_rmMX Z cn h0 n0 _ s₁.heap _
      rw [e0]
      exact ⟨by rw [hm.2], N0, rfl⟩
  · have k813 : Rch p e below S0 s₁ (mkF m 10 #[vI 3, vI p1] [(.int p1)]) := fun t h => k0 t (by
        show Steps p.tables e below (s₁.setTop (mkF m 0 #[vI 3, vI p1] [])) _
        refine XS.iloadN X0.here hx rfl (hb hby d1_0) rfl ?_
        refine XS.iloadN X0.here hx rfl (hb hby d1_1) rfl ?_
        refine XS.icmpYes X0.here hx rfl (pc0 := 2) (pc' := 9) rfl (hb hby d1_2) rfl (tlt (hm.1 : (3 : Int32) < p1)).1 (by decide) (by decide) ?_
        refine XS.iloadN X0.here hx rfl (hb hby d1_9) rfl ?_
        exact h)
    obtain ⟨fs, hr, hrun, hended, hW, hsame⟩ := X0.leave (v := (some (.int p1))) (fun h => by rw [Bd.returns] at h; cases h)
    refine ⟨_, _, ?_, hrun, hended, _, _, rfl, ?_, ⟨_, rfl⟩, hW, hsame.mono (by decide) (by decide)⟩
    · rw [← hS0]
      refine k813 _ ?_
      show Steps p.tables e below (s₁.setTop (mkF m 10 #[vI 3, vI p1] [(.int p1)])) _
      exact retI X0 hx Bd.returns (hb hby d1_10) hr
    · show Q_rmMX Z cn h0 n0 _ s₁.heap _
      rw [e0]
      exact ⟨by rw [hm.2], N0, rfl⟩
def Q_rmLW (Z : State) (lo : Int32) (h0 : Heap) (n0 : Nat) (v : Option Value) (h : Heap) (L : List Loc) : Prop := v = some (.int lo) ∧ Fr n0 L ∧ h = h0
theorem ef_11 (m : MethodId) (x0 : Int32) (x1 : Int32) (x2 : Int32) (x3 : Int32) : entryFrame m #[(.int x0), (.int x1), (.int x2), (.int x3)] 5 = mkF m 0 #[.val (.int x0), .val (.int x1), .val (.int x2), .val (.int x3), .unset] [] := by first | (simp [entryFrame, mkF, argsToLocals, Value.category]; done) | rfl
theorem pn_WavelengthsReleasePinLaw : plainName "com/example/lumenplan/lumenplan/simulation/WavelengthsReleasePinLaw" = true := by first | (simp [plainName, overriddenIn]; done) | decide +kernel
theorem d11_0 : decode method_3_code 0 = .ok (.iload_n 0, 1) := by decide +kernel
theorem d11_1 : decode method_3_code 1 = .ok (.ifCond .eq 9, 3) := by decide +kernel
theorem d11_4 : decode method_3_code 4 = .ok (.iconst 0, 1) := by decide +kernel
theorem d11_5 : decode method_3_code 5 = .ok (.istore 4, 2) := by decide +kernel
theorem d11_7 : decode method_3_code 7 = .ok (.goto 26, 3) := by decide +kernel
theorem d11_33 : decode method_3_code 33 = .ok (.iload 4, 2) := by decide +kernel
theorem d11_35 : decode method_3_code 35 = .ok (.iload_n 3, 1) := by decide +kernel
theorem d11_36 : decode method_3_code 36 = .ok (.if_icmp .ge 8, 3) := by decide +kernel
theorem d11_39 : decode method_3_code 39 = .ok (.iload 4, 2) := by decide +kernel
theorem d11_41 : decode method_3_code 41 = .ok (.goto 4, 3) := by decide +kernel
theorem d11_45 : decode method_3_code 45 = .ok (.ireturn, 1) := by decide +kernel
theorem d11_44 : decode method_3_code 44 = .ok (.iconst (-1), 1) := by decide +kernel
theorem d11_10 : decode method_3_code 10 = .ok (.iload_n 1, 1) := by decide +kernel
theorem d11_11 : decode method_3_code 11 = .ok (.ifCond .eq 9, 3) := by decide +kernel
theorem d11_14 : decode method_3_code 14 = .ok (.iconst 1, 1) := by decide +kernel
theorem d11_15 : decode method_3_code 15 = .ok (.istore 4, 2) := by decide +kernel
theorem d11_17 : decode method_3_code 17 = .ok (.goto 16, 3) := by decide +kernel
theorem d11_20 : decode method_3_code 20 = .ok (.iload_n 2, 1) := by decide +kernel
theorem d11_21 : decode method_3_code 21 = .ok (.ifCond .eq 9, 3) := by decide +kernel
theorem d11_24 : decode method_3_code 24 = .ok (.iconst 2, 1) := by decide +kernel
theorem d11_25 : decode method_3_code 25 = .ok (.istore 4, 2) := by decide +kernel
theorem d11_27 : decode method_3_code 27 = .ok (.goto 6, 3) := by decide +kernel
theorem d11_30 : decode method_3_code 30 = .ok (.iconst 3, 1) := by decide +kernel
theorem d11_31 : decode method_3_code 31 = .ok (.istore 4, 2) := by decide +kernel
set_option maxRecDepth 65536 in
set_option maxHeartbeats 40000000 in
theorem rmLW (l : Launch) (Z : State) (a0 : Array Value) (hw : ∀ d ∈ tables_1, d.before a0 Z = true) (ws : List Jvm.Cond) (bx : Int32) (by_ : Int32) (bz : Int32) (cn : Int32) (r : Int32) (lo : Int32) (h0 : Heap) (n0 : Nat) (O0 : Old Z n0 h0) (hL : LW bx by_ bz r) (hl : (r < cn ∧ lo = r) ∨ (¬ r < cn ∧ lo = (-1 : Int32))) :
    MetFree l (⟨"com/example/lumenplan/lumenplan/simulation/WavelengthsReleasePinLaw", "lowest", "(ZZZI)I"⟩ : MethodName) (head1 (Jvm.Cond.code (⟨"com/example/lumenplan/lumenplan/simulation/WavelengthsReleasePinLaw", "lowest", "(ZZZI)I"⟩ : MethodName) method_3_code 5 (some .int) :: ws) ({ frames := 0, cells := 0, slots := 0, locals := 0 } : Room)) (fun a U => a = #[(.int bx), (.int by_), (.int bz), (.int cn)] ∧ Z.Warmed39 U.vm ∧ U.heap = h0) (fun _ _ _ _ _ => True) (fun _ U o U' => ∃ v L, o = .returned v ∧ Q_rmLW Z lo h0 n0 v U'.heap L ∧ FrameEnd U o U' L ({ frames := 0, cells := 0, slots := 0, locals := 0 } : Room).cells ({ frames := 0, cells := 0, slots := 0, locals := 0 } : Room).slots) := by
  refine MetFree.of_bodySF (plainFor_of_name pn_WavelengthsReleasePinLaw) hisR ?_
  intro p e s m args below meth c s₁ Bd hml0 hP hK
  obtain ⟨rfl, hZ, hh⟩ := hP
  have hx := Bd.exec
  have hby := Bd.bytes
  have hml : c.maxLocals = 5 := hml0
  have hown : s.vm.findClass "com/example/lumenplan/lumenplan/simulation/WavelengthsReleasePinLaw" = some m.cls := findClass_of_methodNamed Bd.named
  have hnm := (name_of_methodNamed Bd.named Bd.method).1
  have X0 : Stand p l e ({ frames := 0, cells := 0, slots := 0, locals := 0 } : Room) s m #[(.int bx), (.int by_), (.int bz), (.int cn)] below meth c s₁ [] 0 0 := Stand.of_body Bd
  have e0 : s₁.heap = h0 := by rw [← hh, Bd.state]; rfl
  have N0 := Fr.nil n0
  obtain ⟨S0, hS0⟩ : ∃ z, z = s₁.setTop (entryFrame m #[(.int bx), (.int by_), (.int bz), (.int cn)] 5) := ⟨_, rfl⟩
  have k0 : Rch p e below S0 s₁ (mkF m 0 #[vI bx, vI by_, vI bz, vI cn, vU] []) := fun t kq => hS0 ▸ castTop (ef_11 m bx by_ bz cn) kq
  rcases hL with ⟨hx1, hrr⟩ | ⟨hx1, hy1, hrr⟩ | ⟨hx1, hy1, hz1, hrr⟩ | ⟨hx1, hy1, hz1, hrr⟩
  · have k814 : Rch p e below S0 s₁ (mkF m 33 #[vI bx, vI by_, vI bz, vI cn, vI 0] []) := fun t h => k0 t (by
        show Steps p.tables e below (s₁.setTop (mkF m 0 #[vI bx, vI by_, vI bz, vI cn, vU] [])) _
        refine XS.iloadN X0.here hx rfl (hb hby d11_0) rfl ?_
        refine XS.ifNo X0.here hx rfl (hb hby d11_1) rfl ((if0 _ _).trans (feq ((by rw [hx1]; decide) : ¬ (bx = (0 : Int32)))).1) ?_
        refine XS.iconst X0.here hx rfl (hb hby d11_4) ?_
        refine XS.istore X0.here hx rfl (hb hby d11_5) rfl (l' := #[vI bx, vI by_, vI bz, vI cn, vI 0]) rfl ?_
        refine XS.goto X0.here hx rfl (pc0 := 7) (pc' := 33) rfl (hb hby d11_7) (by decide) (by decide) ?_
        exact h)
    rcases hl with hl | hl
    · have k815 : Rch p e below S0 s₁ (mkF m 45 #[vI bx, vI by_, vI bz, vI cn, vI 0] [(.int (0 : Int32))]) := fun t h => k814 t (by
          show Steps p.tables e below (s₁.setTop (mkF m 33 #[vI bx, vI by_, vI bz, vI cn, vI 0] [])) _
          refine XS.iload X0.here hx rfl (hb hby d11_33) rfl ?_
          refine XS.iloadN X0.here hx rfl (hb hby d11_35) rfl ?_
          refine XS.icmpNo X0.here hx rfl (hb hby d11_36) rfl (tlt ((by rw [← hrr]; exact hl.1) : (0 : Int32) < cn)).2.1 ?_
          refine XS.iload X0.here hx rfl (hb hby d11_39) rfl ?_
          refine XS.goto X0.here hx rfl (pc0 := 41) (pc' := 45) rfl (hb hby d11_41) (by decide) (by decide) ?_
          exact h)
      obtain ⟨fs, hr, hrun, hended, hW, hsame⟩ := X0.leave (v := (some (.int (0 : Int32)))) (fun h => by rw [Bd.returns] at h; cases h)
      refine ⟨_, _, ?_, hrun, hended, _, _, rfl, ?_, ⟨_, rfl⟩, hW, hsame.mono (by decide) (by decide)⟩
      · rw [← hS0]
        refine k815 _ ?_
        show Steps p.tables e below (s₁.setTop (mkF m 45 #[vI bx, vI by_, vI bz, vI cn, vI 0] [(.int (0 : Int32))])) _
        exact retI X0 hx Bd.returns (hb hby d11_45) hr
      · show Q_rmLW Z lo h0 n0 _ s₁.heap _
        rw [e0]
        exact ⟨by rw [hl.2, hrr], N0, rfl⟩
    · have k816 : Rch p e below S0 s₁ (mkF m 45 #[vI bx, vI by_, vI bz, vI cn, vI 0] [(.int (-1 : Int32))]) := fun t h => k814 t (by
          show Steps p.tables e below (s₁.setTop (mkF m 33 #[vI bx, vI by_, vI bz, vI cn, vI 0] [])) _
          refine XS.iload X0.here hx rfl (hb hby d11_33) rfl ?_
          refine XS.iloadN X0.here hx rfl (hb hby d11_35) rfl ?_
          refine XS.icmpYes X0.here hx rfl (pc0 := 36) (pc' := 44) rfl (hb hby d11_36) rfl (flt ((by rw [← hrr]; exact hl.1) : ¬ ((0 : Int32) < cn))).2.1 (by decide) (by decide) ?_
          refine XS.iconst X0.here hx rfl (hb hby d11_44) ?_
          exact h)
      obtain ⟨fs, hr, hrun, hended, hW, hsame⟩ := X0.leave (v := (some (.int (-1 : Int32)))) (fun h => by rw [Bd.returns] at h; cases h)
      refine ⟨_, _, ?_, hrun, hended, _, _, rfl, ?_, ⟨_, rfl⟩, hW, hsame.mono (by decide) (by decide)⟩
      · rw [← hS0]
        refine k816 _ ?_
        show Steps p.tables e below (s₁.setTop (mkF m 45 #[vI bx, vI by_, vI bz, vI cn, vI 0] [(.int (-1 : Int32))])) _
        exact retI X0 hx Bd.returns (hb hby d11_45) hr
      · show Q_rmLW Z lo h0 n0 _ s₁.heap _
        rw [e0]
        exact ⟨by rw [hl.2], N0, rfl⟩
  · have k817 : Rch p e below S0 s₁ (mkF m 33 #[vI bx, vI by_, vI bz, vI cn, vI 1] []) := fun t h => k0 t (by
        show Steps p.tables e below (s₁.setTop (mkF m 0 #[vI bx, vI by_, vI bz, vI cn, vU] [])) _
        refine XS.iloadN X0.here hx rfl (hb hby d11_0) rfl ?_
        refine XS.ifYes X0.here hx rfl (pc0 := 1) (pc' := 10) rfl (hb hby d11_1) rfl ((if0 _ _).trans (teq (hx1 : bx = (0 : Int32))).1) (by decide) (by decide) ?_
        refine XS.iloadN X0.here hx rfl (hb hby d11_10) rfl ?_
        refine XS.ifNo X0.here hx rfl (hb hby d11_11) rfl ((if0 _ _).trans (feq ((by rw [hy1]; decide) : ¬ (by_ = (0 : Int32)))).1) ?_
        refine XS.iconst X0.here hx rfl (hb hby d11_14) ?_
        refine XS.istore X0.here hx rfl (hb hby d11_15) rfl (l' := #[vI bx, vI by_, vI bz, vI cn, vI 1]) rfl ?_
        refine XS.goto X0.here hx rfl (pc0 := 17) (pc' := 33) rfl (hb hby d11_17) (by decide) (by decide) ?_
        exact h)
    rcases hl with hl | hl
    · have k818 : Rch p e below S0 s₁ (mkF m 45 #[vI bx, vI by_, vI bz, vI cn, vI 1] [(.int (1 : Int32))]) := fun t h => k817 t (by
          show Steps p.tables e below (s₁.setTop (mkF m 33 #[vI bx, vI by_, vI bz, vI cn, vI 1] [])) _
          refine XS.iload X0.here hx rfl (hb hby d11_33) rfl ?_
          refine XS.iloadN X0.here hx rfl (hb hby d11_35) rfl ?_
          refine XS.icmpNo X0.here hx rfl (hb hby d11_36) rfl (tlt ((by rw [← hrr]; exact hl.1) : (1 : Int32) < cn)).2.1 ?_
          refine XS.iload X0.here hx rfl (hb hby d11_39) rfl ?_
          refine XS.goto X0.here hx rfl (pc0 := 41) (pc' := 45) rfl (hb hby d11_41) (by decide) (by decide) ?_
          exact h)
      obtain ⟨fs, hr, hrun, hended, hW, hsame⟩ := X0.leave (v := (some (.int (1 : Int32)))) (fun h => by rw [Bd.returns] at h; cases h)
      refine ⟨_, _, ?_, hrun, hended, _, _, rfl, ?_, ⟨_, rfl⟩, hW, hsame.mono (by decide) (by decide)⟩
      · rw [← hS0]
        refine k818 _ ?_
        show Steps p.tables e below (s₁.setTop (mkF m 45 #[vI bx, vI by_, vI bz, vI cn, vI 1] [(.int (1 : Int32))])) _
        exact retI X0 hx Bd.returns (hb hby d11_45) hr
      · show Q_rmLW Z lo h0 n0 _ s₁.heap _
        rw [e0]
        exact ⟨by rw [hl.2, hrr], N0, rfl⟩
    · have k819 : Rch p e below S0 s₁ (mkF m 45 #[vI bx, vI by_, vI bz, vI cn, vI 1] [(.int (-1 : Int32))]) := fun t h => k817 t (by
          show Steps p.tables e below (s₁.setTop (mkF m 33 #[vI bx, vI by_, vI bz, vI cn, vI 1] [])) _
          refine XS.iload X0.here hx rfl (hb hby d11_33) rfl ?_
          refine XS.iloadN X0.here hx rfl (hb hby d11_35) rfl ?_
          refine XS.icmpYes X0.here hx rfl (pc0 := 36) (pc' := 44) rfl (hb hby d11_36) rfl (flt ((by rw [← hrr]; exact hl.1) : ¬ ((1 : Int32) < cn))).2.1 (by decide) (by decide) ?_
          refine XS.iconst X0.here hx rfl (hb hby d11_44) ?_
          exact h)
      obtain ⟨fs, hr, hrun, hended, hW, hsame⟩ := X0.leave (v := (some (.int (-1 : Int32)))) (fun h => by rw [Bd.returns] at h; cases h)
      refine ⟨_, _, ?_, hrun, hended, _, _, rfl, ?_, ⟨_, rfl⟩, hW, hsame.mono (by decide) (by decide)⟩
      · rw [← hS0]
        refine k819 _ ?_
        show Steps p.tables e below (s₁.setTop (mkF m 45 #[vI bx, vI by_, vI bz, vI cn, vI 1] [(.int (-1 : Int32))])) _
        exact retI X0 hx Bd.returns (hb hby d11_45) hr
      · show Q_rmLW Z lo h0 n0 _ s₁.heap _
        rw [e0]
        exact ⟨by rw [hl.2], N0, rfl⟩
  · have k820 : Rch p e below S0 s₁ (mkF m 33 #[vI bx, vI by_, vI bz, vI cn, vI 2] []) := fun t h => k0 t (by
        show Steps p.tables e below (s₁.setTop (mkF m 0 #[vI bx, vI by_, vI bz, vI cn, vU] [])) _
        refine XS.iloadN X0.here hx rfl (hb hby d11_0) rfl ?_
        refine XS.ifYes X0.here hx rfl (pc0 := 1) (pc' := 10) rfl (hb hby d11_1) rfl ((if0 _ _).trans (teq (hx1 : bx = (0 : Int32))).1) (by decide) (by decide) ?_
        refine XS.iloadN X0.here hx rfl (hb hby d11_10) rfl ?_
        refine XS.ifYes X0.here hx rfl (pc0 := 11) (pc' := 20) rfl (hb hby d11_11) rfl ((if0 _ _).trans (teq (hy1 : by_ = (0 : Int32))).1) (by decide) (by decide) ?_
        refine XS.iloadN X0.here hx rfl (hb hby d11_20) rfl ?_
        refine XS.ifNo X0.here hx rfl (hb hby d11_21) rfl ((if0 _ _).trans (feq ((by rw [hz1]; decide) : ¬ (bz = (0 : Int32)))).1) ?_
        refine XS.iconst X0.here hx rfl (hb hby d11_24) ?_
        refine XS.istore X0.here hx rfl (hb hby d11_25) rfl (l' := #[vI bx, vI by_, vI bz, vI cn, vI 2]) rfl ?_
        refine XS.goto X0.here hx rfl (pc0 := 27) (pc' := 33) rfl (hb hby d11_27) (by decide) (by decide) ?_
        exact h)
    rcases hl with hl | hl
    · have k821 : Rch p e below S0 s₁ (mkF m 45 #[vI bx, vI by_, vI bz, vI cn, vI 2] [(.int (2 : Int32))]) := fun t h => k820 t (by
          show Steps p.tables e below (s₁.setTop (mkF m 33 #[vI bx, vI by_, vI bz, vI cn, vI 2] [])) _
          refine XS.iload X0.here hx rfl (hb hby d11_33) rfl ?_
          refine XS.iloadN X0.here hx rfl (hb hby d11_35) rfl ?_
          refine XS.icmpNo X0.here hx rfl (hb hby d11_36) rfl (tlt ((by rw [← hrr]; exact hl.1) : (2 : Int32) < cn)).2.1 ?_
          refine XS.iload X0.here hx rfl (hb hby d11_39) rfl ?_
          refine XS.goto X0.here hx rfl (pc0 := 41) (pc' := 45) rfl (hb hby d11_41) (by decide) (by decide) ?_
          exact h)
      obtain ⟨fs, hr, hrun, hended, hW, hsame⟩ := X0.leave (v := (some (.int (2 : Int32)))) (fun h => by rw [Bd.returns] at h; cases h)
      refine ⟨_, _, ?_, hrun, hended, _, _, rfl, ?_, ⟨_, rfl⟩, hW, hsame.mono (by decide) (by decide)⟩
      · rw [← hS0]
        refine k821 _ ?_
        show Steps p.tables e below (s₁.setTop (mkF m 45 #[vI bx, vI by_, vI bz, vI cn, vI 2] [(.int (2 : Int32))])) _
        exact retI X0 hx Bd.returns (hb hby d11_45) hr
      · show Q_rmLW Z lo h0 n0 _ s₁.heap _
        rw [e0]
        exact ⟨by rw [hl.2, hrr], N0, rfl⟩
    · have k822 : Rch p e below S0 s₁ (mkF m 45 #[vI bx, vI by_, vI bz, vI cn, vI 2] [(.int (-1 : Int32))]) := fun t h => k820 t (by
          show Steps p.tables e below (s₁.setTop (mkF m 33 #[vI bx, vI by_, vI bz, vI cn, vI 2] [])) _
          refine XS.iload X0.here hx rfl (hb hby d11_33) rfl ?_
          refine XS.iloadN X0.here hx rfl (hb hby d11_35) rfl ?_
          refine XS.icmpYes X0.here hx rfl (pc0 := 36) (pc' := 44) rfl (hb hby d11_36) rfl (flt ((by rw [← hrr]; exact hl.1) : ¬ ((2 : Int32) < cn))).2.1 (by decide) (by decide) ?_
          refine XS.iconst X0.here hx rfl (hb hby d11_44) ?_
          exact h)
      obtain ⟨fs, hr, hrun, hended, hW, hsame⟩ := X0.leave (v := (some (.int (-1 : Int32)))) (fun h => by rw [Bd.returns] at h; cases h)
      refine ⟨_, _, ?_, hrun, hended, _, _, rfl, ?_, ⟨_, rfl⟩, hW, hsame.mono (by decide) (by decide)⟩
      · rw [← hS0]
        refine k822 _ ?_
        show Steps p.tables e below (s₁.setTop (mkF m 45 #[vI bx, vI by_, vI bz, vI cn, vI 2] [(.int (-1 : Int32))])) _
        exact retI X0 hx Bd.returns (hb hby d11_45) hr
      · show Q_rmLW Z lo h0 n0 _ s₁.heap _
        rw [e0]
        exact ⟨by rw [hl.2], N0, rfl⟩
  · have k823 : Rch p e below S0 s₁ (mkF m 33 #[vI bx, vI by_, vI bz, vI cn, vI 3] []) := fun t h => k0 t (by
        show Steps p.tables e below (s₁.setTop (mkF m 0 #[vI bx, vI by_, vI bz, vI cn, vU] [])) _
        refine XS.iloadN X0.here hx rfl (hb hby d11_0) rfl ?_
        refine XS.ifYes X0.here hx rfl (pc0 := 1) (pc' := 10) rfl (hb hby d11_1) rfl ((if0 _ _).trans (teq (hx1 : bx = (0 : Int32))).1) (by decide) (by decide) ?_
        refine XS.iloadN X0.here hx rfl (hb hby d11_10) rfl ?_
        refine XS.ifYes X0.here hx rfl (pc0 := 11) (pc' := 20) rfl (hb hby d11_11) rfl ((if0 _ _).trans (teq (hy1 : by_ = (0 : Int32))).1) (by decide) (by decide) ?_
        refine XS.iloadN X0.here hx rfl (hb hby d11_20) rfl ?_
        refine XS.ifYes X0.here hx rfl (pc0 := 21) (pc' := 30) rfl (hb hby d11_21) rfl ((if0 _ _).trans (teq (hz1 : bz = (0 : Int32))).1) (by decide) (by decide) ?_
        refine XS.iconst X0.here hx rfl (hb hby d11_30) ?_
        refine XS.istore X0.here hx rfl (hb hby d11_31) rfl (l' := #[vI bx, vI by_, vI bz, vI cn, vI 3]) rfl ?_
        exact h)
    rcases hl with hl | hl
    · have k824 : Rch p e below S0 s₁ (mkF m 45 #[vI bx, vI by_, vI bz, vI cn, vI 3] [(.int (3 : Int32))]) := fun t h => k823 t (by
          show Steps p.tables e below (s₁.setTop (mkF m 33 #[vI bx, vI by_, vI bz, vI cn, vI 3] [])) _
          refine XS.iload X0.here hx rfl (hb hby d11_33) rfl ?_
          refine XS.iloadN X0.here hx rfl (hb hby d11_35) rfl ?_
          refine XS.icmpNo X0.here hx rfl (hb hby d11_36) rfl (tlt ((by rw [← hrr]; exact hl.1) : (3 : Int32) < cn)).2.1 ?_
          refine XS.iload X0.here hx rfl (hb hby d11_39) rfl ?_
          refine XS.goto X0.here hx rfl (pc0 := 41) (pc' := 45) rfl (hb hby d11_41) (by decide) (by decide) ?_
          exact h)
      obtain ⟨fs, hr, hrun, hended, hW, hsame⟩ := X0.leave (v := (some (.int (3 : Int32)))) (fun h => by rw [Bd.returns] at h; cases h)
      refine ⟨_, _, ?_, hrun, hended, _, _, rfl, ?_, ⟨_, rfl⟩, hW, hsame.mono (by decide) (by decide)⟩
      · rw [← hS0]
        refine k824 _ ?_
        show Steps p.tables e below (s₁.setTop (mkF m 45 #[vI bx, vI by_, vI bz, vI cn, vI 3] [(.int (3 : Int32))])) _
        exact retI X0 hx Bd.returns (hb hby d11_45) hr
      · show Q_rmLW Z lo h0 n0 _ s₁.heap _
        rw [e0]
        exact ⟨by rw [hl.2, hrr], N0, rfl⟩
    · have k825 : Rch p e below S0 s₁ (mkF m 45 #[vI bx, vI by_, vI bz, vI cn, vI 3] [(.int (-1 : Int32))]) := fun t h => k823 t (by
          show Steps p.tables e below (s₁.setTop (mkF m 33 #[vI bx, vI by_, vI bz, vI cn, vI 3] [])) _
          refine XS.iload X0.here hx rfl (hb hby d11_33) rfl ?_
          refine XS.iloadN X0.here hx rfl (hb hby d11_35) rfl ?_
          refine XS.icmpYes X0.here hx rfl (pc0 := 36) (pc' := 44) rfl (hb hby d11_36) rfl (flt ((by rw [← hrr]; exact hl.1) : ¬ ((3 : Int32) < cn))).2.1 (by decide) (by decide) ?_
          refine XS.iconst X0.here hx rfl (hb hby d11_44) ?_
          exact h)
      obtain ⟨fs, hr, hrun, hended, hW, hsame⟩ := X0.leave (v := (some (.int (-1 : Int32)))) (fun h => by rw [Bd.returns] at h; cases h)
      refine ⟨_, _, ?_, hrun, hended, _, _, rfl, ?_, ⟨_, rfl⟩, hW, hsame.mono (by decide) (by decide)⟩
      · rw [← hS0]
        refine k825 _ ?_
        show Steps p.tables e below (s₁.setTop (mkF m 45 #[vI bx, vI by_, vI bz, vI cn, vI 3] [(.int (-1 : Int32))])) _
        exact retI X0 hx Bd.returns (hb hby d11_45) hr
      · show Q_rmLW Z lo h0 n0 _ s₁.heap _
        rw [e0]
        exact ⟨by rw [hl.2], N0, rfl⟩
def Q_rmN (Z : State) (a1 : Addr) (cn : Int32) (wd : Int32) (h0 : Heap) (n0 : Nat) (v : Option Value) (h : Heap) (L : List Loc) : Prop := ∃ aH rA rB kH kL, v = none ∧ Fr n0 L ∧ Keep h0 h [a1] ∧ h0.size ≤ aH ∧ h0.size ≤ rA ∧ h0.size ≤ rB ∧ aH ≠ rA ∧ aH ≠ rB ∧ rA ≠ rB ∧ Fld Z h a1 "com/example/lumenplan/lumenplan/simulation/Wavelengths" "count" "I" (.int cn) ∧ Fld Z h a1 "com/example/lumenplan/lumenplan/simulation/Wavelengths" "words" "I" (.int wd) ∧ Fld Z h a1 "com/example/lumenplan/lumenplan/simulation/Wavelengths" "held" "[[J" (.ref aH) ∧ Arv Z h aH kH (.array .long) (2 : Int32) [(.ref rA), (.ref rB)] .null ∧ Arv Z h rA kL .long (1 : Int32) [(.long (0 : Int64))] (.long (0 : Int64)) ∧ Arv Z h rB kL .long (1 : Int32) [(.long (0 : Int64))] (.long (0 : Int64))
theorem ef_2 (m : MethodId) (x0 : Addr) (x1 : Int32) (x2 : Int32) : entryFrame m #[(.ref x0), (.int x1), (.int x2)] 3 = mkF m 0 #[.val (.ref x0), .val (.int x1), .val (.int x2)] [] := by first | (simp [entryFrame, mkF, argsToLocals, Value.category]; done) | rfl
theorem d2_0 : decode prog_37_method_1_code 0 = .ok (.aload_n 0, 1) := by decide +kernel
theorem d2_1 : decode prog_37_method_1_code 1 = .ok (.invokespecial 1, 3) := by decide +kernel
theorem d2_4 : decode prog_37_method_1_code 4 = .ok (.aload_n 0, 1) := by decide +kernel
theorem d2_5 : decode prog_37_method_1_code 5 = .ok (.iload_n 2, 1) := by decide +kernel
theorem d2_6 : decode prog_37_method_1_code 6 = .ok (.putfield 7, 3) := by decide +kernel
theorem d2_9 : decode prog_37_method_1_code 9 = .ok (.aload_n 0, 1) := by decide +kernel
theorem d2_10 : decode prog_37_method_1_code 10 = .ok (.iload_n 2, 1) := by decide +kernel
theorem d2_11 : decode prog_37_method_1_code 11 = .ok (.i2l, 1) := by decide +kernel
theorem d2_12 : decode prog_37_method_1_code 12 = .ok (.ldc2_w 15, 3) := by decide +kernel
theorem d2_15 : decode prog_37_method_1_code 15 = .ok (.ladd, 1) := by decide +kernel
theorem d2_16 : decode prog_37_method_1_code 16 = .ok (.lconst 1, 1) := by decide +kernel
theorem d2_17 : decode prog_37_method_1_code 17 = .ok (.lsub, 1) := by decide +kernel
theorem d2_18 : decode prog_37_method_1_code 18 = .ok (.ldc2_w 15, 3) := by decide +kernel
theorem d2_21 : decode prog_37_method_1_code 21 = .ok (.ldiv, 1) := by decide +kernel
theorem d2_22 : decode prog_37_method_1_code 22 = .ok (.l2i, 1) := by decide +kernel
theorem d2_23 : decode prog_37_method_1_code 23 = .ok (.putfield 17, 3) := by decide +kernel
theorem d2_26 : decode prog_37_method_1_code 26 = .ok (.aload_n 0, 1) := by decide +kernel
theorem d2_27 : decode prog_37_method_1_code 27 = .ok (.iload_n 1, 1) := by decide +kernel
theorem d2_28 : decode prog_37_method_1_code 28 = .ok (.iconst 1, 1) := by decide +kernel
theorem d2_29 : decode prog_37_method_1_code 29 = .ok (.multianewarray 20 2, 4) := by decide +kernel
theorem d2_33 : decode prog_37_method_1_code 33 = .ok (.putfield 22, 3) := by decide +kernel
theorem d2_36 : decode prog_37_method_1_code 36 = .ok (.return_, 1) := by decide +kernel
set_option maxRecDepth 65536 in
set_option maxHeartbeats 40000000 in
theorem rmN (l : Launch) (Z : State) (a0 : Array Value) (hw : ∀ d ∈ tables_1, d.before a0 Z = true) (ws : List Jvm.Cond) (a1 : Addr) (cn : Int32) (wd : Int32) (h0 : Heap) (n0 : Nat) (O0 : Old Z n0 h0) (ge_a1 : n0 ≤ a1) (Ew : Exa Z h0 a1 "com/example/lumenplan/lumenplan/simulation/Wavelengths") (Fc : Fld Z h0 a1 "com/example/lumenplan/lumenplan/simulation/Wavelengths" "count" "I" (.int (0 : Int32))) (Fw : Fld Z h0 a1 "com/example/lumenplan/lumenplan/simulation/Wavelengths" "words" "I" (.int (0 : Int32))) (Fh : Fld Z h0 a1 "com/example/lumenplan/lumenplan/simulation/Wavelengths" "held" "[[J" .null) (hwd : (((((cn.toInt64) + (64 : Int64)) - (1 : Int64)) / (64 : Int64)).toInt32) = wd) :
    MetFree l (⟨"com/example/lumenplan/lumenplan/simulation/Wavelengths", "<init>", "(II)V"⟩ : MethodName) (head1 (Jvm.Cond.code (⟨"com/example/lumenplan/lumenplan/simulation/Wavelengths", "<init>", "(II)V"⟩ : MethodName) prog_37_method_1_code 3 none :: ws) ({ frames := 1, cells := 3, slots := 4, locals := 24 } : Room)) (fun a U => a = #[(.ref a1), (.int (2 : Int32)), (.int cn)] ∧ Z.Warmed39 U.vm ∧ U.heap = h0) (fun _ _ _ _ _ => True) (fun _ U o U' => ∃ v L, o = .returned v ∧ Q_rmN Z a1 cn wd h0 n0 v U'.heap L ∧ FrameEnd U o U' L ({ frames := 1, cells := 3, slots := 4, locals := 24 } : Room).cells ({ frames := 1, cells := 3, slots := 4, locals := 24 } : Room).slots) := by
  refine MetFree.of_bodySF (plainFor_of_name pn_Wavelengths) hisR ?_
  intro p e s m args below meth c s₁ Bd hml0 hP hK
  obtain ⟨rfl, hZ, hh⟩ := hP
  have hx := Bd.exec
  have hby := Bd.bytes
  have hml : c.maxLocals = 3 := hml0
  have hown : s.vm.findClass "com/example/lumenplan/lumenplan/simulation/Wavelengths" = some m.cls := findClass_of_methodNamed Bd.named
  have hnm := (name_of_methodNamed Bd.named Bd.method).1
  have X0 : Stand p l e ({ frames := 1, cells := 3, slots := 4, locals := 24 } : Room) s m #[(.ref a1), (.int (2 : Int32)), (.int cn)] below meth c s₁ [] 0 0 := Stand.of_body Bd
  have e0 : s₁.heap = h0 := by rw [← hh, Bd.state]; rfl
  have N0 := Fr.nil n0
  obtain ⟨S0, hS0⟩ : ∃ z, z = s₁.setTop (entryFrame m #[(.ref a1), (.int (2 : Int32)), (.int cn)] 3) := ⟨_, rfl⟩
  have k0 : Rch p e below S0 s₁ (mkF m 0 #[vR a1, vI 2, vI cn] []) := fun t kq => hS0 ▸ castTop (ef_2 m a1 (2 : Int32) cn) kq
  have K0 : Keep h0 h0 [a1] := Keep.refl h0 _
  have k827 : Rch p e below S0 s₁ (mkF m 1 #[vR a1, vI 2, vI cn] [(.ref a1)]) := fun t h => k0 t (by
      show Steps p.tables e below (s₁.setTop (mkF m 0 #[vR a1, vI 2, vI cn] [])) _
      refine XS.aloadN X0.here hx rfl (hb hby d2_0) rfl rfl ?_
      exact h)
  obtain ⟨T826, X826, e826, st826⟩ := initO X0 hx hZ hown (hw _ (gm 11 rfl)) (hw _ (gm 12 rfl)) (hw _ (gm 13 rfl)) e0 (g := (mkF m 1 #[vR a1, vI 2, vI cn] [(.ref a1)])) rfl (by rw [hml]; rfl) rfl (hb hby d2_1) (by decide) (W := 0) (by show 2 * 0 + _ ≤ _; exact Nat.le_of_eq rfl) (by decide)
  have k828 : Rch p e below S0 T826 (mkF m 4 #[vR a1, vI 2, vI cn] []) := fun t h => k827 t (st826 t h)
  have k830 : Rch p e below S0 T826 (mkF m 6 #[vR a1, vI 2, vI cn] [(.int cn), (.ref a1)]) := fun t h => k828 t (by
      show Steps p.tables e below (T826.setTop (mkF m 4 #[vR a1, vI 2, vI cn] [])) _
      refine XS.aloadN X826.here hx rfl (hb hby d2_4) rfl rfl ?_
      refine XS.iloadN X826.here hx rfl (hb hby d2_5) rfl ?_
      exact h)
  obtain ⟨T829, h829, X829, e829, W829, st829⟩ := putF X826 hx hZ hown (host := "") (Or.inl (hw _ (gm 14 rfl))) Via.refl e826 Fc Ew (Or.inr ⟨(hw _ (gm 15 rfl)), rfl, hnm⟩) (hw _ (gm 6 rfl)) (ty := .int) (by decide) rfl rfl (g := (mkF m 6 #[vR a1, vI 2, vI cn] [(.int cn), (.ref a1)])) rfl rfl (hb hby d2_6)
  have k831 : Rch p e below S0 T829 (mkF m 9 #[vR a1, vI 2, vI cn] []) := fun t h => k830 t (st829 t h)
  have N829 := Fr.snoc X829 N0 ge_a1
  replace Fc := Fc.same W829
  have O832 := O0.wr W829 ge_a1
  have K833 := K0.wr W829 (Or.inl (gm 0 rfl))
  replace Ew := Ew.wr W829
  replace Fh := Fh.other W829 (Or.inr (slot_ne (Or.inr (hw _ (gm 23 rfl))) (Or.inr (hw _ (gm 15 rfl))) (by decide) (t := (.array (.array .long))) (t' := .int) (by decide) (by decide)))
  replace Fw := Fw.other W829 (Or.inr (slot_ne (Or.inr (hw _ (gm 18 rfl))) (Or.inr (hw _ (gm 15 rfl))) (by decide) (t := .int) (t' := .int) (by decide) (by decide)))
  have k835 : Rch p e below S0 T829 (mkF m 23 #[vR a1, vI 2, vI cn] [(.int wd), (.ref a1)]) := fun t h => k831 t (by
      show Steps p.tables e below (T829.setTop (mkF m 9 #[vR a1, vI 2, vI cn] [])) _
      refine XS.aloadN X829.here hx rfl (hb hby d2_9) rfl rfl ?_
      refine XS.iloadN X829.here hx rfl (hb hby d2_10) rfl ?_
      refine XS.i2l X829.here hx rfl (hb hby d2_11) rfl ?_
      refine X829.ldc2Long hx hown (mvT hZ (hw _ (gm 16 rfl))) (g := (mkF m 12 #[vR a1, vI 2, vI cn] [(.long (cn.toInt64)), (.ref a1)])) rfl (hb hby d2_12) _ ?_
      refine XS.ladd X829.here hx rfl (hb hby d2_15) rfl ?_
      refine XS.lconst X829.here hx rfl (hb hby d2_16) ?_
      refine XS.lsub X829.here hx rfl (hb hby d2_17) rfl ?_
      refine X829.ldc2Long hx hown (mvT hZ (hw _ (gm 16 rfl))) (g := (mkF m 18 #[vR a1, vI 2, vI cn] [(.long (((cn.toInt64) + (64 : Int64)) - (1 : Int64))), (.ref a1)])) rfl (hb hby d2_18) _ ?_
      refine XS.ldiv X829.here hx rfl (hb hby d2_21) rfl (by decide) ?_
      show Steps p.tables e below (T829.setTop (mkF m 22 #[vR a1, vI 2, vI cn] [(.long ((((cn.toInt64) + (64 : Int64)) - (1 : Int64)) / (64 : Int64))), (.ref a1)])) _
      refine XS.l2i X829.here hx rfl (hb hby d2_22) rfl ?_
      rw [hwd]
      exact h)
  obtain ⟨T834, h834, X834, e834, W834, st834⟩ := putF X829 hx hZ hown (host := "") (Or.inl (hw _ (gm 17 rfl))) Via.refl e829 Fw Ew (Or.inr ⟨(hw _ (gm 18 rfl)), rfl, hnm⟩) (hw _ (gm 6 rfl)) (ty := .int) (by decide) rfl rfl (g := (mkF m 23 #[vR a1, vI 2, vI cn] [(.int wd), (.ref a1)])) rfl rfl (hb hby d2_23)
  have k836 : Rch p e below S0 T834 (mkF m 26 #[vR a1, vI 2, vI cn] []) := fun t h => k835 t (st834 t h)
  have N834 := Fr.snoc X834 N829 ge_a1
  replace Fw := Fw.same W834
  have O837 := O832.wr W834 ge_a1
  have K838 := K833.wr W834 (Or.inl (gm 0 rfl))
  replace Ew := Ew.wr W834
  replace Fh := Fh.other W834 (Or.inr (slot_ne (Or.inr (hw _ (gm 23 rfl))) (Or.inr (hw _ (gm 18 rfl))) (by decide) (t := (.array (.array .long))) (t' := .int) (by decide) (by decide)))
  replace Fc := Fc.other W834 (Or.inr (slot_ne (Or.inr (hw _ (gm 15 rfl))) (Or.inr (hw _ (gm 18 rfl))) (by decide) (t := .int) (t' := .int) (by decide) (by decide)))
  have k840 : Rch p e below S0 T834 (mkF m 29 #[vR a1, vI 2, vI cn] [(.int (1 : Int32)), (.int (2 : Int32)), (.ref a1)]) := fun t h => k836 t (by
      show Steps p.tables e below (T834.setTop (mkF m 26 #[vR a1, vI 2, vI cn] [])) _
      refine XS.aloadN X834.here hx rfl (hb hby d2_26) rfl rfl ?_
      refine XS.iloadN X834.here hx rfl (hb hby d2_27) rfl ?_
      refine XS.iconst X834.here hx rfl (hb hby d2_28) ?_
      exact h)
  obtain ⟨T839, h839, kH839, kL839, X839, e839, E839, V0839, -, -, hA839, st839⟩ := gridM X834 hx hZ hown (C := "[J") (ad := "[[J") (ty := .long) (by decide) (by decide) (hw _ (gm 19 rfl)) (hw _ (gm 20 rfl)) (hw _ (gm 21 rfl)) e834 (g := (mkF m 29 #[vR a1, vI 2, vI cn] [(.int (1 : Int32)), (.int (2 : Int32)), (.ref a1)])) rfl (hb hby d2_29) (n := (2 : Int32)) (k := (1 : Int32)) rfl (by decide) (by decide) (xs := [h834.size + 1, h834.size + 2]) (N := 2) rfl rfl (cap := 1) (by decide) (by decide) (by decide) rfl rfl (by decide) (by decide)
  have hA0839 := (hA839 0 _ rfl).1
  have hA1839 := (hA839 1 _ rfl).1
  obtain ⟨aH, gH839⟩ : ∃ z, z = h834.size := ⟨_, rfl⟩
  obtain ⟨rA, gA839⟩ : ∃ z, z = h834.size + 1 := ⟨_, rfl⟩
  obtain ⟨rB, gB839⟩ : ∃ z, z = h834.size + 2 := ⟨_, rfl⟩
  have VA839 : Arv Z h839 _ kL839 .long (1 : Int32) [(.long (0 : Int64))] (.long (0 : Int64)) := (Arv.new hA0839 (by decide)).pad (pad_rep [] (.long (0 : Int64)) 1)
  have VB839 : Arv Z h839 _ kL839 .long (1 : Int32) [(.long (0 : Int64))] (.long (0 : Int64)) := (Arv.new hA1839 (by decide)).pad (pad_rep [] (.long (0 : Int64)) 1)
  have VH839 : Arv Z h839 h834.size kH839 (.array .long) (2 : Int32) [(.ref (h834.size + 1)), (.ref (h834.size + 2))] .null := V0839
  rw [← gA839, ← gB839, ← gH839] at VH839
  rw [← gA839] at VA839
  rw [← gB839] at VB839
  rw [← gH839] at st839
  have n1839 : aH ≠ rA := by omega
  have n2839 : aH ≠ rB := by omega
  have n3839 : rA ≠ rB := by omega
  have k841 : Rch p e below S0 T839 (mkF m 33 #[vR a1, vI 2, vI cn] [(.ref aH), (.ref a1)]) := fun t h => k840 t (st839 t h)
  have ne_a1_aH : a1 ≠ aH := own_ne Ew.lt (Nat.le_of_eq gH839.symm)
  have ge_aH : n0 ≤ aH := own_ge O837 (Nat.le_of_eq gH839.symm)
  have sz_aH : h0.size ≤ aH := Nat.le_trans K838.1 (Nat.le_of_eq gH839.symm)
  have ne_a1_rA : a1 ≠ rA := own_ne Ew.lt (show h834.size ≤ rA from by omega)
  have ge_rA : n0 ≤ rA := own_ge O837 (show h834.size ≤ rA from by omega)
  have sz_rA : h0.size ≤ rA := Nat.le_trans K838.1 (show h834.size ≤ rA from by omega)
  have ne_a1_rB : a1 ≠ rB := own_ne Ew.lt (show h834.size ≤ rB from by omega)
  have ge_rB : n0 ≤ rB := own_ge O837 (show h834.size ≤ rB from by omega)
  have sz_rB : h0.size ≤ rB := Nat.le_trans K838.1 (show h834.size ≤ rB from by omega)
  have O842 := O837.ext E839
  have K843 := K838.ext E839
  replace Ew := Ew.ext E839
  replace Fh := Fh.ext E839
  replace Fc := Fc.ext E839
  replace Fw := Fw.ext E839
  obtain ⟨T844, h844, X844, e844, W844, st844⟩ := putF X839 hx hZ hown (host := "") (Or.inl (hw _ (gm 22 rfl))) Via.refl e839 Fh Ew (Or.inr ⟨(hw _ (gm 23 rfl)), rfl, hnm⟩) (hw _ (gm 6 rfl)) (ty := (.array (.array .long))) (by decide) rfl rfl (g := (mkF m 33 #[vR a1, vI 2, vI cn] [(.ref aH), (.ref a1)])) rfl rfl (hb hby d2_33)
  have k845 : Rch p e below S0 T844 (mkF m 36 #[vR a1, vI 2, vI cn] []) := fun t h => k841 t (st844 t h)
  have N844 := Fr.snoc X844 N834 ge_a1
  replace Fh := Fh.same W844
  have O846 := O842.wr W844 ge_a1
  have K847 := K843.wr W844 (Or.inl (gm 0 rfl))
  replace Ew := Ew.wr W844
  replace Fc := Fc.other W844 (Or.inr (slot_ne (Or.inr (hw _ (gm 15 rfl))) (Or.inr (hw _ (gm 23 rfl))) (by decide) (t := .int) (t' := (.array (.array .long))) (by decide) (by decide)))
  replace Fw := Fw.other W844 (Or.inr (slot_ne (Or.inr (hw _ (gm 18 rfl))) (Or.inr (hw _ (gm 23 rfl))) (by decide) (t := .int) (t' := (.array (.array .long))) (by decide) (by decide)))
  replace VH839 := VH839.other W844 (Ne.symm ne_a1_aH)
  replace VA839 := VA839.other W844 (Ne.symm ne_a1_rA)
  replace VB839 := VB839.other W844 (Ne.symm ne_a1_rB)
  obtain ⟨fs, hr, hrun, hended, hW, hsame⟩ := X844.leave (v := none) (fun _ => rfl)
  refine ⟨_, _, ?_, hrun, hended, _, _, rfl, ?_, ⟨_, rfl⟩, hW, hsame.mono (by decide) (by decide)⟩
  · rw [← hS0]
    refine k845 _ ?_
    show Steps p.tables e below (T844.setTop (mkF m 36 #[vR a1, vI 2, vI cn] [])) _
    exact X844.returnOut hx Bd.returns (hb hby d2_36) hr
  · show Q_rmN Z a1 cn wd h0 n0 _ T844.heap _
    rw [e844]
    exact ⟨aH, rA, rB, kH839, kL839, rfl, N844, K847, sz_aH, sz_rA, sz_rB, n1839, n2839, n3839, Fc, Fw, Fh, VH839, VA839, VB839⟩
def Q_rm0_n (Z : State)  (h0 : Heap) (n0 : Nat) (v : Option Value) (h : Heap) (L : List Loc) : Prop := v = some (.int (1 : Int32)) ∧ Fr n0 L
theorem ef_0 (m : MethodId) (x0 : Int32) (x1 : Int32) (x2 : Int32) : entryFrame m #[(.int x0), (.int x1), (.int x2)] maxLocals = mkF m 0 #[.val (.int x0), .val (.int x1), .val (.int x2), .unset, .unset, .unset, .unset, .unset, .unset, .unset, .unset, .unset, .unset, .unset, .unset, .unset, .unset, .unset, .unset, .unset, .unset, .unset] [] := by first | (simp [entryFrame, mkF, argsToLocals, Value.category, maxLocals]; done) | rfl
theorem pd_0 : parseMethodDescriptor "(II)I" = some ⟨[.int, .int], some .int⟩ := by decide +kernel
theorem pd_1 : parseMethodDescriptor "(II)V" = some ⟨[.int, .int], none⟩ := by decide +kernel
theorem pd_3 : parseMethodDescriptor "([ILcom/example/lumenplan/lumenplan/simulation/Conversion;)[I" = some ⟨[(.array .int), (.object "com/example/lumenplan/lumenplan/simulation/Conversion")], some (.array .int)⟩ := by decide +kernel
theorem pd_9 : parseMethodDescriptor "([I[I)V" = some ⟨[(.array .int), (.array .int)], none⟩ := by decide +kernel
theorem pd_10 : parseMethodDescriptor "(ZZZI)I" = some ⟨[.boolean, .boolean, .boolean, .int], some .int⟩ := by decide +kernel
set_option maxRecDepth 65536 in
set_option maxHeartbeats 40000000 in
theorem rm0_n (l : Launch) (Z : State) (a0 : Array Value) (hw : ∀ d ∈ tables_1, d.before a0 Z = true) (ws : List Jvm.Cond) (p1 : Int32) (p2 : Int32) (p3 : Int32) (wN : Addr) (wF : Addr) (cn : Int32) (wd : Int32) (h0 : Heap) (n0 : Nat) (O0 : Old Z n0 h0) (SN : Sta Z Z.heap "com/example/lumenplan/lumenplan/simulation/Conversion" "NONE" "Lcom/example/lumenplan/lumenplan/simulation/Conversion;" (.ref wN)) (SF : Sta Z Z.heap "com/example/lumenplan/lumenplan/simulation/Conversion" "FULL" "Lcom/example/lumenplan/lumenplan/simulation/Conversion;" (.ref wF)) (hne : wF ≠ wN) (hmx : (¬ (3 : Int32) < p1 ∧ cn = 3) ∨ ((3 : Int32) < p1 ∧ cn = p1)) (h3 : ¬ cn < 3) (hwd : (((((cn.toInt64) + (64 : Int64)) - (1 : Int64)) / (64 : Int64)).toInt32) = wd) (hw0 : (0 : Int32) < wd) (hf : p3 &&& 1 = 0) :
    MetFree l x (head1 (Jvm.Cond.code x code maxLocals ret :: ws) room_1) (fun a U => a = #[(.int p1), (.int p2), (.int p3)] ∧ Z.Warmed39 U.vm ∧ U.heap = h0) (fun _ _ _ _ _ => True) (fun _ U o U' => ∃ v L, o = .returned v ∧ Q_rm0_n Z  h0 n0 v U'.heap L ∧ FrameEnd U o U' L room_1.cells room_1.slots) := by
  refine MetFree.of_bodySF (plainFor_of_name pn_WavelengthsReleasePinLaw) hisR ?_
  intro p e s m args below meth c s₁ Bd hml0 hP hK
  obtain ⟨rfl, hZ, hh⟩ := hP
  have hx := Bd.exec
  have hby := Bd.bytes
  have hml : c.maxLocals = 22 := hml0
  have hown : s.vm.findClass "com/example/lumenplan/lumenplan/simulation/WavelengthsReleasePinLaw" = some m.cls := findClass_of_methodNamed Bd.named
  have hnm := (name_of_methodNamed Bd.named Bd.method).1
  have X0 : Stand p l e room_1 s m #[(.int p1), (.int p2), (.int p3)] below meth c s₁ [] 0 0 := Stand.of_body Bd
  have e0 : s₁.heap = h0 := by rw [← hh, Bd.state]; rfl
  have N0 := Fr.nil n0
  obtain ⟨S0, hS0⟩ : ∃ z, z = s₁.setTop (entryFrame m #[(.int p1), (.int p2), (.int p3)] maxLocals) := ⟨_, rfl⟩
  have k0 : Rch p e below S0 s₁ (mkF m 0 #[vI p1, vI p2, vI p3, vU, vU, vU, vU, vU, vU, vU, vU, vU, vU, vU, vU, vU, vU, vU, vU, vU, vU, vU] []) := fun t kq => hS0 ▸ castTop (ef_0 m p1 p2 p3) kq
  have k848 : Rch p e below S0 s₁ (mkF m 2 #[vI p1, vI p2, vI p3, vU, vU, vU, vU, vU, vU, vU, vU, vU, vU, vU, vU, vU, vU, vU, vU, vU, vU, vU] [(.int p1), (.int (3 : Int32))]) := fun t h => k0 t (by
      show Steps p.tables e below (s₁.setTop (mkF m 0 #[vI p1, vI p2, vI p3, vU, vU, vU, vU, vU, vU, vU, vU, vU, vU, vU, vU, vU, vU, vU, vU, vU, vU, vU] [])) _
      refine XS.iconst X0.here hx rfl (hb hby at_0) ?_
      refine XS.iloadN X0.here hx rfl (hb hby at_1) rfl ?_
      exact h)
  obtain ⟨_, _, ⟨T849, L849, kk849, n849⟩, -, X849, ⟨Lc849, hQ849, l849, y849, z849⟩, st849⟩ := Jvm.LawKit.callS X0 hx (y := (⟨"java/lang/Math", "max", "(II)I"⟩ : MethodName)) hown (mvT hZ (hw _ (gm 0 rfl))) (mvT hZ (hw _ (gm 1 rfl))) (mvT hZ (hw _ (gm 2 rfl))) (mvT hZ (hw _ (gm 3 rfl))) (by decide) (backOf (W := 0) (rmMX l Z a0 hw [] p1 cn h0 n0 O0 hmx) hZ (hw _ (gm 3 rfl)) (hw _ (gm 2 rfl)) (by decide) (by decide)) (g := (mkF m 2 #[vI p1, vI p2, vI p3, vU, vU, vU, vU, vU, vU, vU, vU, vU, vU, vU, vU, vU, vU, vU, vU, vU, vU, vU] [(.int p1), (.int (3 : Int32))])) rfl (by rw [hml]; rfl) (argsL := [(.int (3 : Int32)), (.int p1)]) (rest := []) (lenOf pd_0 rfl) rfl (by show 2 * 0 + _ ≤ _; exact Nat.le_of_eq rfl) (hb hby at_2) (fun _ _ => ⟨rfl, e0, (by decide : 0 + 0 ≤ _), (by decide : 0 + 0 ≤ _)⟩)
  dsimp only [Pt.U, Pt.locs, Pt.cells, Pt.slots] at X849 l849 y849 z849 st849 hQ849
  subst l849 y849 z849
  obtain ⟨rfl, Nq849, hh849⟩ := hQ849
  have N849 := Fr.app N0 Nq849
  have k850 : Rch p e below S0 T849 (mkF m 5 #[vI p1, vI p2, vI p3, vU, vU, vU, vU, vU, vU, vU, vU, vU, vU, vU, vU, vU, vU, vU, vU, vU, vU, vU] [(.int cn)]) := fun t h => k848 t (st849 t h)
  have k852 : Rch p e below S0 T849 (mkF m 20 #[vI p1, vI p2, vI p3, vI cn, vI 0, vU, vU, vU, vU, vU, vU, vU, vU, vU, vU, vU, vU, vU, vU, vU, vU, vU] [(.int (2 : Int32))]) := fun t h => k850 t (by
      show Steps p.tables e below (T849.setTop (mkF m 5 #[vI p1, vI p2, vI p3, vU, vU, vU, vU, vU, vU, vU, vU, vU, vU, vU, vU, vU, vU, vU, vU, vU, vU, vU] [(.int cn)])) _
      refine XS.istoreN X849.here hx rfl (hb hby at_5) rfl (l' := #[vI p1, vI p2, vI p3, vI cn, vU, vU, vU, vU, vU, vU, vU, vU, vU, vU, vU, vU, vU, vU, vU, vU, vU, vU]) rfl ?_
      refine XS.iloadN X849.here hx rfl (hb hby at_6) rfl ?_
      refine XS.iconst X849.here hx rfl (hb hby at_7) ?_
      refine XS.iand X849.here hx rfl (hb hby at_8) rfl ?_
      refine XS.ifYes X849.here hx rfl (pc0 := 9) (pc' := 16) rfl (hb hby at_9) rfl ((if0 _ _).trans (teq (hf : (p3 &&& (1 : Int32)) = (0 : Int32))).1) (by decide) (by decide) ?_
      refine XS.iconst X849.here hx rfl (hb hby at_16) ?_
      refine XS.istore X849.here hx rfl (hb hby at_17) rfl (l' := #[vI p1, vI p2, vI p3, vI cn, vI 0, vU, vU, vU, vU, vU, vU, vU, vU, vU, vU, vU, vU, vU, vU, vU, vU, vU]) rfl ?_
      refine XS.iconst X849.here hx rfl (hb hby at_19) ?_
      exact h)
  obtain ⟨T851, h851, k851, X851, e851, E851, A851, st851⟩ := newP X849 hx hZ (hw _ (gm 4 rfl)) hh849 (g := (mkF m 20 #[vI p1, vI p2, vI p3, vI cn, vI 0, vU, vU, vU, vU, vU, vU, vU, vU, vU, vU, vU, vU, vU, vU, vU, vU, vU] [(.int (2 : Int32))])) rfl (hb hby at_20) rfl (by decide) (cap := 2) (by decide) (by decide) (by decide) (by decide)
  obtain ⟨b851, g851⟩ : ∃ z, z = h0.size := ⟨_, rfl⟩
  rw [← g851] at A851 st851
  have k853 : Rch p e below S0 T851 (mkF m 22 #[vI p1, vI p2, vI p3, vI cn, vI 0, vU, vU, vU, vU, vU, vU, vU, vU, vU, vU, vU, vU, vU, vU, vU, vU, vU] [(.ref b851)]) := fun t h => k852 t (st851 t h)
  have ge_b851 : n0 ≤ b851 := own_ge O0 (Nat.le_of_eq g851.symm)
  have O854 := O0.ext E851
  have V_b851 : Arv Z h851 b851 k851 .int (2 : Int32) [(.int (0 : Int32)), (.int (0 : Int32))] (.int (0 : Int32)) := (Arv.new A851 (by decide)).pad (pad_rep [] (.int (0 : Int32)) 2)
  have k856 : Rch p e below S0 T851 (mkF m 25 #[vI p1, vI p2, vI p3, vI cn, vI 0, vU, vU, vU, vU, vU, vU, vU, vU, vU, vU, vU, vU, vU, vU, vU, vU, vU] [(.int (0 : Int32)), (.int (0 : Int32)), (.ref b851), (.ref b851)]) := fun t h => k853 t (by
      show Steps p.tables e below (T851.setTop (mkF m 22 #[vI p1, vI p2, vI p3, vI cn, vI 0, vU, vU, vU, vU, vU, vU, vU, vU, vU, vU, vU, vU, vU, vU, vU, vU, vU] [(.ref b851)])) _
      refine XS.dup X851.here hx rfl (hb hby at_22) rfl rfl ?_
      refine XS.iconst X851.here hx rfl (hb hby at_23) ?_
      refine XS.iconst X851.here hx rfl (hb hby at_24) ?_
      exact h)
  obtain ⟨cl855, Ar855, q855, Sz855, Ng855, Hs855, G855⟩ := id V_b851
  have hin855 : ¬ ((0 : Int32) < 0 ∨ cl855.slots.size ≤ ((0 : Int32)).toNatClampNeg) := inb_of Sz855 ⟨by decide, by decide⟩
  obtain ⟨T855, h855, X855, e855, W855, st855⟩ := stI X851 hx hZ e851 Ar855 (j := (0 : Int32)) hin855 (g := (mkF m 25 #[vI p1, vI p2, vI p3, vI cn, vI 0, vU, vU, vU, vU, vU, vU, vU, vU, vU, vU, vU, vU, vU, vU, vU, vU, vU] [(.int (0 : Int32)), (.int (0 : Int32)), (.ref b851), (.ref b851)])) rfl rfl (hb hby at_25)
  have k857 : Rch p e below S0 T855 (mkF m 26 #[vI p1, vI p2, vI p3, vI cn, vI 0, vU, vU, vU, vU, vU, vU, vU, vU, vU, vU, vU, vU, vU, vU, vU, vU, vU] [(.ref b851)]) := fun t h => k856 t (st855 t h)
  have N855 := Fr.snoc X855 N849 ge_b851
  have V_b851' := Arv.set Ar855 q855 Sz855 Ng855 Hs855 G855 rfl W855 0 rfl (Nat.le_of_ble_eq_true rfl)
  replace V_b851 : Arv Z h855 b851 k851 .int (2 : Int32) [(.int (0 : Int32)), (.int (0 : Int32))] (.int (0 : Int32)) := V_b851'
  have O858 := O854.wr W855 ge_b851
  have k860 : Rch p e below S0 T855 (mkF m 29 #[vI p1, vI p2, vI p3, vI cn, vI 0, vU, vU, vU, vU, vU, vU, vU, vU, vU, vU, vU, vU, vU, vU, vU, vU, vU] [(.int (1 : Int32)), (.int (1 : Int32)), (.ref b851), (.ref b851)]) := fun t h => k857 t (by
      show Steps p.tables e below (T855.setTop (mkF m 26 #[vI p1, vI p2, vI p3, vI cn, vI 0, vU, vU, vU, vU, vU, vU, vU, vU, vU, vU, vU, vU, vU, vU, vU, vU, vU] [(.ref b851)])) _
      refine XS.dup X855.here hx rfl (hb hby at_26) rfl rfl ?_
      refine XS.iconst X855.here hx rfl (hb hby at_27) ?_
      refine XS.iconst X855.here hx rfl (hb hby at_28) ?_
      exact h)
  obtain ⟨cl859, Ar859, q859, Sz859, Ng859, Hs859, G859⟩ := id V_b851
  have hin859 : ¬ ((1 : Int32) < 0 ∨ cl859.slots.size ≤ ((1 : Int32)).toNatClampNeg) := inb_of Sz859 ⟨by decide, by decide⟩
  obtain ⟨T859, h859, X859, e859, W859, st859⟩ := stI X855 hx hZ e855 Ar859 (j := (1 : Int32)) hin859 (g := (mkF m 29 #[vI p1, vI p2, vI p3, vI cn, vI 0, vU, vU, vU, vU, vU, vU, vU, vU, vU, vU, vU, vU, vU, vU, vU, vU, vU] [(.int (1 : Int32)), (.int (1 : Int32)), (.ref b851), (.ref b851)])) rfl rfl (hb hby at_29)
  have k861 : Rch p e below S0 T859 (mkF m 30 #[vI p1, vI p2, vI p3, vI cn, vI 0, vU, vU, vU, vU, vU, vU, vU, vU, vU, vU, vU, vU, vU, vU, vU, vU, vU] [(.ref b851)]) := fun t h => k860 t (st859 t h)
  have N859 := Fr.snoc X859 N855 ge_b851
  have V_b851' := Arv.set Ar859 q859 Sz859 Ng859 Hs859 G859 rfl W859 1 rfl (Nat.le_of_ble_eq_true rfl)
  replace V_b851 : Arv Z h859 b851 k851 .int (2 : Int32) [(.int (0 : Int32)), (.int (1 : Int32))] (.int (0 : Int32)) := V_b851'
  have O862 := O858.wr W859 ge_b851
  have k864 : Rch p e below S0 T859 (mkF m 33 #[vI p1, vI p2, vI p3, vI cn, vI 0, vR b851, vU, vU, vU, vU, vU, vU, vU, vU, vU, vU, vU, vU, vU, vU, vU, vU] [(.int (1 : Int32))]) := fun t h => k861 t (by
      show Steps p.tables e below (T859.setTop (mkF m 30 #[vI p1, vI p2, vI p3, vI cn, vI 0, vU, vU, vU, vU, vU, vU, vU, vU, vU, vU, vU, vU, vU, vU, vU, vU, vU] [(.ref b851)])) _
      refine XS.astore X859.here hx rfl (hb hby at_30) rfl rfl (l' := #[vI p1, vI p2, vI p3, vI cn, vI 0, vR b851, vU, vU, vU, vU, vU, vU, vU, vU, vU, vU, vU, vU, vU, vU, vU, vU]) rfl ?_
      refine XS.iconst X859.here hx rfl (hb hby at_32) ?_
      exact h)
  obtain ⟨T863, h863, k863, X863, e863, E863, A863, st863⟩ := newP X859 hx hZ (hw _ (gm 4 rfl)) e859 (g := (mkF m 33 #[vI p1, vI p2, vI p3, vI cn, vI 0, vR b851, vU, vU, vU, vU, vU, vU, vU, vU, vU, vU, vU, vU, vU, vU, vU, vU] [(.int (1 : Int32))])) rfl (hb hby at_33) rfl (by decide) (cap := 1) (by decide) (by decide) (by decide) (by decide)
  obtain ⟨b863, g863⟩ : ∃ z, z = h859.size := ⟨_, rfl⟩
  rw [← g863] at A863 st863
  have k865 : Rch p e below S0 T863 (mkF m 35 #[vI p1, vI p2, vI p3, vI cn, vI 0, vR b851, vU, vU, vU, vU, vU, vU, vU, vU, vU, vU, vU, vU, vU, vU, vU, vU] [(.ref b863)]) := fun t h => k864 t (st863 t h)
  have ne_b851_b863 : b851 ≠ b863 := own_ne V_b851.lt (Nat.le_of_eq g863.symm)
  have ge_b863 : n0 ≤ b863 := own_ge O862 (Nat.le_of_eq g863.symm)
  have O866 := O862.ext E863
  replace V_b851 := V_b851.ext E863
  have V_b863 : Arv Z h863 b863 k863 .int (1 : Int32) [(.int (0 : Int32))] (.int (0 : Int32)) := (Arv.new A863 (by decide)).pad (pad_rep [] (.int (0 : Int32)) 1)
  have k868 : Rch p e below S0 T863 (mkF m 38 #[vI p1, vI p2, vI p3, vI cn, vI 0, vR b851, vU, vU, vU, vU, vU, vU, vU, vU, vU, vU, vU, vU, vU, vU, vU, vU] [(.int (0 : Int32)), (.int (0 : Int32)), (.ref b863), (.ref b863)]) := fun t h => k865 t (by
      show Steps p.tables e below (T863.setTop (mkF m 35 #[vI p1, vI p2, vI p3, vI cn, vI 0, vR b851, vU, vU, vU, vU, vU, vU, vU, vU, vU, vU, vU, vU, vU, vU, vU, vU] [(.ref b863)])) _
      refine XS.dup X863.here hx rfl (hb hby at_35) rfl rfl ?_
      refine XS.iconst X863.here hx rfl (hb hby at_36) ?_
      refine XS.iconst X863.here hx rfl (hb hby at_37) ?_
      exact h)
  obtain ⟨cl867, Ar867, q867, Sz867, Ng867, Hs867, G867⟩ := id V_b863
  have hin867 : ¬ ((0 : Int32) < 0 ∨ cl867.slots.size ≤ ((0 : Int32)).toNatClampNeg) := inb_of Sz867 ⟨by decide, by decide⟩
  obtain ⟨T867, h867, X867, e867, W867, st867⟩ := stI X863 hx hZ e863 Ar867 (j := (0 : Int32)) hin867 (g := (mkF m 38 #[vI p1, vI p2, vI p3, vI cn, vI 0, vR b851, vU, vU, vU, vU, vU, vU, vU, vU, vU, vU, vU, vU, vU, vU, vU, vU] [(.int (0 : Int32)), (.int (0 : Int32)), (.ref b863), (.ref b863)])) rfl rfl (hb hby at_38)
  have k869 : Rch p e below S0 T867 (mkF m 39 #[vI p1, vI p2, vI p3, vI cn, vI 0, vR b851, vU, vU, vU, vU, vU, vU, vU, vU, vU, vU, vU, vU, vU, vU, vU, vU] [(.ref b863)]) := fun t h => k868 t (st867 t h)
  have N867 := Fr.snoc X867 N859 ge_b863
  have V_b863' := Arv.set Ar867 q867 Sz867 Ng867 Hs867 G867 rfl W867 0 rfl (Nat.le_of_ble_eq_true rfl)
  replace V_b863 : Arv Z h867 b863 k863 .int (1 : Int32) [(.int (0 : Int32))] (.int (0 : Int32)) := V_b863'
  have O870 := O866.wr W867 ge_b863
  replace V_b851 := V_b851.other W867 ne_b851_b863
  have k872 : Rch p e below S0 T867 (mkF m 42 #[vI p1, vI p2, vI p3, vI cn, vI 0, vR b851, vR b863, vU, vU, vU, vU, vU, vU, vU, vU, vU, vU, vU, vU, vU, vU, vU] [(.int (1 : Int32))]) := fun t h => k869 t (by
      show Steps p.tables e below (T867.setTop (mkF m 39 #[vI p1, vI p2, vI p3, vI cn, vI 0, vR b851, vU, vU, vU, vU, vU, vU, vU, vU, vU, vU, vU, vU, vU, vU, vU, vU] [(.ref b863)])) _
      refine XS.astore X867.here hx rfl (hb hby at_39) rfl rfl (l' := #[vI p1, vI p2, vI p3, vI cn, vI 0, vR b851, vR b863, vU, vU, vU, vU, vU, vU, vU, vU, vU, vU, vU, vU, vU, vU, vU]) rfl ?_
      refine XS.iconst X867.here hx rfl (hb hby at_41) ?_
      exact h)
  obtain ⟨T871, h871, k871, X871, e871, E871, A871, st871⟩ := newP X867 hx hZ (hw _ (gm 4 rfl)) e867 (g := (mkF m 42 #[vI p1, vI p2, vI p3, vI cn, vI 0, vR b851, vR b863, vU, vU, vU, vU, vU, vU, vU, vU, vU, vU, vU, vU, vU, vU, vU] [(.int (1 : Int32))])) rfl (hb hby at_42) rfl (by decide) (cap := 1) (by decide) (by decide) (by decide) (by decide)
  obtain ⟨b871, g871⟩ : ∃ z, z = h867.size := ⟨_, rfl⟩
  rw [← g871] at A871 st871
  have k873 : Rch p e below S0 T871 (mkF m 44 #[vI p1, vI p2, vI p3, vI cn, vI 0, vR b851, vR b863, vU, vU, vU, vU, vU, vU, vU, vU, vU, vU, vU, vU, vU, vU, vU] [(.ref b871)]) := fun t h => k872 t (st871 t h)
  have ne_b851_b871 : b851 ≠ b871 := own_ne V_b851.lt (Nat.le_of_eq g871.symm)
  have ne_b863_b871 : b863 ≠ b871 := own_ne V_b863.lt (Nat.le_of_eq g871.symm)
  have ge_b871 : n0 ≤ b871 := own_ge O870 (Nat.le_of_eq g871.symm)
  have O874 := O870.ext E871
  replace V_b851 := V_b851.ext E871
  replace V_b863 := V_b863.ext E871
  have V_b871 : Arv Z h871 b871 k871 .int (1 : Int32) [(.int (0 : Int32))] (.int (0 : Int32)) := (Arv.new A871 (by decide)).pad (pad_rep [] (.int (0 : Int32)) 1)
  have k876 : Rch p e below S0 T871 (mkF m 47 #[vI p1, vI p2, vI p3, vI cn, vI 0, vR b851, vR b863, vU, vU, vU, vU, vU, vU, vU, vU, vU, vU, vU, vU, vU, vU, vU] [(.int (1 : Int32)), (.int (0 : Int32)), (.ref b871), (.ref b871)]) := fun t h => k873 t (by
      show Steps p.tables e below (T871.setTop (mkF m 44 #[vI p1, vI p2, vI p3, vI cn, vI 0, vR b851, vR b863, vU, vU, vU, vU, vU, vU, vU, vU, vU, vU, vU, vU, vU, vU, vU] [(.ref b871)])) _
      refine XS.dup X871.here hx rfl (hb hby at_44) rfl rfl ?_
      refine XS.iconst X871.here hx rfl (hb hby at_45) ?_
      refine XS.iconst X871.here hx rfl (hb hby at_46) ?_
      exact h)
  obtain ⟨cl875, Ar875, q875, Sz875, Ng875, Hs875, G875⟩ := id V_b871
  have hin875 : ¬ ((0 : Int32) < 0 ∨ cl875.slots.size ≤ ((0 : Int32)).toNatClampNeg) := inb_of Sz875 ⟨by decide, by decide⟩
  obtain ⟨T875, h875, X875, e875, W875, st875⟩ := stI X871 hx hZ e871 Ar875 (j := (0 : Int32)) hin875 (g := (mkF m 47 #[vI p1, vI p2, vI p3, vI cn, vI 0, vR b851, vR b863, vU, vU, vU, vU, vU, vU, vU, vU, vU, vU, vU, vU, vU, vU, vU] [(.int (1 : Int32)), (.int (0 : Int32)), (.ref b871), (.ref b871)])) rfl rfl (hb hby at_47)
  have k877 : Rch p e below S0 T875 (mkF m 48 #[vI p1, vI p2, vI p3, vI cn, vI 0, vR b851, vR b863, vU, vU, vU, vU, vU, vU, vU, vU, vU, vU, vU, vU, vU, vU, vU] [(.ref b871)]) := fun t h => k876 t (st875 t h)
  have N875 := Fr.snoc X875 N867 ge_b871
  have V_b871' := Arv.set Ar875 q875 Sz875 Ng875 Hs875 G875 rfl W875 0 rfl (Nat.le_of_ble_eq_true rfl)
  replace V_b871 : Arv Z h875 b871 k871 .int (1 : Int32) [(.int (1 : Int32))] (.int (0 : Int32)) := V_b871'
  have O878 := O874.wr W875 ge_b871
  replace V_b851 := V_b851.other W875 ne_b851_b871
  replace V_b863 := V_b863.other W875 ne_b863_b871
  have k880 : Rch p e below S0 T875 (mkF m 70 #[vI p1, vI p2, vI p3, vI cn, vI 0, vR b851, vR b863, vR b871, vU, vU, vU, vU, vU, vU, vU, vU, vU, vU, vU, vU, vU, vU] [(.int (2 : Int32))]) := fun t h => k877 t (by
      show Steps p.tables e below (T875.setTop (mkF m 48 #[vI p1, vI p2, vI p3, vI cn, vI 0, vR b851, vR b863, vU, vU, vU, vU, vU, vU, vU, vU, vU, vU, vU, vU, vU, vU, vU] [(.ref b871)])) _
      refine XS.astore X875.here hx rfl (hb hby at_48) rfl rfl (l' := #[vI p1, vI p2, vI p3, vI cn, vI 0, vR b851, vR b863, vR b871, vU, vU, vU, vU, vU, vU, vU, vU, vU, vU, vU, vU, vU, vU]) rfl ?_
      refine XS.iload X875.here hx rfl (hb hby at_50) rfl ?_
      refine XS.ifYes X875.here hx rfl (pc0 := 52) (pc' := 69) rfl (hb hby at_52) rfl ((if0 _ _).trans (teq (by decide : (0 : Int32) = (0 : Int32))).1) (by decide) (by decide) ?_
      refine XS.iconst X875.here hx rfl (hb hby at_69) ?_
      exact h)
  obtain ⟨T879, h879, k879, X879, e879, E879, A879, st879⟩ := newP X875 hx hZ (hw _ (gm 4 rfl)) e875 (g := (mkF m 70 #[vI p1, vI p2, vI p3, vI cn, vI 0, vR b851, vR b863, vR b871, vU, vU, vU, vU, vU, vU, vU, vU, vU, vU, vU, vU, vU, vU] [(.int (2 : Int32))])) rfl (hb hby at_70) rfl (by decide) (cap := 2) (by decide) (by decide) (by decide) (by decide)
  obtain ⟨b879, g879⟩ : ∃ z, z = h875.size := ⟨_, rfl⟩
  rw [← g879] at A879 st879
  have k881 : Rch p e below S0 T879 (mkF m 72 #[vI p1, vI p2, vI p3, vI cn, vI 0, vR b851, vR b863, vR b871, vU, vU, vU, vU, vU, vU, vU, vU, vU, vU, vU, vU, vU, vU] [(.ref b879)]) := fun t h => k880 t (st879 t h)
  have ne_b851_b879 : b851 ≠ b879 := own_ne V_b851.lt (Nat.le_of_eq g879.symm)
  have ne_b863_b879 : b863 ≠ b879 := own_ne V_b863.lt (Nat.le_of_eq g879.symm)
  have ne_b871_b879 : b871 ≠ b879 := own_ne V_b871.lt (Nat.le_of_eq g879.symm)
  have ge_b879 : n0 ≤ b879 := own_ge O878 (Nat.le_of_eq g879.symm)
  have O882 := O878.ext E879
  replace V_b851 := V_b851.ext E879
  replace V_b863 := V_b863.ext E879
  replace V_b871 := V_b871.ext E879
  have V_b879 : Arv Z h879 b879 k879 .int (2 : Int32) [(.int (0 : Int32)), (.int (0 : Int32))] (.int (0 : Int32)) := (Arv.new A879 (by decide)).pad (pad_rep [] (.int (0 : Int32)) 2)
  have k884 : Rch p e below S0 T879 (mkF m 75 #[vI p1, vI p2, vI p3, vI cn, vI 0, vR b851, vR b863, vR b871, vU, vU, vU, vU, vU, vU, vU, vU, vU, vU, vU, vU, vU, vU] [(.int (0 : Int32)), (.int (0 : Int32)), (.ref b879), (.ref b879)]) := fun t h => k881 t (by
      show Steps p.tables e below (T879.setTop (mkF m 72 #[vI p1, vI p2, vI p3, vI cn, vI 0, vR b851, vR b863, vR b871, vU, vU, vU, vU, vU, vU, vU, vU, vU, vU, vU, vU, vU, vU] [(.ref b879)])) _
      refine XS.dup X879.here hx rfl (hb hby at_72) rfl rfl ?_
      refine XS.iconst X879.here hx rfl (hb hby at_73) ?_
      refine XS.iconst X879.here hx rfl (hb hby at_74) ?_
      exact h)
  obtain ⟨cl883, Ar883, q883, Sz883, Ng883, Hs883, G883⟩ := id V_b879
  have hin883 : ¬ ((0 : Int32) < 0 ∨ cl883.slots.size ≤ ((0 : Int32)).toNatClampNeg) := inb_of Sz883 ⟨by decide, by decide⟩
  obtain ⟨T883, h883, X883, e883, W883, st883⟩ := stI X879 hx hZ e879 Ar883 (j := (0 : Int32)) hin883 (g := (mkF m 75 #[vI p1, vI p2, vI p3, vI cn, vI 0, vR b851, vR b863, vR b871, vU, vU, vU, vU, vU, vU, vU, vU, vU, vU, vU, vU, vU, vU] [(.int (0 : Int32)), (.int (0 : Int32)), (.ref b879), (.ref b879)])) rfl rfl (hb hby at_75)
  have k885 : Rch p e below S0 T883 (mkF m 76 #[vI p1, vI p2, vI p3, vI cn, vI 0, vR b851, vR b863, vR b871, vU, vU, vU, vU, vU, vU, vU, vU, vU, vU, vU, vU, vU, vU] [(.ref b879)]) := fun t h => k884 t (st883 t h)
  have N883 := Fr.snoc X883 N875 ge_b879
  have V_b879' := Arv.set Ar883 q883 Sz883 Ng883 Hs883 G883 rfl W883 0 rfl (Nat.le_of_ble_eq_true rfl)
  replace V_b879 : Arv Z h883 b879 k879 .int (2 : Int32) [(.int (0 : Int32)), (.int (0 : Int32))] (.int (0 : Int32)) := V_b879'
  have O886 := O882.wr W883 ge_b879
  replace V_b851 := V_b851.other W883 ne_b851_b879
  replace V_b863 := V_b863.other W883 ne_b863_b879
  replace V_b871 := V_b871.other W883 ne_b871_b879
  have k888 : Rch p e below S0 T883 (mkF m 79 #[vI p1, vI p2, vI p3, vI cn, vI 0, vR b851, vR b863, vR b871, vU, vU, vU, vU, vU, vU, vU, vU, vU, vU, vU, vU, vU, vU] [(.int (1 : Int32)), (.int (1 : Int32)), (.ref b879), (.ref b879)]) := fun t h => k885 t (by
      show Steps p.tables e below (T883.setTop (mkF m 76 #[vI p1, vI p2, vI p3, vI cn, vI 0, vR b851, vR b863, vR b871, vU, vU, vU, vU, vU, vU, vU, vU, vU, vU, vU, vU, vU, vU] [(.ref b879)])) _
      refine XS.dup X883.here hx rfl (hb hby at_76) rfl rfl ?_
      refine XS.iconst X883.here hx rfl (hb hby at_77) ?_
      refine XS.iconst X883.here hx rfl (hb hby at_78) ?_
      exact h)
  obtain ⟨cl887, Ar887, q887, Sz887, Ng887, Hs887, G887⟩ := id V_b879
  have hin887 : ¬ ((1 : Int32) < 0 ∨ cl887.slots.size ≤ ((1 : Int32)).toNatClampNeg) := inb_of Sz887 ⟨by decide, by decide⟩
  obtain ⟨T887, h887, X887, e887, W887, st887⟩ := stI X883 hx hZ e883 Ar887 (j := (1 : Int32)) hin887 (g := (mkF m 79 #[vI p1, vI p2, vI p3, vI cn, vI 0, vR b851, vR b863, vR b871, vU, vU, vU, vU, vU, vU, vU, vU, vU, vU, vU, vU, vU, vU] [(.int (1 : Int32)), (.int (1 : Int32)), (.ref b879), (.ref b879)])) rfl rfl (hb hby at_79)
  have k889 : Rch p e below S0 T887 (mkF m 80 #[vI p1, vI p2, vI p3, vI cn, vI 0, vR b851, vR b863, vR b871, vU, vU, vU, vU, vU, vU, vU, vU, vU, vU, vU, vU, vU, vU] [(.ref b879)]) := fun t h => k888 t (st887 t h)
  have N887 := Fr.snoc X887 N883 ge_b879
  have V_b879' := Arv.set Ar887 q887 Sz887 Ng887 Hs887 G887 rfl W887 1 rfl (Nat.le_of_ble_eq_true rfl)
  replace V_b879 : Arv Z h887 b879 k879 .int (2 : Int32) [(.int (0 : Int32)), (.int (1 : Int32))] (.int (0 : Int32)) := V_b879'
  have O890 := O886.wr W887 ge_b879
  replace V_b851 := V_b851.other W887 ne_b851_b879
  replace V_b863 := V_b863.other W887 ne_b863_b879
  replace V_b871 := V_b871.other W887 ne_b871_b879
  have k892 : Rch p e below S0 T887 (mkF m 83 #[vI p1, vI p2, vI p3, vI cn, vI 0, vR b851, vR b863, vR b871, vR b879, vU, vU, vU, vU, vU, vU, vU, vU, vU, vU, vU, vU, vU] [(.int (2 : Int32))]) := fun t h => k889 t (by
      show Steps p.tables e below (T887.setTop (mkF m 80 #[vI p1, vI p2, vI p3, vI cn, vI 0, vR b851, vR b863, vR b871, vU, vU, vU, vU, vU, vU, vU, vU, vU, vU, vU, vU, vU, vU] [(.ref b879)])) _
      refine XS.astore X887.here hx rfl (hb hby at_80) rfl rfl (l' := #[vI p1, vI p2, vI p3, vI cn, vI 0, vR b851, vR b863, vR b871, vR b879, vU, vU, vU, vU, vU, vU, vU, vU, vU, vU, vU, vU, vU]) rfl ?_
      refine XS.iconst X887.here hx rfl (hb hby at_82) ?_
      exact h)
  obtain ⟨T891, h891, k891, X891, e891, E891, A891, st891⟩ := newP X887 hx hZ (hw _ (gm 4 rfl)) e887 (g := (mkF m 83 #[vI p1, vI p2, vI p3, vI cn, vI 0, vR b851, vR b863, vR b871, vR b879, vU, vU, vU, vU, vU, vU, vU, vU, vU, vU, vU, vU, vU] [(.int (2 : Int32))])) rfl (hb hby at_83) rfl (by decide) (cap := 2) (by decide) (by decide) (by decide) (by decide)
  obtain ⟨b891, g891⟩ : ∃ z, z = h887.size := ⟨_, rfl⟩
  rw [← g891] at A891 st891
  have k893 : Rch p e below S0 T891 (mkF m 85 #[vI p1, vI p2, vI p3, vI cn, vI 0, vR b851, vR b863, vR b871, vR b879, vU, vU, vU, vU, vU, vU, vU, vU, vU, vU, vU, vU, vU] [(.ref b891)]) := fun t h => k892 t (st891 t h)
  have ne_b851_b891 : b851 ≠ b891 := own_ne V_b851.lt (Nat.le_of_eq g891.symm)
  have ne_b863_b891 : b863 ≠ b891 := own_ne V_b863.lt (Nat.le_of_eq g891.symm)
  have ne_b871_b891 : b871 ≠ b891 := own_ne V_b871.lt (Nat.le_of_eq g891.symm)
  have ne_b879_b891 : b879 ≠ b891 := own_ne V_b879.lt (Nat.le_of_eq g891.symm)
  have ge_b891 : n0 ≤ b891 := own_ge O890 (Nat.le_of_eq g891.symm)
  have O894 := O890.ext E891
  replace V_b851 := V_b851.ext E891
  replace V_b863 := V_b863.ext E891
  replace V_b871 := V_b871.ext E891
  replace V_b879 := V_b879.ext E891
  have V_b891 : Arv Z h891 b891 k891 .int (2 : Int32) [(.int (0 : Int32)), (.int (0 : Int32))] (.int (0 : Int32)) := (Arv.new A891 (by decide)).pad (pad_rep [] (.int (0 : Int32)) 2)
  have k896 : Rch p e below S0 T891 (mkF m 88 #[vI p1, vI p2, vI p3, vI cn, vI 0, vR b851, vR b863, vR b871, vR b879, vU, vU, vU, vU, vU, vU, vU, vU, vU, vU, vU, vU, vU] [(.int (0 : Int32)), (.int (0 : Int32)), (.ref b891), (.ref b891)]) := fun t h => k893 t (by
      show Steps p.tables e below (T891.setTop (mkF m 85 #[vI p1, vI p2, vI p3, vI cn, vI 0, vR b851, vR b863, vR b871, vR b879, vU, vU, vU, vU, vU, vU, vU, vU, vU, vU, vU, vU, vU] [(.ref b891)])) _
      refine XS.dup X891.here hx rfl (hb hby at_85) rfl rfl ?_
      refine XS.iconst X891.here hx rfl (hb hby at_86) ?_
      refine XS.iconst X891.here hx rfl (hb hby at_87) ?_
      exact h)
  obtain ⟨cl895, Ar895, q895, Sz895, Ng895, Hs895, G895⟩ := id V_b891
  have hin895 : ¬ ((0 : Int32) < 0 ∨ cl895.slots.size ≤ ((0 : Int32)).toNatClampNeg) := inb_of Sz895 ⟨by decide, by decide⟩
  obtain ⟨T895, h895, X895, e895, W895, st895⟩ := stI X891 hx hZ e891 Ar895 (j := (0 : Int32)) hin895 (g := (mkF m 88 #[vI p1, vI p2, vI p3, vI cn, vI 0, vR b851, vR b863, vR b871, vR b879, vU, vU, vU, vU, vU, vU, vU, vU, vU, vU, vU, vU, vU] [(.int (0 : Int32)), (.int (0 : Int32)), (.ref b891), (.ref b891)])) rfl rfl (hb hby at_88)
  have k897 : Rch p e below S0 T895 (mkF m 89 #[vI p1, vI p2, vI p3, vI cn, vI 0, vR b851, vR b863, vR b871, vR b879, vU, vU, vU, vU, vU, vU, vU, vU, vU, vU, vU, vU, vU] [(.ref b891)]) := fun t h => k896 t (st895 t h)
  have N895 := Fr.snoc X895 N887 ge_b891
  have V_b891' := Arv.set Ar895 q895 Sz895 Ng895 Hs895 G895 rfl W895 0 rfl (Nat.le_of_ble_eq_true rfl)
  replace V_b891 : Arv Z h895 b891 k891 .int (2 : Int32) [(.int (0 : Int32)), (.int (0 : Int32))] (.int (0 : Int32)) := V_b891'
  have O898 := O894.wr W895 ge_b891
  replace V_b851 := V_b851.other W895 ne_b851_b891
  replace V_b863 := V_b863.other W895 ne_b863_b891
  replace V_b871 := V_b871.other W895 ne_b871_b891
  replace V_b879 := V_b879.other W895 ne_b879_b891
  have k900 : Rch p e below S0 T895 (mkF m 92 #[vI p1, vI p2, vI p3, vI cn, vI 0, vR b851, vR b863, vR b871, vR b879, vU, vU, vU, vU, vU, vU, vU, vU, vU, vU, vU, vU, vU] [(.int (1 : Int32)), (.int (1 : Int32)), (.ref b891), (.ref b891)]) := fun t h => k897 t (by
      show Steps p.tables e below (T895.setTop (mkF m 89 #[vI p1, vI p2, vI p3, vI cn, vI 0, vR b851, vR b863, vR b871, vR b879, vU, vU, vU, vU, vU, vU, vU, vU, vU, vU, vU, vU, vU] [(.ref b891)])) _
      refine XS.dup X895.here hx rfl (hb hby at_89) rfl rfl ?_
      refine XS.iconst X895.here hx rfl (hb hby at_90) ?_
      refine XS.iconst X895.here hx rfl (hb hby at_91) ?_
      exact h)
  obtain ⟨cl899, Ar899, q899, Sz899, Ng899, Hs899, G899⟩ := id V_b891
  have hin899 : ¬ ((1 : Int32) < 0 ∨ cl899.slots.size ≤ ((1 : Int32)).toNatClampNeg) := inb_of Sz899 ⟨by decide, by decide⟩
  obtain ⟨T899, h899, X899, e899, W899, st899⟩ := stI X895 hx hZ e895 Ar899 (j := (1 : Int32)) hin899 (g := (mkF m 92 #[vI p1, vI p2, vI p3, vI cn, vI 0, vR b851, vR b863, vR b871, vR b879, vU, vU, vU, vU, vU, vU, vU, vU, vU, vU, vU, vU, vU] [(.int (1 : Int32)), (.int (1 : Int32)), (.ref b891), (.ref b891)])) rfl rfl (hb hby at_92)
  have k901 : Rch p e below S0 T899 (mkF m 93 #[vI p1, vI p2, vI p3, vI cn, vI 0, vR b851, vR b863, vR b871, vR b879, vU, vU, vU, vU, vU, vU, vU, vU, vU, vU, vU, vU, vU] [(.ref b891)]) := fun t h => k900 t (st899 t h)
  have N899 := Fr.snoc X899 N895 ge_b891
  have V_b891' := Arv.set Ar899 q899 Sz899 Ng899 Hs899 G899 rfl W899 1 rfl (Nat.le_of_ble_eq_true rfl)
  replace V_b891 : Arv Z h899 b891 k891 .int (2 : Int32) [(.int (0 : Int32)), (.int (1 : Int32))] (.int (0 : Int32)) := V_b891'
  have O902 := O898.wr W899 ge_b891
  replace V_b851 := V_b851.other W899 ne_b851_b891
  replace V_b863 := V_b863.other W899 ne_b863_b891
  replace V_b871 := V_b871.other W899 ne_b871_b891
  replace V_b879 := V_b879.other W899 ne_b879_b891
  have k904 : Rch p e below S0 T899 (mkF m 95 #[vI p1, vI p2, vI p3, vI cn, vI 0, vR b851, vR b863, vR b871, vR b879, vR b891, vU, vU, vU, vU, vU, vU, vU, vU, vU, vU, vU, vU] []) := fun t h => k901 t (by
      show Steps p.tables e below (T899.setTop (mkF m 93 #[vI p1, vI p2, vI p3, vI cn, vI 0, vR b851, vR b863, vR b871, vR b879, vU, vU, vU, vU, vU, vU, vU, vU, vU, vU, vU, vU, vU] [(.ref b891)])) _
      refine XS.astore X899.here hx rfl (hb hby at_93) rfl rfl (l' := #[vI p1, vI p2, vI p3, vI cn, vI 0, vR b851, vR b863, vR b871, vR b879, vR b891, vU, vU, vU, vU, vU, vU, vU, vU, vU, vU, vU, vU]) rfl ?_
      exact h)
  obtain ⟨T903, h903, X903, e903, E903, A903, D903, -, st903⟩ := newO X899 hx hZ hown (hw _ (gm 5 rfl)) (hw _ (gm 6 rfl)) (hw _ (gm 7 rfl)) e899 (g := (mkF m 95 #[vI p1, vI p2, vI p3, vI cn, vI 0, vR b851, vR b863, vR b871, vR b879, vR b891, vU, vU, vU, vU, vU, vU, vU, vU, vU, vU, vU, vU] [])) rfl (hb hby at_95) (by decide) (by decide)
  obtain ⟨b903, g903⟩ : ∃ z, z = h899.size := ⟨_, rfl⟩
  rw [← g903] at A903 D903 st903
  have k905 : Rch p e below S0 T903 (mkF m 98 #[vI p1, vI p2, vI p3, vI cn, vI 0, vR b851, vR b863, vR b871, vR b879, vR b891, vU, vU, vU, vU, vU, vU, vU, vU, vU, vU, vU, vU] [(.ref b903)]) := fun t h => k904 t (st903 t h)
  have ne_b851_b903 : b851 ≠ b903 := own_ne V_b851.lt (Nat.le_of_eq g903.symm)
  have ne_b863_b903 : b863 ≠ b903 := own_ne V_b863.lt (Nat.le_of_eq g903.symm)
  have ne_b871_b903 : b871 ≠ b903 := own_ne V_b871.lt (Nat.le_of_eq g903.symm)
  have ne_b879_b903 : b879 ≠ b903 := own_ne V_b879.lt (Nat.le_of_eq g903.symm)
  have ne_b891_b903 : b891 ≠ b903 := own_ne V_b891.lt (Nat.le_of_eq g903.symm)
  have ge_b903 : n0 ≤ b903 := own_ge O902 (Nat.le_of_eq g903.symm)
  have O906 := O902.ext E903
  replace V_b851 := V_b851.ext E903
  replace V_b863 := V_b863.ext E903
  replace V_b871 := V_b871.ext E903
  replace V_b879 := V_b879.ext E903
  replace V_b891 := V_b891.ext E903
  have E_b903 := A903
  have F_b903_count : Fld Z h903 b903 "com/example/lumenplan/lumenplan/simulation/Wavelengths" "count" "I" (.int (0 : Int32)) := D903 (Or.inr (hw _ (gm 15 rfl))) (ty := .int) (by decide)
  have F_b903_words : Fld Z h903 b903 "com/example/lumenplan/lumenplan/simulation/Wavelengths" "words" "I" (.int (0 : Int32)) := D903 (Or.inr (hw _ (gm 18 rfl))) (ty := .int) (by decide)
  have F_b903_held : Fld Z h903 b903 "com/example/lumenplan/lumenplan/simulation/Wavelengths" "held" "[[J" .null := D903 (Or.inr (hw _ (gm 23 rfl))) (ty := (.array (.array .long))) (by decide)
  have k907 : Rch p e below S0 T903 (mkF m 101 #[vI p1, vI p2, vI p3, vI cn, vI 0, vR b851, vR b863, vR b871, vR b879, vR b891, vU, vU, vU, vU, vU, vU, vU, vU, vU, vU, vU, vU] [(.int cn), (.int (2 : Int32)), (.ref b903), (.ref b903)]) := fun t h => k905 t (by
      show Steps p.tables e below (T903.setTop (mkF m 98 #[vI p1, vI p2, vI p3, vI cn, vI 0, vR b851, vR b863, vR b871, vR b879, vR b891, vU, vU, vU, vU, vU, vU, vU, vU, vU, vU, vU, vU] [(.ref b903)])) _
      refine XS.dup X903.here hx rfl (hb hby at_98) rfl rfl ?_
      refine XS.iconst X903.here hx rfl (hb hby at_99) ?_
      refine XS.iloadN X903.here hx rfl (hb hby at_100) rfl ?_
      exact h)
  obtain ⟨_, _, ⟨T908, L908, kk908, n908⟩, -, X908, ⟨Lc908, hQ908, l908, y908, z908⟩, st908⟩ := X903.specialBack hx (y := (⟨"com/example/lumenplan/lumenplan/simulation/Wavelengths", "<init>", "(II)V"⟩ : MethodName)) rfl hown (mvT hZ (hw _ (gm 8 rfl))) (mvT hZ (hw _ (gm 9 rfl))) (mvT hZ (hw _ (gm 10 rfl))) (by decide) (backOf (W := 1) (rmN l Z a0 hw []  b903 cn wd h903 n0 O906 ge_b903 E_b903 F_b903_count F_b903_words F_b903_held hwd) hZ (hw _ (gm 10 rfl)) (hw _ (gm 7 rfl)) (by decide) (by decide)) (g := (mkF m 101 #[vI p1, vI p2, vI p3, vI cn, vI 0, vR b851, vR b863, vR b871, vR b879, vR b891, vU, vU, vU, vU, vU, vU, vU, vU, vU, vU, vU, vU] [(.int cn), (.int (2 : Int32)), (.ref b903), (.ref b903)])) rfl (by rw [hml]; rfl) (Steps.refl _) (a := b903) (argsL := [(.int (2 : Int32)), (.int cn)]) (rest := [(.ref b903)]) (lenOf pd_1 rfl) rfl (by show 2 * 0 + _ ≤ _; exact Nat.le_of_eq rfl) (hb hby at_101) (fun _ _ => ⟨rfl, e903, (by decide : 6 + 3 ≤ _), (by decide : 11 + 4 ≤ _)⟩)
  dsimp only [Pt.U, Pt.locs, Pt.cells, Pt.slots] at X908 l908 y908 z908 st908 hQ908
  subst l908 y908 z908
  obtain ⟨aH, rA, rB, kH, kL, rfl, Nq908, K908, zH908, zA908, zB908, ne_aH_rA, ne_aH_rB, ne_rA_rB, Fc908, Fw908, Fh908, VH, VA, VB⟩ := hQ908
  have N908 := Fr.app N899 Nq908
  have k909 : Rch p e below S0 T908 (mkF m 104 #[vI p1, vI p2, vI p3, vI cn, vI 0, vR b851, vR b863, vR b871, vR b879, vR b891, vU, vU, vU, vU, vU, vU, vU, vU, vU, vU, vU, vU] [(.ref b903)]) := fun t h => k907 t (st908.trans h)
  have ne_b851_aH : b851 ≠ aH := own_ne V_b851.lt zH908
  have ne_b863_aH : b863 ≠ aH := own_ne V_b863.lt zH908
  have ne_b871_aH : b871 ≠ aH := own_ne V_b871.lt zH908
  have ne_b879_aH : b879 ≠ aH := own_ne V_b879.lt zH908
  have ne_b891_aH : b891 ≠ aH := own_ne V_b891.lt zH908
  have ne_b903_aH : b903 ≠ aH := own_ne E_b903.lt zH908
  have ge_aH : n0 ≤ aH := own_ge O906 zH908
  have ne_b851_rA : b851 ≠ rA := own_ne V_b851.lt zA908
  have ne_b863_rA : b863 ≠ rA := own_ne V_b863.lt zA908
  have ne_b871_rA : b871 ≠ rA := own_ne V_b871.lt zA908
  have ne_b879_rA : b879 ≠ rA := own_ne V_b879.lt zA908
  have ne_b891_rA : b891 ≠ rA := own_ne V_b891.lt zA908
  have ne_b903_rA : b903 ≠ rA := own_ne E_b903.lt zA908
  have ge_rA : n0 ≤ rA := own_ge O906 zA908
  have ne_b851_rB : b851 ≠ rB := own_ne V_b851.lt zB908
  have ne_b863_rB : b863 ≠ rB := own_ne V_b863.lt zB908
  have ne_b871_rB : b871 ≠ rB := own_ne V_b871.lt zB908
  have ne_b879_rB : b879 ≠ rB := own_ne V_b879.lt zB908
  have ne_b891_rB : b891 ≠ rB := own_ne V_b891.lt zB908
  have ne_b903_rB : b903 ≠ rB := own_ne E_b903.lt zB908
  have ge_rB : n0 ≤ rB := own_ge O906 zB908
  have O910 := O906.keep K908 (allS ge_b903 all0)
  replace V_b851 := V_b851.keep K908 (ninS ne_b851_b903 nin0)
  replace V_b863 := V_b863.keep K908 (ninS ne_b863_b903 nin0)
  replace V_b871 := V_b871.keep K908 (ninS ne_b871_b903 nin0)
  replace V_b879 := V_b879.keep K908 (ninS ne_b879_b903 nin0)
  replace V_b891 := V_b891.keep K908 (ninS ne_b891_b903 nin0)
  replace E_b903 := E_b903.keep K908
  have k912 : Rch p e below S0 T908 (mkF m 110 #[vI p1, vI p2, vI p3, vI cn, vI 0, vR b851, vR b863, vR b871, vR b879, vR b891, vR b903, vU, vU, vU, vU, vU, vU, vU, vU, vU, vU, vU] [(.ref b851), (.ref b903)]) := fun t h => k909 t (by
      show Steps p.tables e below (T908.setTop (mkF m 104 #[vI p1, vI p2, vI p3, vI cn, vI 0, vR b851, vR b863, vR b871, vR b879, vR b891, vU, vU, vU, vU, vU, vU, vU, vU, vU, vU, vU, vU] [(.ref b903)])) _
      refine XS.astore X908.here hx rfl (hb hby at_104) rfl rfl (l' := #[vI p1, vI p2, vI p3, vI cn, vI 0, vR b851, vR b863, vR b871, vR b879, vR b891, vR b903, vU, vU, vU, vU, vU, vU, vU, vU, vU, vU, vU]) rfl ?_
      refine XS.aload X908.here hx rfl (hb hby at_106) rfl rfl ?_
      refine XS.aload X908.here hx rfl (hb hby at_108) rfl rfl ?_
      exact h)
  obtain ⟨T911, X911, e911, st911⟩ := getS2 X908 hx hZ hown (host := "") (Or.inl (hw _ (gm 24 rfl))) Via.refl rfl (SN.ext O910.2) (g := (mkF m 110 #[vI p1, vI p2, vI p3, vI cn, vI 0, vR b851, vR b863, vR b871, vR b879, vR b891, vR b903, vU, vU, vU, vU, vU, vU, vU, vU, vU, vU, vU] [(.ref b851), (.ref b903)])) rfl (hb hby at_110)
  have k913 : Rch p e below S0 T911 (mkF m 113 #[vI p1, vI p2, vI p3, vI cn, vI 0, vR b851, vR b863, vR b871, vR b879, vR b891, vR b903, vU, vU, vU, vU, vU, vU, vU, vU, vU, vU, vU] [(.ref wN), (.ref b851), (.ref b903)]) := fun t h => k912 t (st911 t h)
  obtain ⟨cq914, kq914, q914a, q914b, q914c⟩ := isOf hZ e911 E_b903
  obtain ⟨_, _, ⟨T914, L914, kk914, n914⟩, -, X914, ⟨Lc914, hQ914, l914, y914, z914⟩, st914⟩ := X911.virtualBack hx (y := (⟨"com/example/lumenplan/lumenplan/simulation/Wavelengths", "take", "([ILcom/example/lumenplan/lumenplan/simulation/Conversion;)[I"⟩ : MethodName)) (z := (⟨"com/example/lumenplan/lumenplan/simulation/Wavelengths", "take", "([ILcom/example/lumenplan/lumenplan/simulation/Conversion;)[I"⟩ : MethodName)) hown (mvT hZ (hw _ (gm 27 rfl))) (mvT hZ (hw _ (gm 28 rfl))) (notFace_of_selects (args := #[]) (mvT hZ (hw _ (gm 30 rfl)))) (mvT hZ (hw _ (gm 30 rfl))) (mvT hZ (hw _ (gm 29 rfl))) (by decide) (backOf (W := 0) (rmT_F l Z a0 hw []  b903 aH rA rB kH kL cn wd (0 : Int64) (0 : Int64) b851 k851 (0 : Int32) wN T908.heap n0 O910 ge_rA ge_rB E_b903 Fh908 VH VA VB Fc908 Fw908 V_b851 SN (by decide) hw0 (own_lt3 h3).1 (fun q => ne_b903_rA q) (fun q => ne_b903_rB q) (fun q => ne_aH_rA q) (fun q => ne_aH_rB q) (fun q => ne_rA_rB q) (fun q => ne_b851_rA q) (fun q => ne_b851_rB q)) hZ (hw _ (gm 31 rfl)) (hw _ (gm 7 rfl)) (by decide) (by decide)) q914a q914c (g := (mkF m 113 #[vI p1, vI p2, vI p3, vI cn, vI 0, vR b851, vR b863, vR b871, vR b879, vR b891, vR b903, vU, vU, vU, vU, vU, vU, vU, vU, vU, vU, vU] [(.ref wN), (.ref b851), (.ref b903)])) rfl (by rw [hml]; rfl) (Steps.refl _) (argsL := [(.ref b851), (.ref wN)]) (rest := []) (lenOf pd_3 rfl) rfl (by show 2 * 0 + _ ≤ _; exact Nat.le_of_eq rfl) (hb hby at_113) (fun _ _ => ⟨rfl, e911, (by decide : 9 + 1 ≤ _), (by decide : 15 + 2 ≤ _)⟩)
  dsimp only [Pt.U, Pt.locs, Pt.cells, Pt.slots] at X914 l914 y914 z914 st914 hQ914
  subst l914 y914 z914
  obtain ⟨x914, kx914, rfl, Nq914, K914, zx914, Vx914, VA914, VB914⟩ := hQ914
  have N914 := Fr.app N908 Nq914
  have k915 : Rch p e below S0 T914 (mkF m 116 #[vI p1, vI p2, vI p3, vI cn, vI 0, vR b851, vR b863, vR b871, vR b879, vR b891, vR b903, vU, vU, vU, vU, vU, vU, vU, vU, vU, vU, vU] [(.ref x914)]) := fun t h => k913 t (st914.trans h)
  have ne_b851_x914 : b851 ≠ x914 := own_ne V_b851.lt zx914
  have ne_b863_x914 : b863 ≠ x914 := own_ne V_b863.lt zx914
  have ne_b871_x914 : b871 ≠ x914 := own_ne V_b871.lt zx914
  have ne_b879_x914 : b879 ≠ x914 := own_ne V_b879.lt zx914
  have ne_b891_x914 : b891 ≠ x914 := own_ne V_b891.lt zx914
  have ne_b903_x914 : b903 ≠ x914 := own_ne E_b903.lt zx914
  have ne_aH_x914 : aH ≠ x914 := own_ne VH.lt zx914
  have ne_rA_x914 : rA ≠ x914 := own_ne VA.lt zx914
  have ne_rB_x914 : rB ≠ x914 := own_ne VB.lt zx914
  have ge_x914 : n0 ≤ x914 := own_ge O910 zx914
  have O916 := O910.keep K914 (allS ge_rA (allS ge_rB all0))
  replace V_b851 := V_b851.keep K914 (ninS ne_b851_rA (ninS ne_b851_rB nin0))
  replace V_b863 := V_b863.keep K914 (ninS ne_b863_rA (ninS ne_b863_rB nin0))
  replace V_b871 := V_b871.keep K914 (ninS ne_b871_rA (ninS ne_b871_rB nin0))
  replace V_b879 := V_b879.keep K914 (ninS ne_b879_rA (ninS ne_b879_rB nin0))
  replace V_b891 := V_b891.keep K914 (ninS ne_b891_rA (ninS ne_b891_rB nin0))
  replace E_b903 := E_b903.keep K914
  replace Fc908 := Fc908.keep K914 (ninS ne_b903_rA (ninS ne_b903_rB nin0))
  replace Fw908 := Fw908.keep K914 (ninS ne_b903_rA (ninS ne_b903_rB nin0))
  replace Fh908 := Fh908.keep K914 (ninS ne_b903_rA (ninS ne_b903_rB nin0))
  replace VH := VH.keep K914 (ninS ne_aH_rA (ninS ne_aH_rB nin0))
  rw [(by decide : ((0 : Int64) ||| ((1 : Int64) <<< ((0 : Int32) &&& 0x3f).toInt64)) = (1 : Int64))] at VA914
  rw [(by decide : ((0 : Int64) ||| ((1 : Int64) <<< ((0 : Int32) &&& 0x3f).toInt64)) = (1 : Int64))] at VB914
  have k918 : Rch p e below S0 T914 (mkF m 122 #[vI p1, vI p2, vI p3, vI cn, vI 0, vR b851, vR b863, vR b871, vR b879, vR b891, vR b903, vR x914, vU, vU, vU, vU, vU, vU, vU, vU, vU, vU] [(.ref b863), (.ref b903)]) := fun t h => k915 t (by
      show Steps p.tables e below (T914.setTop (mkF m 116 #[vI p1, vI p2, vI p3, vI cn, vI 0, vR b851, vR b863, vR b871, vR b879, vR b891, vR b903, vU, vU, vU, vU, vU, vU, vU, vU, vU, vU, vU] [(.ref x914)])) _
      refine XS.astore X914.here hx rfl (hb hby at_116) rfl rfl (l' := #[vI p1, vI p2, vI p3, vI cn, vI 0, vR b851, vR b863, vR b871, vR b879, vR b891, vR b903, vR x914, vU, vU, vU, vU, vU, vU, vU, vU, vU, vU]) rfl ?_
      refine XS.aload X914.here hx rfl (hb hby at_118) rfl rfl ?_
      refine XS.aload X914.here hx rfl (hb hby at_120) rfl rfl ?_
      exact h)
  obtain ⟨T917, X917, e917, st917⟩ := getS2 X914 hx hZ hown (host := "") (Or.inl (hw _ (gm 24 rfl))) Via.refl rfl (SN.ext O916.2) (g := (mkF m 122 #[vI p1, vI p2, vI p3, vI cn, vI 0, vR b851, vR b863, vR b871, vR b879, vR b891, vR b903, vR x914, vU, vU, vU, vU, vU, vU, vU, vU, vU, vU] [(.ref b863), (.ref b903)])) rfl (hb hby at_122)
  have k919 : Rch p e below S0 T917 (mkF m 125 #[vI p1, vI p2, vI p3, vI cn, vI 0, vR b851, vR b863, vR b871, vR b879, vR b891, vR b903, vR x914, vU, vU, vU, vU, vU, vU, vU, vU, vU, vU] [(.ref wN), (.ref b863), (.ref b903)]) := fun t h => k918 t (st917 t h)
  obtain ⟨cq920, kq920, q920a, q920b, q920c⟩ := isOf hZ e917 E_b903
  obtain ⟨_, _, ⟨T920, L920, kk920, n920⟩, -, X920, ⟨Lc920, hQ920, l920, y920, z920⟩, st920⟩ := X917.virtualBack hx (y := (⟨"com/example/lumenplan/lumenplan/simulation/Wavelengths", "take", "([ILcom/example/lumenplan/lumenplan/simulation/Conversion;)[I"⟩ : MethodName)) (z := (⟨"com/example/lumenplan/lumenplan/simulation/Wavelengths", "take", "([ILcom/example/lumenplan/lumenplan/simulation/Conversion;)[I"⟩ : MethodName)) hown (mvT hZ (hw _ (gm 27 rfl))) (mvT hZ (hw _ (gm 28 rfl))) (notFace_of_selects (args := #[]) (mvT hZ (hw _ (gm 30 rfl)))) (mvT hZ (hw _ (gm 30 rfl))) (mvT hZ (hw _ (gm 29 rfl))) (by decide) (backOf (W := 0) (rmT_A l Z a0 hw []  b903 aH rA rB kH kL cn wd (1 : Int64) (1 : Int64) b863 k863 (1 : Int32) wN T914.heap n0 O916 ge_rA ge_rB E_b903 Fh908 VH VA914 VB914 Fc908 Fw908 V_b863 SN (by decide) hw0 (own_lt3 h3).2.1 (fun q => ne_b903_rA q) (fun q => ne_b903_rB q) (fun q => ne_aH_rA q) (fun q => ne_aH_rB q) (fun q => ne_rA_rB q) (fun q => ne_b863_rA q) (fun q => ne_b863_rB q)) hZ (hw _ (gm 31 rfl)) (hw _ (gm 7 rfl)) (by decide) (by decide)) q920a q920c (g := (mkF m 125 #[vI p1, vI p2, vI p3, vI cn, vI 0, vR b851, vR b863, vR b871, vR b879, vR b891, vR b903, vR x914, vU, vU, vU, vU, vU, vU, vU, vU, vU, vU] [(.ref wN), (.ref b863), (.ref b903)])) rfl (by rw [hml]; rfl) (Steps.refl _) (argsL := [(.ref b863), (.ref wN)]) (rest := []) (lenOf pd_3 rfl) rfl (by show 2 * 0 + _ ≤ _; exact Nat.le_of_eq rfl) (hb hby at_125) (fun _ _ => ⟨rfl, e917, (by decide : 10 + 1 ≤ _), (by decide : 17 + 2 ≤ _)⟩)
  dsimp only [Pt.U, Pt.locs, Pt.cells, Pt.slots] at X920 l920 y920 z920 st920 hQ920
  subst l920 y920 z920
  obtain ⟨x920, kx920, rfl, Nq920, K920, zx920, Vx920, VA920, VB920⟩ := hQ920
  have N920 := Fr.app N914 Nq920
  have k921 : Rch p e below S0 T920 (mkF m 128 #[vI p1, vI p2, vI p3, vI cn, vI 0, vR b851, vR b863, vR b871, vR b879, vR b891, vR b903, vR x914, vU, vU, vU, vU, vU, vU, vU, vU, vU, vU] [(.ref x920)]) := fun t h => k919 t (st920.trans h)
  have ne_b851_x920 : b851 ≠ x920 := own_ne V_b851.lt zx920
  have ne_b863_x920 : b863 ≠ x920 := own_ne V_b863.lt zx920
  have ne_b871_x920 : b871 ≠ x920 := own_ne V_b871.lt zx920
  have ne_b879_x920 : b879 ≠ x920 := own_ne V_b879.lt zx920
  have ne_b891_x920 : b891 ≠ x920 := own_ne V_b891.lt zx920
  have ne_b903_x920 : b903 ≠ x920 := own_ne E_b903.lt zx920
  have ne_aH_x920 : aH ≠ x920 := own_ne VH.lt zx920
  have ne_rA_x920 : rA ≠ x920 := own_ne VA914.lt zx920
  have ne_rB_x920 : rB ≠ x920 := own_ne VB914.lt zx920
  have ne_x914_x920 : x914 ≠ x920 := own_ne Vx914.lt zx920
  have ge_x920 : n0 ≤ x920 := own_ge O916 zx920
  have O922 := O916.keep K920 (allS ge_rA (allS ge_rB all0))
  replace V_b851 := V_b851.keep K920 (ninS ne_b851_rA (ninS ne_b851_rB nin0))
  replace V_b863 := V_b863.keep K920 (ninS ne_b863_rA (ninS ne_b863_rB nin0))
  replace V_b871 := V_b871.keep K920 (ninS ne_b871_rA (ninS ne_b871_rB nin0))
  replace V_b879 := V_b879.keep K920 (ninS ne_b879_rA (ninS ne_b879_rB nin0))
  replace V_b891 := V_b891.keep K920 (ninS ne_b891_rA (ninS ne_b891_rB nin0))
  replace E_b903 := E_b903.keep K920
  replace Fc908 := Fc908.keep K920 (ninS ne_b903_rA (ninS ne_b903_rB nin0))
  replace Fw908 := Fw908.keep K920 (ninS ne_b903_rA (ninS ne_b903_rB nin0))
  replace Fh908 := Fh908.keep K920 (ninS ne_b903_rA (ninS ne_b903_rB nin0))
  replace VH := VH.keep K920 (ninS ne_aH_rA (ninS ne_aH_rB nin0))
  replace Vx914 := Vx914.keep K920 (ninS (Ne.symm ne_rA_x914) (ninS (Ne.symm ne_rB_x914) nin0))
  rw [(by decide : ((1 : Int64) ||| ((1 : Int64) <<< ((1 : Int32) &&& 0x3f).toInt64)) = (3 : Int64))] at VA920
  have k924 : Rch p e below S0 T920 (mkF m 134 #[vI p1, vI p2, vI p3, vI cn, vI 0, vR b851, vR b863, vR b871, vR b879, vR b891, vR b903, vR x914, vR x920, vU, vU, vU, vU, vU, vU, vU, vU, vU] [(.ref b871), (.ref b903)]) := fun t h => k921 t (by
      show Steps p.tables e below (T920.setTop (mkF m 128 #[vI p1, vI p2, vI p3, vI cn, vI 0, vR b851, vR b863, vR b871, vR b879, vR b891, vR b903, vR x914, vU, vU, vU, vU, vU, vU, vU, vU, vU, vU] [(.ref x920)])) _
      refine XS.astore X920.here hx rfl (hb hby at_128) rfl rfl (l' := #[vI p1, vI p2, vI p3, vI cn, vI 0, vR b851, vR b863, vR b871, vR b879, vR b891, vR b903, vR x914, vR x920, vU, vU, vU, vU, vU, vU, vU, vU, vU]) rfl ?_
      refine XS.aload X920.here hx rfl (hb hby at_130) rfl rfl ?_
      refine XS.aload X920.here hx rfl (hb hby at_132) rfl rfl ?_
      exact h)
  obtain ⟨T923, X923, e923, st923⟩ := getS2 X920 hx hZ hown (host := "") (Or.inl (hw _ (gm 24 rfl))) Via.refl rfl (SN.ext O922.2) (g := (mkF m 134 #[vI p1, vI p2, vI p3, vI cn, vI 0, vR b851, vR b863, vR b871, vR b879, vR b891, vR b903, vR x914, vR x920, vU, vU, vU, vU, vU, vU, vU, vU, vU] [(.ref b871), (.ref b903)])) rfl (hb hby at_134)
  have k925 : Rch p e below S0 T923 (mkF m 137 #[vI p1, vI p2, vI p3, vI cn, vI 0, vR b851, vR b863, vR b871, vR b879, vR b891, vR b903, vR x914, vR x920, vU, vU, vU, vU, vU, vU, vU, vU, vU] [(.ref wN), (.ref b871), (.ref b903)]) := fun t h => k924 t (st923 t h)
  obtain ⟨cq926, kq926, q926a, q926b, q926c⟩ := isOf hZ e923 E_b903
  obtain ⟨_, _, ⟨T926, L926, kk926, n926⟩, -, X926, ⟨Lc926, hQ926, l926, y926, z926⟩, st926⟩ := X923.virtualBack hx (y := (⟨"com/example/lumenplan/lumenplan/simulation/Wavelengths", "take", "([ILcom/example/lumenplan/lumenplan/simulation/Conversion;)[I"⟩ : MethodName)) (z := (⟨"com/example/lumenplan/lumenplan/simulation/Wavelengths", "take", "([ILcom/example/lumenplan/lumenplan/simulation/Conversion;)[I"⟩ : MethodName)) hown (mvT hZ (hw _ (gm 27 rfl))) (mvT hZ (hw _ (gm 28 rfl))) (notFace_of_selects (args := #[]) (mvT hZ (hw _ (gm 30 rfl)))) (mvT hZ (hw _ (gm 30 rfl))) (mvT hZ (hw _ (gm 29 rfl))) (by decide) (backOf (W := 0) (rmT_B l Z a0 hw []  b903 aH rA rB kH kL cn wd (3 : Int64) (1 : Int64) b871 k871 (1 : Int32) wN T920.heap n0 O922 ge_rA ge_rB E_b903 Fh908 VH VA920 VB920 Fc908 Fw908 V_b871 SN (by decide) hw0 (own_lt3 h3).2.1 (fun q => ne_b903_rA q) (fun q => ne_b903_rB q) (fun q => ne_aH_rA q) (fun q => ne_aH_rB q) (fun q => ne_rA_rB q) (fun q => ne_b871_rA q) (fun q => ne_b871_rB q)) hZ (hw _ (gm 31 rfl)) (hw _ (gm 7 rfl)) (by decide) (by decide)) q926a q926c (g := (mkF m 137 #[vI p1, vI p2, vI p3, vI cn, vI 0, vR b851, vR b863, vR b871, vR b879, vR b891, vR b903, vR x914, vR x920, vU, vU, vU, vU, vU, vU, vU, vU, vU] [(.ref wN), (.ref b871), (.ref b903)])) rfl (by rw [hml]; rfl) (Steps.refl _) (argsL := [(.ref b871), (.ref wN)]) (rest := []) (lenOf pd_3 rfl) rfl (by show 2 * 0 + _ ≤ _; exact Nat.le_of_eq rfl) (hb hby at_137) (fun _ _ => ⟨rfl, e923, (by decide : 11 + 1 ≤ _), (by decide : 19 + 2 ≤ _)⟩)
  dsimp only [Pt.U, Pt.locs, Pt.cells, Pt.slots] at X926 l926 y926 z926 st926 hQ926
  subst l926 y926 z926
  obtain ⟨x926, kx926, rfl, Nq926, K926, zx926, Vx926, VA926, VB926⟩ := hQ926
  have N926 := Fr.app N920 Nq926
  have k927 : Rch p e below S0 T926 (mkF m 140 #[vI p1, vI p2, vI p3, vI cn, vI 0, vR b851, vR b863, vR b871, vR b879, vR b891, vR b903, vR x914, vR x920, vU, vU, vU, vU, vU, vU, vU, vU, vU] [(.ref x926)]) := fun t h => k925 t (st926.trans h)
  have ne_b851_x926 : b851 ≠ x926 := own_ne V_b851.lt zx926
  have ne_b863_x926 : b863 ≠ x926 := own_ne V_b863.lt zx926
  have ne_b871_x926 : b871 ≠ x926 := own_ne V_b871.lt zx926
  have ne_b879_x926 : b879 ≠ x926 := own_ne V_b879.lt zx926
  have ne_b891_x926 : b891 ≠ x926 := own_ne V_b891.lt zx926
  have ne_b903_x926 : b903 ≠ x926 := own_ne E_b903.lt zx926
  have ne_aH_x926 : aH ≠ x926 := own_ne VH.lt zx926
  have ne_rA_x926 : rA ≠ x926 := own_ne VA920.lt zx926
  have ne_rB_x926 : rB ≠ x926 := own_ne VB920.lt zx926
  have ne_x914_x926 : x914 ≠ x926 := own_ne Vx914.lt zx926
  have ne_x920_x926 : x920 ≠ x926 := own_ne Vx920.lt zx926
  have ge_x926 : n0 ≤ x926 := own_ge O922 zx926
  have O928 := O922.keep K926 (allS ge_rA (allS ge_rB all0))
  replace V_b851 := V_b851.keep K926 (ninS ne_b851_rA (ninS ne_b851_rB nin0))
  replace V_b863 := V_b863.keep K926 (ninS ne_b863_rA (ninS ne_b863_rB nin0))
  replace V_b871 := V_b871.keep K926 (ninS ne_b871_rA (ninS ne_b871_rB nin0))
  replace V_b879 := V_b879.keep K926 (ninS ne_b879_rA (ninS ne_b879_rB nin0))
  replace V_b891 := V_b891.keep K926 (ninS ne_b891_rA (ninS ne_b891_rB nin0))
  replace E_b903 := E_b903.keep K926
  replace Fc908 := Fc908.keep K926 (ninS ne_b903_rA (ninS ne_b903_rB nin0))
  replace Fw908 := Fw908.keep K926 (ninS ne_b903_rA (ninS ne_b903_rB nin0))
  replace Fh908 := Fh908.keep K926 (ninS ne_b903_rA (ninS ne_b903_rB nin0))
  replace VH := VH.keep K926 (ninS ne_aH_rA (ninS ne_aH_rB nin0))
  replace Vx914 := Vx914.keep K926 (ninS (Ne.symm ne_rA_x914) (ninS (Ne.symm ne_rB_x914) nin0))
  replace Vx920 := Vx920.keep K926 (ninS (Ne.symm ne_rA_x920) (ninS (Ne.symm ne_rB_x920) nin0))
  rw [(by decide : ((1 : Int64) ||| ((1 : Int64) <<< ((1 : Int32) &&& 0x3f).toInt64)) = (3 : Int64))] at VB926
  have k930 : Rch p e below S0 T926 (mkF m 146 #[vI p1, vI p2, vI p3, vI cn, vI 0, vR b851, vR b863, vR b871, vR b879, vR b891, vR b903, vR x914, vR x920, vR x926, vU, vU, vU, vU, vU, vU, vU, vU] [(.ref b879), (.ref b903)]) := fun t h => k927 t (by
      show Steps p.tables e below (T926.setTop (mkF m 140 #[vI p1, vI p2, vI p3, vI cn, vI 0, vR b851, vR b863, vR b871, vR b879, vR b891, vR b903, vR x914, vR x920, vU, vU, vU, vU, vU, vU, vU, vU, vU] [(.ref x926)])) _
      refine XS.astore X926.here hx rfl (hb hby at_140) rfl rfl (l' := #[vI p1, vI p2, vI p3, vI cn, vI 0, vR b851, vR b863, vR b871, vR b879, vR b891, vR b903, vR x914, vR x920, vR x926, vU, vU, vU, vU, vU, vU, vU, vU]) rfl ?_
      refine XS.aload X926.here hx rfl (hb hby at_142) rfl rfl ?_
      refine XS.aload X926.here hx rfl (hb hby at_144) rfl rfl ?_
      show Steps p.tables e below (T926.setTop (mkF m 146 #[vI p1, vI p2, vI p3, vI cn, vI 0, vR b851, vR b863, vR b871, vR b879, vR b891, vR b903, vR x914, vR x920, vR x926, vU, vU, vU, vU, vU, vU, vU, vU] [(.ref b879), (.ref b903)])) _
      exact h)
  obtain ⟨T929, X929, e929, st929⟩ := getS2 X926 hx hZ hown (host := "") (Or.inl (hw _ (gm 24 rfl))) Via.refl rfl (SN.ext O928.2) (g := (mkF m 146 #[vI p1, vI p2, vI p3, vI cn, vI 0, vR b851, vR b863, vR b871, vR b879, vR b891, vR b903, vR x914, vR x920, vR x926, vU, vU, vU, vU, vU, vU, vU, vU] [(.ref b879), (.ref b903)])) rfl (hb hby at_146)
  have k931 : Rch p e below S0 T929 (mkF m 149 #[vI p1, vI p2, vI p3, vI cn, vI 0, vR b851, vR b863, vR b871, vR b879, vR b891, vR b903, vR x914, vR x920, vR x926, vU, vU, vU, vU, vU, vU, vU, vU] [(.ref wN), (.ref b879), (.ref b903)]) := fun t h => k930 t (st929 t h)
  obtain ⟨cq932, kq932, q932a, q932b, q932c⟩ := isOf hZ e929 E_b903
  obtain ⟨_, _, ⟨T932, L932, kk932, n932⟩, -, X932, ⟨Lc932, hQ932, l932, y932, z932⟩, st932⟩ := X929.virtualBack hx (y := (⟨"com/example/lumenplan/lumenplan/simulation/Wavelengths", "take", "([ILcom/example/lumenplan/lumenplan/simulation/Conversion;)[I"⟩ : MethodName)) (z := (⟨"com/example/lumenplan/lumenplan/simulation/Wavelengths", "take", "([ILcom/example/lumenplan/lumenplan/simulation/Conversion;)[I"⟩ : MethodName)) hown (mvT hZ (hw _ (gm 27 rfl))) (mvT hZ (hw _ (gm 28 rfl))) (notFace_of_selects (args := #[]) (mvT hZ (hw _ (gm 30 rfl)))) (mvT hZ (hw _ (gm 30 rfl))) (mvT hZ (hw _ (gm 29 rfl))) (by decide) (backOf (W := 0) (rmT_F l Z a0 hw []  b903 aH rA rB kH kL cn wd (3 : Int64) (3 : Int64) b879 k879 (2 : Int32) wN T926.heap n0 O928 ge_rA ge_rB E_b903 Fh908 VH VA926 VB926 Fc908 Fw908 V_b879 SN (by decide) hw0 (own_lt3 h3).2.2 (fun q => ne_b903_rA q) (fun q => ne_b903_rB q) (fun q => ne_aH_rA q) (fun q => ne_aH_rB q) (fun q => ne_rA_rB q) (fun q => ne_b879_rA q) (fun q => ne_b879_rB q)) hZ (hw _ (gm 31 rfl)) (hw _ (gm 7 rfl)) (by decide) (by decide)) q932a q932c (g := (mkF m 149 #[vI p1, vI p2, vI p3, vI cn, vI 0, vR b851, vR b863, vR b871, vR b879, vR b891, vR b903, vR x914, vR x920, vR x926, vU, vU, vU, vU, vU, vU, vU, vU] [(.ref wN), (.ref b879), (.ref b903)])) rfl (by rw [hml]; rfl) (Steps.refl _) (argsL := [(.ref b879), (.ref wN)]) (rest := []) (lenOf pd_3 rfl) rfl (by show 2 * 0 + _ ≤ _; exact Nat.le_of_eq rfl) (hb hby at_149) (fun _ _ => ⟨rfl, e929, (by decide : 12 + 1 ≤ _), (by decide : 21 + 2 ≤ _)⟩)
  dsimp only [Pt.U, Pt.locs, Pt.cells, Pt.slots] at X932 l932 y932 z932 st932 hQ932
  subst l932 y932 z932
  obtain ⟨x932, kx932, rfl, Nq932, K932, zx932, Vx932, VA932, VB932⟩ := hQ932
  have N932 := Fr.app N926 Nq932
  have k933 : Rch p e below S0 T932 (mkF m 152 #[vI p1, vI p2, vI p3, vI cn, vI 0, vR b851, vR b863, vR b871, vR b879, vR b891, vR b903, vR x914, vR x920, vR x926, vU, vU, vU, vU, vU, vU, vU, vU] [(.ref x932)]) := fun t h => k931 t (st932.trans h)
  have ne_b851_x932 : b851 ≠ x932 := own_ne V_b851.lt zx932
  have ne_b863_x932 : b863 ≠ x932 := own_ne V_b863.lt zx932
  have ne_b871_x932 : b871 ≠ x932 := own_ne V_b871.lt zx932
  have ne_b879_x932 : b879 ≠ x932 := own_ne V_b879.lt zx932
  have ne_b891_x932 : b891 ≠ x932 := own_ne V_b891.lt zx932
  have ne_b903_x932 : b903 ≠ x932 := own_ne E_b903.lt zx932
  have ne_aH_x932 : aH ≠ x932 := own_ne VH.lt zx932
  have ne_rA_x932 : rA ≠ x932 := own_ne VA926.lt zx932
  have ne_rB_x932 : rB ≠ x932 := own_ne VB926.lt zx932
  have ne_x914_x932 : x914 ≠ x932 := own_ne Vx914.lt zx932
  have ne_x920_x932 : x920 ≠ x932 := own_ne Vx920.lt zx932
  have ne_x926_x932 : x926 ≠ x932 := own_ne Vx926.lt zx932
  have ge_x932 : n0 ≤ x932 := own_ge O928 zx932
  have O934 := O928.keep K932 (allS ge_rA (allS ge_rB all0))
  replace V_b851 := V_b851.keep K932 (ninS ne_b851_rA (ninS ne_b851_rB nin0))
  replace V_b863 := V_b863.keep K932 (ninS ne_b863_rA (ninS ne_b863_rB nin0))
  replace V_b871 := V_b871.keep K932 (ninS ne_b871_rA (ninS ne_b871_rB nin0))
  replace V_b879 := V_b879.keep K932 (ninS ne_b879_rA (ninS ne_b879_rB nin0))
  replace V_b891 := V_b891.keep K932 (ninS ne_b891_rA (ninS ne_b891_rB nin0))
  replace E_b903 := E_b903.keep K932
  replace Fc908 := Fc908.keep K932 (ninS ne_b903_rA (ninS ne_b903_rB nin0))
  replace Fw908 := Fw908.keep K932 (ninS ne_b903_rA (ninS ne_b903_rB nin0))
  replace Fh908 := Fh908.keep K932 (ninS ne_b903_rA (ninS ne_b903_rB nin0))
  replace VH := VH.keep K932 (ninS ne_aH_rA (ninS ne_aH_rB nin0))
  replace Vx914 := Vx914.keep K932 (ninS (Ne.symm ne_rA_x914) (ninS (Ne.symm ne_rB_x914) nin0))
  replace Vx920 := Vx920.keep K932 (ninS (Ne.symm ne_rA_x920) (ninS (Ne.symm ne_rB_x920) nin0))
  replace Vx926 := Vx926.keep K932 (ninS (Ne.symm ne_rA_x926) (ninS (Ne.symm ne_rB_x926) nin0))
  rw [(by decide : ((3 : Int64) ||| ((1 : Int64) <<< ((2 : Int32) &&& 0x3f).toInt64)) = (7 : Int64))] at VA932
  rw [(by decide : ((3 : Int64) ||| ((1 : Int64) <<< ((2 : Int32) &&& 0x3f).toInt64)) = (7 : Int64))] at VB932
  have k935 : Rch p e below S0 T932 (mkF m 176 #[vI p1, vI p2, vI p3, vI cn, vI 0, vR b851, vR b863, vR b871, vR b879, vR b891, vR b903, vR x914, vR x920, vR x926, vR x932, vU, vU, vU, vU, vU, vU, vU] []) := fun t h => k933 t (by
      show Steps p.tables e below (T932.setTop (mkF m 152 #[vI p1, vI p2, vI p3, vI cn, vI 0, vR b851, vR b863, vR b871, vR b879, vR b891, vR b903, vR x914, vR x920, vR x926, vU, vU, vU, vU, vU, vU, vU, vU] [(.ref x932)])) _
      refine XS.astore X932.here hx rfl (hb hby at_152) rfl rfl (l' := #[vI p1, vI p2, vI p3, vI cn, vI 0, vR b851, vR b863, vR b871, vR b879, vR b891, vR b903, vR x914, vR x920, vR x926, vR x932, vU, vU, vU, vU, vU, vU, vU]) rfl ?_
      refine XS.aload X932.here hx rfl (hb hby at_154) rfl rfl ?_
      refine XS.ifnullNo X932.here hx rfl (hb hby at_156) rfl ?_
      refine XS.aload X932.here hx rfl (hb hby at_159) rfl rfl ?_
      refine XS.ifnullNo X932.here hx rfl (hb hby at_161) rfl ?_
      refine XS.aload X932.here hx rfl (hb hby at_164) rfl rfl ?_
      refine XS.ifnullNo X932.here hx rfl (hb hby at_166) rfl ?_
      refine XS.aload X932.here hx rfl (hb hby at_169) rfl rfl ?_
      refine XS.ifnonnullYes X932.here hx rfl (pc0 := 171) (pc' := 176) rfl (hb hby at_171) rfl (by decide) (by decide) ?_
      exact h)
  obtain ⟨T938, b1, X938, e938, k938, hb1⟩ : ∃ (T' : State) (b1 : Int32), Like X932 T' ∧ T'.heap = T932.heap ∧ Rch p e below S0 T' (mkF m 189 #[vI p1, vI p2, vI p3, vI cn, vI 0, vR b851, vR b863, vR b871, vR b879, vR b891, vR b903, vR x914, vR x920, vR x926, vR x932, vI b1, vU, vU, vU, vU, vU, vU] []) ∧ (b1 = (0 : Int32) ∨ b1 = (1 : Int32)) := by
    by_cases hm : p2 &&& 1 = 0
    · have k936 : Rch p e below S0 T932 (mkF m 189 #[vI p1, vI p2, vI p3, vI cn, vI 0, vR b851, vR b863, vR b871, vR b879, vR b891, vR b903, vR x914, vR x920, vR x926, vR x932, vI 0, vU, vU, vU, vU, vU, vU] []) := fun t h => k935 t (by
          show Steps p.tables e below (T932.setTop (mkF m 176 #[vI p1, vI p2, vI p3, vI cn, vI 0, vR b851, vR b863, vR b871, vR b879, vR b891, vR b903, vR x914, vR x920, vR x926, vR x932, vU, vU, vU, vU, vU, vU, vU] [])) _
          refine XS.iloadN X932.here hx rfl (hb hby at_176) rfl ?_
          refine XS.iconst X932.here hx rfl (hb hby at_177) ?_
          refine XS.iand X932.here hx rfl (hb hby at_178) rfl ?_
          refine XS.ifYes X932.here hx rfl (pc0 := 179) (pc' := 186) rfl (hb hby at_179) rfl ((if0 _ _).trans (teq (hm : (p2 &&& (1 : Int32)) = (0 : Int32))).1) (by decide) (by decide) ?_
          refine XS.iconst X932.here hx rfl (hb hby at_186) ?_
          refine XS.istore X932.here hx rfl (hb hby at_187) rfl (l' := #[vI p1, vI p2, vI p3, vI cn, vI 0, vR b851, vR b863, vR b871, vR b879, vR b891, vR b903, vR x914, vR x920, vR x926, vR x932, vI 0, vU, vU, vU, vU, vU, vU]) rfl ?_
          exact h)
      exact ⟨_, (0 : Int32), X932, rfl, k936, (Or.inl rfl)⟩
    · have k937 : Rch p e below S0 T932 (mkF m 189 #[vI p1, vI p2, vI p3, vI cn, vI 0, vR b851, vR b863, vR b871, vR b879, vR b891, vR b903, vR x914, vR x920, vR x926, vR x932, vI 1, vU, vU, vU, vU, vU, vU] []) := fun t h => k935 t (by
          show Steps p.tables e below (T932.setTop (mkF m 176 #[vI p1, vI p2, vI p3, vI cn, vI 0, vR b851, vR b863, vR b871, vR b879, vR b891, vR b903, vR x914, vR x920, vR x926, vR x932, vU, vU, vU, vU, vU, vU, vU] [])) _
          refine XS.iloadN X932.here hx rfl (hb hby at_176) rfl ?_
          refine XS.iconst X932.here hx rfl (hb hby at_177) ?_
          refine XS.iand X932.here hx rfl (hb hby at_178) rfl ?_
          refine XS.ifNo X932.here hx rfl (hb hby at_179) rfl ((if0 _ _).trans (feq (hm : ¬ ((p2 &&& (1 : Int32)) = (0 : Int32)))).1) ?_
          refine XS.iconst X932.here hx rfl (hb hby at_182) ?_
          refine XS.goto X932.here hx rfl (pc0 := 183) (pc' := 187) rfl (hb hby at_183) (by decide) (by decide) ?_
          refine XS.istore X932.here hx rfl (hb hby at_187) rfl (l' := #[vI p1, vI p2, vI p3, vI cn, vI 0, vR b851, vR b863, vR b871, vR b879, vR b891, vR b903, vR x914, vR x920, vR x926, vR x932, vI 1, vU, vU, vU, vU, vU, vU]) rfl ?_
          exact h)
      exact ⟨_, (1 : Int32), X932, rfl, k937, (Or.inr rfl)⟩
  replace X938 := X938.out
  obtain ⟨T941, b2, X941, e941, k941, hb2⟩ : ∃ (T' : State) (b2 : Int32), Like X938 T' ∧ T'.heap = T932.heap ∧ Rch p e below S0 T' (mkF m 202 #[vI p1, vI p2, vI p3, vI cn, vI 0, vR b851, vR b863, vR b871, vR b879, vR b891, vR b903, vR x914, vR x920, vR x926, vR x932, vI b1, vI b2, vU, vU, vU, vU, vU] []) ∧ (b2 = (0 : Int32) ∨ b2 = (1 : Int32)) := by
    by_cases hm : p2 &&& 2 = 0
    · have k939 : Rch p e below S0 T938 (mkF m 202 #[vI p1, vI p2, vI p3, vI cn, vI 0, vR b851, vR b863, vR b871, vR b879, vR b891, vR b903, vR x914, vR x920, vR x926, vR x932, vI b1, vI 0, vU, vU, vU, vU, vU] []) := fun t h => k938 t (by
          show Steps p.tables e below (T938.setTop (mkF m 189 #[vI p1, vI p2, vI p3, vI cn, vI 0, vR b851, vR b863, vR b871, vR b879, vR b891, vR b903, vR x914, vR x920, vR x926, vR x932, vI b1, vU, vU, vU, vU, vU, vU] [])) _
          refine XS.iloadN X938.here hx rfl (hb hby at_189) rfl ?_
          refine XS.iconst X938.here hx rfl (hb hby at_190) ?_
          refine XS.iand X938.here hx rfl (hb hby at_191) rfl ?_
          refine XS.ifYes X938.here hx rfl (pc0 := 192) (pc' := 199) rfl (hb hby at_192) rfl ((if0 _ _).trans (teq (hm : (p2 &&& (2 : Int32)) = (0 : Int32))).1) (by decide) (by decide) ?_
          refine XS.iconst X938.here hx rfl (hb hby at_199) ?_
          refine XS.istore X938.here hx rfl (hb hby at_200) rfl (l' := #[vI p1, vI p2, vI p3, vI cn, vI 0, vR b851, vR b863, vR b871, vR b879, vR b891, vR b903, vR x914, vR x920, vR x926, vR x932, vI b1, vI 0, vU, vU, vU, vU, vU]) rfl ?_
          exact h)
      exact ⟨_, (0 : Int32), X938, e938, k939, (Or.inl rfl)⟩
    · have k940 : Rch p e below S0 T938 (mkF m 202 #[vI p1, vI p2, vI p3, vI cn, vI 0, vR b851, vR b863, vR b871, vR b879, vR b891, vR b903, vR x914, vR x920, vR x926, vR x932, vI b1, vI 1, vU, vU, vU, vU, vU] []) := fun t h => k938 t (by
          show Steps p.tables e below (T938.setTop (mkF m 189 #[vI p1, vI p2, vI p3, vI cn, vI 0, vR b851, vR b863, vR b871, vR b879, vR b891, vR b903, vR x914, vR x920, vR x926, vR x932, vI b1, vU, vU, vU, vU, vU, vU] [])) _
          refine XS.iloadN X938.here hx rfl (hb hby at_189) rfl ?_
          refine XS.iconst X938.here hx rfl (hb hby at_190) ?_
          refine XS.iand X938.here hx rfl (hb hby at_191) rfl ?_
          refine XS.ifNo X938.here hx rfl (hb hby at_192) rfl ((if0 _ _).trans (feq (hm : ¬ ((p2 &&& (2 : Int32)) = (0 : Int32)))).1) ?_
          refine XS.iconst X938.here hx rfl (hb hby at_195) ?_
          refine XS.goto X938.here hx rfl (pc0 := 196) (pc' := 200) rfl (hb hby at_196) (by decide) (by decide) ?_
          refine XS.istore X938.here hx rfl (hb hby at_200) rfl (l' := #[vI p1, vI p2, vI p3, vI cn, vI 0, vR b851, vR b863, vR b871, vR b879, vR b891, vR b903, vR x914, vR x920, vR x926, vR x932, vI b1, vI 1, vU, vU, vU, vU, vU]) rfl ?_
          exact h)
      exact ⟨_, (1 : Int32), X938, e938, k940, (Or.inr rfl)⟩
  replace X941 := X941.out
  obtain ⟨T944, b3, X944, e944, k944, hb3⟩ : ∃ (T' : State) (b3 : Int32), Like X941 T' ∧ T'.heap = T932.heap ∧ Rch p e below S0 T' (mkF m 215 #[vI p1, vI p2, vI p3, vI cn, vI 0, vR b851, vR b863, vR b871, vR b879, vR b891, vR b903, vR x914, vR x920, vR x926, vR x932, vI b1, vI b2, vI b3, vU, vU, vU, vU] []) ∧ (b3 = (0 : Int32) ∨ b3 = (1 : Int32)) := by
    by_cases hm : p2 &&& 4 = 0
    · have k942 : Rch p e below S0 T941 (mkF m 215 #[vI p1, vI p2, vI p3, vI cn, vI 0, vR b851, vR b863, vR b871, vR b879, vR b891, vR b903, vR x914, vR x920, vR x926, vR x932, vI b1, vI b2, vI 0, vU, vU, vU, vU] []) := fun t h => k941 t (by
          show Steps p.tables e below (T941.setTop (mkF m 202 #[vI p1, vI p2, vI p3, vI cn, vI 0, vR b851, vR b863, vR b871, vR b879, vR b891, vR b903, vR x914, vR x920, vR x926, vR x932, vI b1, vI b2, vU, vU, vU, vU, vU] [])) _
          refine XS.iloadN X941.here hx rfl (hb hby at_202) rfl ?_
          refine XS.iconst X941.here hx rfl (hb hby at_203) ?_
          refine XS.iand X941.here hx rfl (hb hby at_204) rfl ?_
          refine XS.ifYes X941.here hx rfl (pc0 := 205) (pc' := 212) rfl (hb hby at_205) rfl ((if0 _ _).trans (teq (hm : (p2 &&& (4 : Int32)) = (0 : Int32))).1) (by decide) (by decide) ?_
          refine XS.iconst X941.here hx rfl (hb hby at_212) ?_
          refine XS.istore X941.here hx rfl (hb hby at_213) rfl (l' := #[vI p1, vI p2, vI p3, vI cn, vI 0, vR b851, vR b863, vR b871, vR b879, vR b891, vR b903, vR x914, vR x920, vR x926, vR x932, vI b1, vI b2, vI 0, vU, vU, vU, vU]) rfl ?_
          exact h)
      exact ⟨_, (0 : Int32), X941, e941, k942, (Or.inl rfl)⟩
    · have k943 : Rch p e below S0 T941 (mkF m 215 #[vI p1, vI p2, vI p3, vI cn, vI 0, vR b851, vR b863, vR b871, vR b879, vR b891, vR b903, vR x914, vR x920, vR x926, vR x932, vI b1, vI b2, vI 1, vU, vU, vU, vU] []) := fun t h => k941 t (by
          show Steps p.tables e below (T941.setTop (mkF m 202 #[vI p1, vI p2, vI p3, vI cn, vI 0, vR b851, vR b863, vR b871, vR b879, vR b891, vR b903, vR x914, vR x920, vR x926, vR x932, vI b1, vI b2, vU, vU, vU, vU, vU] [])) _
          refine XS.iloadN X941.here hx rfl (hb hby at_202) rfl ?_
          refine XS.iconst X941.here hx rfl (hb hby at_203) ?_
          refine XS.iand X941.here hx rfl (hb hby at_204) rfl ?_
          refine XS.ifNo X941.here hx rfl (hb hby at_205) rfl ((if0 _ _).trans (feq (hm : ¬ ((p2 &&& (4 : Int32)) = (0 : Int32)))).1) ?_
          refine XS.iconst X941.here hx rfl (hb hby at_208) ?_
          refine XS.goto X941.here hx rfl (pc0 := 209) (pc' := 213) rfl (hb hby at_209) (by decide) (by decide) ?_
          refine XS.istore X941.here hx rfl (hb hby at_213) rfl (l' := #[vI p1, vI p2, vI p3, vI cn, vI 0, vR b851, vR b863, vR b871, vR b879, vR b891, vR b903, vR x914, vR x920, vR x926, vR x932, vI b1, vI b2, vI 1, vU, vU, vU, vU]) rfl ?_
          exact h)
      exact ⟨_, (1 : Int32), X941, e941, k943, (Or.inr rfl)⟩
  replace X944 := X944.out
  obtain ⟨T947, b4, X947, e947, k947, hb4⟩ : ∃ (T' : State) (b4 : Int32), Like X944 T' ∧ T'.heap = T932.heap ∧ Rch p e below S0 T' (mkF m 229 #[vI p1, vI p2, vI p3, vI cn, vI 0, vR b851, vR b863, vR b871, vR b879, vR b891, vR b903, vR x914, vR x920, vR x926, vR x932, vI b1, vI b2, vI b3, vI b4, vU, vU, vU] []) ∧ (b4 = (0 : Int32) ∨ b4 = (1 : Int32)) := by
    by_cases hm : p2 &&& 8 = 0
    · have k945 : Rch p e below S0 T944 (mkF m 229 #[vI p1, vI p2, vI p3, vI cn, vI 0, vR b851, vR b863, vR b871, vR b879, vR b891, vR b903, vR x914, vR x920, vR x926, vR x932, vI b1, vI b2, vI b3, vI 0, vU, vU, vU] []) := fun t h => k944 t (by
          show Steps p.tables e below (T944.setTop (mkF m 215 #[vI p1, vI p2, vI p3, vI cn, vI 0, vR b851, vR b863, vR b871, vR b879, vR b891, vR b903, vR x914, vR x920, vR x926, vR x932, vI b1, vI b2, vI b3, vU, vU, vU, vU] [])) _
          refine XS.iloadN X944.here hx rfl (hb hby at_215) rfl ?_
          refine XS.bipush X944.here hx rfl (hb hby at_216) ?_
          refine XS.iand X944.here hx rfl (hb hby at_218) rfl ?_
          refine XS.ifYes X944.here hx rfl (pc0 := 219) (pc' := 226) rfl (hb hby at_219) rfl ((if0 _ _).trans (teq (hm : (p2 &&& (8 : Int32)) = (0 : Int32))).1) (by decide) (by decide) ?_
          refine XS.iconst X944.here hx rfl (hb hby at_226) ?_
          refine XS.istore X944.here hx rfl (hb hby at_227) rfl (l' := #[vI p1, vI p2, vI p3, vI cn, vI 0, vR b851, vR b863, vR b871, vR b879, vR b891, vR b903, vR x914, vR x920, vR x926, vR x932, vI b1, vI b2, vI b3, vI 0, vU, vU, vU]) rfl ?_
          exact h)
      exact ⟨_, (0 : Int32), X944, e944, k945, (Or.inl rfl)⟩
    · have k946 : Rch p e below S0 T944 (mkF m 229 #[vI p1, vI p2, vI p3, vI cn, vI 0, vR b851, vR b863, vR b871, vR b879, vR b891, vR b903, vR x914, vR x920, vR x926, vR x932, vI b1, vI b2, vI b3, vI 1, vU, vU, vU] []) := fun t h => k944 t (by
          show Steps p.tables e below (T944.setTop (mkF m 215 #[vI p1, vI p2, vI p3, vI cn, vI 0, vR b851, vR b863, vR b871, vR b879, vR b891, vR b903, vR x914, vR x920, vR x926, vR x932, vI b1, vI b2, vI b3, vU, vU, vU, vU] [])) _
          refine XS.iloadN X944.here hx rfl (hb hby at_215) rfl ?_
          refine XS.bipush X944.here hx rfl (hb hby at_216) ?_
          refine XS.iand X944.here hx rfl (hb hby at_218) rfl ?_
          refine XS.ifNo X944.here hx rfl (hb hby at_219) rfl ((if0 _ _).trans (feq (hm : ¬ ((p2 &&& (8 : Int32)) = (0 : Int32)))).1) ?_
          refine XS.iconst X944.here hx rfl (hb hby at_222) ?_
          refine XS.goto X944.here hx rfl (pc0 := 223) (pc' := 227) rfl (hb hby at_223) (by decide) (by decide) ?_
          refine XS.istore X944.here hx rfl (hb hby at_227) rfl (l' := #[vI p1, vI p2, vI p3, vI cn, vI 0, vR b851, vR b863, vR b871, vR b879, vR b891, vR b903, vR x914, vR x920, vR x926, vR x932, vI b1, vI b2, vI b3, vI 1, vU, vU, vU]) rfl ?_
          exact h)
      exact ⟨_, (1 : Int32), X944, e944, k946, (Or.inr rfl)⟩
  replace X947 := X947.out
  obtain ⟨T952, L952, u952, v952, X952, k952, K952, N952, VA952, VB952, hr1⟩ : ∃ (T' : State) (L' : List Loc) (u' v' : Int64), LikeL X947 T' L' ∧ Rch p e below S0 T' (mkF m 243 #[vI p1, vI p2, vI p3, vI cn, vI 0, vR b851, vR b863, vR b871, vR b879, vR b891, vR b903, vR x914, vR x920, vR x926, vR x932, vI b1, vI b2, vI b3, vI b4, vU, vU, vU] []) ∧ Keep T932.heap T'.heap [rA, rB] ∧ Fr n0 L' ∧ Arv Z T'.heap rA kL .long (1 : Int32) [(.long u')] (.long (0 : Int64)) ∧ Arv Z T'.heap rB kL .long (1 : Int32) [(.long v')] (.long (0 : Int64)) ∧ RL b1 (7 : Int64) (7 : Int64) u' v' ((7 : Int64) &&& (-2 : Int64)) ((7 : Int64) &&& (-2 : Int64)) := by
    rcases hb1 with hbb | hbb
    · have k948 : Rch p e below S0 T947 (mkF m 243 #[vI p1, vI p2, vI p3, vI cn, vI 0, vR b851, vR b863, vR b871, vR b879, vR b891, vR b903, vR x914, vR x920, vR x926, vR x932, vI b1, vI b2, vI b3, vI b4, vU, vU, vU] []) := fun t h => k947 t (by
          show Steps p.tables e below (T947.setTop (mkF m 229 #[vI p1, vI p2, vI p3, vI cn, vI 0, vR b851, vR b863, vR b871, vR b879, vR b891, vR b903, vR x914, vR x920, vR x926, vR x932, vI b1, vI b2, vI b3, vI b4, vU, vU, vU] [])) _
          refine XS.iload X947.here hx rfl (hb hby at_229) rfl ?_
          refine XS.ifYes X947.here hx rfl (pc0 := 231) (pc' := 243) rfl (hb hby at_231) rfl ((if0 _ _).trans (teq (hbb : b1 = (0 : Int32))).1) (by decide) (by decide) ?_
          exact h)
      exact ⟨_, _, _, _, X947, k948, (by rw [e947]; exact Keep.refl _ _), N932, (by rw [e947]; exact VA932), (by rw [e947]; exact VB932), Or.inl ⟨hbb, rfl, rfl⟩⟩
    · have k949 : Rch p e below S0 T947 (mkF m 240 #[vI p1, vI p2, vI p3, vI cn, vI 0, vR b851, vR b863, vR b871, vR b879, vR b891, vR b903, vR x914, vR x920, vR x926, vR x932, vI b1, vI b2, vI b3, vI b4, vU, vU, vU] [(.ref x914), (.ref b851), (.ref b903)]) := fun t h => k947 t (by
          show Steps p.tables e below (T947.setTop (mkF m 229 #[vI p1, vI p2, vI p3, vI cn, vI 0, vR b851, vR b863, vR b871, vR b879, vR b891, vR b903, vR x914, vR x920, vR x926, vR x932, vI b1, vI b2, vI b3, vI b4, vU, vU, vU] [])) _
          refine XS.iload X947.here hx rfl (hb hby at_229) rfl ?_
          refine XS.ifNo X947.here hx rfl (hb hby at_231) rfl ((if0 _ _).trans (feq ((by rw [hbb]; decide) : ¬ (b1 = (0 : Int32)))).1) ?_
          refine XS.aload X947.here hx rfl (hb hby at_234) rfl rfl ?_
          refine XS.aload X947.here hx rfl (hb hby at_236) rfl rfl ?_
          refine XS.aload X947.here hx rfl (hb hby at_238) rfl rfl ?_
          exact h)
      obtain ⟨cq950, kq950, q950a, q950b, q950c⟩ := isOf hZ e947 E_b903
      obtain ⟨_, _, ⟨T950, L950, kk950, n950⟩, -, X950, ⟨Lc950, hQ950, l950, y950, z950⟩, st950⟩ := X947.virtualBack hx (y := (⟨"com/example/lumenplan/lumenplan/simulation/Wavelengths", "release", "([I[I)V"⟩ : MethodName)) (z := (⟨"com/example/lumenplan/lumenplan/simulation/Wavelengths", "release", "([I[I)V"⟩ : MethodName)) hown (mvT hZ (hw _ (gm 55 rfl))) (mvT hZ (hw _ (gm 56 rfl))) (notFace_of_selects (args := #[]) (mvT hZ (hw _ (gm 58 rfl)))) (mvT hZ (hw _ (gm 58 rfl))) (mvT hZ (hw _ (gm 57 rfl))) (by decide) (backOf (W := 0) (rmE_1 l Z a0 hw []  b903 aH rA rB kH kL cn wd (7 : Int64) (7 : Int64) b851 k851 x914 kx914 T932.heap n0 O934 ge_rA ge_rB Fh908 VH VA932 VB932 V_b851 Vx914 (fun q => ne_b903_rA q) (fun q => ne_b903_rB q) (fun q => ne_aH_rA q) (fun q => ne_aH_rB q) (fun q => ne_rA_rB q) (fun q => ne_b851_rA q) (fun q => ne_b851_rB q) (fun q => (Ne.symm ne_rA_x914) q) (fun q => (Ne.symm ne_rB_x914) q)) hZ (hw _ (gm 59 rfl)) (hw _ (gm 7 rfl)) (by decide) (by decide)) q950a q950c (g := (mkF m 240 #[vI p1, vI p2, vI p3, vI cn, vI 0, vR b851, vR b863, vR b871, vR b879, vR b891, vR b903, vR x914, vR x920, vR x926, vR x932, vI b1, vI b2, vI b3, vI b4, vU, vU, vU] [(.ref x914), (.ref b851), (.ref b903)])) rfl (by rw [hml]; rfl) (Steps.refl _) (argsL := [(.ref b851), (.ref x914)]) (rest := []) (lenOf pd_9 rfl) rfl (by show 2 * 0 + _ ≤ _; exact Nat.le_of_eq rfl) (hb hby at_240) (fun _ _ => ⟨rfl, e947, (by decide : 13 + 0 ≤ _), (by decide : 23 + 0 ≤ _)⟩)
      dsimp only [Pt.U, Pt.locs, Pt.cells, Pt.slots] at X950 l950 y950 z950 st950 hQ950
      subst l950 y950 z950
      obtain ⟨rfl, Nq950, K950, VA950, VB950⟩ := hQ950
      have N950 := Fr.app N932 Nq950
      have k951 : Rch p e below S0 T950 (mkF m 243 #[vI p1, vI p2, vI p3, vI cn, vI 0, vR b851, vR b863, vR b871, vR b879, vR b891, vR b903, vR x914, vR x920, vR x926, vR x932, vI b1, vI b2, vI b3, vI b4, vU, vU, vU] []) := fun t h => k949 t (st950.trans h)
      exact ⟨_, _, _, _, X950, k951, K950, N950, VA950, VB950, Or.inr ⟨hbb, rfl, rfl⟩⟩
  replace X952 := X952.out
  have O953 := O934.keep K952 (allS ge_rA (allS ge_rB all0))
  replace V_b851 := V_b851.keep K952 (ninS ne_b851_rA (ninS ne_b851_rB nin0))
  replace V_b863 := V_b863.keep K952 (ninS ne_b863_rA (ninS ne_b863_rB nin0))
  replace V_b871 := V_b871.keep K952 (ninS ne_b871_rA (ninS ne_b871_rB nin0))
  replace V_b879 := V_b879.keep K952 (ninS ne_b879_rA (ninS ne_b879_rB nin0))
  replace V_b891 := V_b891.keep K952 (ninS ne_b891_rA (ninS ne_b891_rB nin0))
  replace E_b903 := E_b903.keep K952
  replace Fc908 := Fc908.keep K952 (ninS ne_b903_rA (ninS ne_b903_rB nin0))
  replace Fw908 := Fw908.keep K952 (ninS ne_b903_rA (ninS ne_b903_rB nin0))
  replace Fh908 := Fh908.keep K952 (ninS ne_b903_rA (ninS ne_b903_rB nin0))
  replace VH := VH.keep K952 (ninS ne_aH_rA (ninS ne_aH_rB nin0))
  replace Vx914 := Vx914.keep K952 (ninS (Ne.symm ne_rA_x914) (ninS (Ne.symm ne_rB_x914) nin0))
  replace Vx920 := Vx920.keep K952 (ninS (Ne.symm ne_rA_x920) (ninS (Ne.symm ne_rB_x920) nin0))
  replace Vx926 := Vx926.keep K952 (ninS (Ne.symm ne_rA_x926) (ninS (Ne.symm ne_rB_x926) nin0))
  replace Vx932 := Vx932.keep K952 (ninS (Ne.symm ne_rA_x932) (ninS (Ne.symm ne_rB_x932) nin0))
  obtain ⟨T958, L958, u958, v958, X958, k958, K958, N958, VA958, VB958, hr2⟩ : ∃ (T' : State) (L' : List Loc) (u' v' : Int64), LikeL X952 T' L' ∧ Rch p e below S0 T' (mkF m 257 #[vI p1, vI p2, vI p3, vI cn, vI 0, vR b851, vR b863, vR b871, vR b879, vR b891, vR b903, vR x914, vR x920, vR x926, vR x932, vI b1, vI b2, vI b3, vI b4, vU, vU, vU] []) ∧ Keep T952.heap T'.heap [rA, rB] ∧ Fr n0 L' ∧ Arv Z T'.heap rA kL .long (1 : Int32) [(.long u')] (.long (0 : Int64)) ∧ Arv Z T'.heap rB kL .long (1 : Int32) [(.long v')] (.long (0 : Int64)) ∧ RL b2 u952 v952 u' v' (u952 &&& (-3 : Int64)) v952 := by
    rcases hb2 with hbb | hbb
    · have k954 : Rch p e below S0 T952 (mkF m 257 #[vI p1, vI p2, vI p3, vI cn, vI 0, vR b851, vR b863, vR b871, vR b879, vR b891, vR b903, vR x914, vR x920, vR x926, vR x932, vI b1, vI b2, vI b3, vI b4, vU, vU, vU] []) := fun t h => k952 t (by
          show Steps p.tables e below (T952.setTop (mkF m 243 #[vI p1, vI p2, vI p3, vI cn, vI 0, vR b851, vR b863, vR b871, vR b879, vR b891, vR b903, vR x914, vR x920, vR x926, vR x932, vI b1, vI b2, vI b3, vI b4, vU, vU, vU] [])) _
          refine XS.iload X952.here hx rfl (hb hby at_243) rfl ?_
          refine XS.ifYes X952.here hx rfl (pc0 := 245) (pc' := 257) rfl (hb hby at_245) rfl ((if0 _ _).trans (teq (hbb : b2 = (0 : Int32))).1) (by decide) (by decide) ?_
          exact h)
      exact ⟨_, _, _, _, X952, k954, (Keep.refl _ _), N952, VA952, VB952, Or.inl ⟨hbb, rfl, rfl⟩⟩
    · have k955 : Rch p e below S0 T952 (mkF m 254 #[vI p1, vI p2, vI p3, vI cn, vI 0, vR b851, vR b863, vR b871, vR b879, vR b891, vR b903, vR x914, vR x920, vR x926, vR x932, vI b1, vI b2, vI b3, vI b4, vU, vU, vU] [(.ref x920), (.ref b863), (.ref b903)]) := fun t h => k952 t (by
          show Steps p.tables e below (T952.setTop (mkF m 243 #[vI p1, vI p2, vI p3, vI cn, vI 0, vR b851, vR b863, vR b871, vR b879, vR b891, vR b903, vR x914, vR x920, vR x926, vR x932, vI b1, vI b2, vI b3, vI b4, vU, vU, vU] [])) _
          refine XS.iload X952.here hx rfl (hb hby at_243) rfl ?_
          refine XS.ifNo X952.here hx rfl (hb hby at_245) rfl ((if0 _ _).trans (feq ((by rw [hbb]; decide) : ¬ (b2 = (0 : Int32)))).1) ?_
          refine XS.aload X952.here hx rfl (hb hby at_248) rfl rfl ?_
          refine XS.aload X952.here hx rfl (hb hby at_250) rfl rfl ?_
          refine XS.aload X952.here hx rfl (hb hby at_252) rfl rfl ?_
          exact h)
      obtain ⟨cq956, kq956, q956a, q956b, q956c⟩ := isOf hZ rfl E_b903
      obtain ⟨_, _, ⟨T956, L956, kk956, n956⟩, -, X956, ⟨Lc956, hQ956, l956, y956, z956⟩, st956⟩ := X952.virtualBack hx (y := (⟨"com/example/lumenplan/lumenplan/simulation/Wavelengths", "release", "([I[I)V"⟩ : MethodName)) (z := (⟨"com/example/lumenplan/lumenplan/simulation/Wavelengths", "release", "([I[I)V"⟩ : MethodName)) hown (mvT hZ (hw _ (gm 55 rfl))) (mvT hZ (hw _ (gm 56 rfl))) (notFace_of_selects (args := #[]) (mvT hZ (hw _ (gm 58 rfl)))) (mvT hZ (hw _ (gm 58 rfl))) (mvT hZ (hw _ (gm 57 rfl))) (by decide) (backOf (W := 0) (rmE_2 l Z a0 hw []  b903 aH rA rB kH kL cn wd u952 v952 b863 k863 x920 kx920 T952.heap n0 O953 ge_rA ge_rB Fh908 VH VA952 VB952 V_b863 Vx920 (fun q => ne_b903_rA q) (fun q => ne_b903_rB q) (fun q => ne_aH_rA q) (fun q => ne_aH_rB q) (fun q => ne_rA_rB q) (fun q => ne_b863_rA q) (fun q => ne_b863_rB q) (fun q => (Ne.symm ne_rA_x920) q) (fun q => (Ne.symm ne_rB_x920) q)) hZ (hw _ (gm 59 rfl)) (hw _ (gm 7 rfl)) (by decide) (by decide)) q956a q956c (g := (mkF m 254 #[vI p1, vI p2, vI p3, vI cn, vI 0, vR b851, vR b863, vR b871, vR b879, vR b891, vR b903, vR x914, vR x920, vR x926, vR x932, vI b1, vI b2, vI b3, vI b4, vU, vU, vU] [(.ref x920), (.ref b863), (.ref b903)])) rfl (by rw [hml]; rfl) (Steps.refl _) (argsL := [(.ref b863), (.ref x920)]) (rest := []) (lenOf pd_9 rfl) rfl (by show 2 * 0 + _ ≤ _; exact Nat.le_of_eq rfl) (hb hby at_254) (fun _ _ => ⟨rfl, rfl, (by decide : 13 + 0 ≤ _), (by decide : 23 + 0 ≤ _)⟩)
      dsimp only [Pt.U, Pt.locs, Pt.cells, Pt.slots] at X956 l956 y956 z956 st956 hQ956
      subst l956 y956 z956
      obtain ⟨rfl, Nq956, K956, VA956, VB956⟩ := hQ956
      have N956 := Fr.app N952 Nq956
      have k957 : Rch p e below S0 T956 (mkF m 257 #[vI p1, vI p2, vI p3, vI cn, vI 0, vR b851, vR b863, vR b871, vR b879, vR b891, vR b903, vR x914, vR x920, vR x926, vR x932, vI b1, vI b2, vI b3, vI b4, vU, vU, vU] []) := fun t h => k955 t (st956.trans h)
      exact ⟨_, _, _, _, X956, k957, K956, N956, VA956, VB956, Or.inr ⟨hbb, rfl, rfl⟩⟩
  replace X958 := X958.out
  have O959 := O953.keep K958 (allS ge_rA (allS ge_rB all0))
  replace V_b851 := V_b851.keep K958 (ninS ne_b851_rA (ninS ne_b851_rB nin0))
  replace V_b863 := V_b863.keep K958 (ninS ne_b863_rA (ninS ne_b863_rB nin0))
  replace V_b871 := V_b871.keep K958 (ninS ne_b871_rA (ninS ne_b871_rB nin0))
  replace V_b879 := V_b879.keep K958 (ninS ne_b879_rA (ninS ne_b879_rB nin0))
  replace V_b891 := V_b891.keep K958 (ninS ne_b891_rA (ninS ne_b891_rB nin0))
  replace E_b903 := E_b903.keep K958
  replace Fc908 := Fc908.keep K958 (ninS ne_b903_rA (ninS ne_b903_rB nin0))
  replace Fw908 := Fw908.keep K958 (ninS ne_b903_rA (ninS ne_b903_rB nin0))
  replace Fh908 := Fh908.keep K958 (ninS ne_b903_rA (ninS ne_b903_rB nin0))
  replace VH := VH.keep K958 (ninS ne_aH_rA (ninS ne_aH_rB nin0))
  replace Vx914 := Vx914.keep K958 (ninS (Ne.symm ne_rA_x914) (ninS (Ne.symm ne_rB_x914) nin0))
  replace Vx920 := Vx920.keep K958 (ninS (Ne.symm ne_rA_x920) (ninS (Ne.symm ne_rB_x920) nin0))
  replace Vx926 := Vx926.keep K958 (ninS (Ne.symm ne_rA_x926) (ninS (Ne.symm ne_rB_x926) nin0))
  replace Vx932 := Vx932.keep K958 (ninS (Ne.symm ne_rA_x932) (ninS (Ne.symm ne_rB_x932) nin0))
  obtain ⟨T964, L964, u964, v964, X964, k964, K964, N964, VA964, VB964, hr3⟩ : ∃ (T' : State) (L' : List Loc) (u' v' : Int64), LikeL X958 T' L' ∧ Rch p e below S0 T' (mkF m 271 #[vI p1, vI p2, vI p3, vI cn, vI 0, vR b851, vR b863, vR b871, vR b879, vR b891, vR b903, vR x914, vR x920, vR x926, vR x932, vI b1, vI b2, vI b3, vI b4, vU, vU, vU] []) ∧ Keep T958.heap T'.heap [rA, rB] ∧ Fr n0 L' ∧ Arv Z T'.heap rA kL .long (1 : Int32) [(.long u')] (.long (0 : Int64)) ∧ Arv Z T'.heap rB kL .long (1 : Int32) [(.long v')] (.long (0 : Int64)) ∧ RL b3 u958 v958 u' v' u958 (v958 &&& (-3 : Int64)) := by
    rcases hb3 with hbb | hbb
    · have k960 : Rch p e below S0 T958 (mkF m 271 #[vI p1, vI p2, vI p3, vI cn, vI 0, vR b851, vR b863, vR b871, vR b879, vR b891, vR b903, vR x914, vR x920, vR x926, vR x932, vI b1, vI b2, vI b3, vI b4, vU, vU, vU] []) := fun t h => k958 t (by
          show Steps p.tables e below (T958.setTop (mkF m 257 #[vI p1, vI p2, vI p3, vI cn, vI 0, vR b851, vR b863, vR b871, vR b879, vR b891, vR b903, vR x914, vR x920, vR x926, vR x932, vI b1, vI b2, vI b3, vI b4, vU, vU, vU] [])) _
          refine XS.iload X958.here hx rfl (hb hby at_257) rfl ?_
          refine XS.ifYes X958.here hx rfl (pc0 := 259) (pc' := 271) rfl (hb hby at_259) rfl ((if0 _ _).trans (teq (hbb : b3 = (0 : Int32))).1) (by decide) (by decide) ?_
          exact h)
      exact ⟨_, _, _, _, X958, k960, (Keep.refl _ _), N958, VA958, VB958, Or.inl ⟨hbb, rfl, rfl⟩⟩
    · have k961 : Rch p e below S0 T958 (mkF m 268 #[vI p1, vI p2, vI p3, vI cn, vI 0, vR b851, vR b863, vR b871, vR b879, vR b891, vR b903, vR x914, vR x920, vR x926, vR x932, vI b1, vI b2, vI b3, vI b4, vU, vU, vU] [(.ref x926), (.ref b871), (.ref b903)]) := fun t h => k958 t (by
          show Steps p.tables e below (T958.setTop (mkF m 257 #[vI p1, vI p2, vI p3, vI cn, vI 0, vR b851, vR b863, vR b871, vR b879, vR b891, vR b903, vR x914, vR x920, vR x926, vR x932, vI b1, vI b2, vI b3, vI b4, vU, vU, vU] [])) _
          refine XS.iload X958.here hx rfl (hb hby at_257) rfl ?_
          refine XS.ifNo X958.here hx rfl (hb hby at_259) rfl ((if0 _ _).trans (feq ((by rw [hbb]; decide) : ¬ (b3 = (0 : Int32)))).1) ?_
          refine XS.aload X958.here hx rfl (hb hby at_262) rfl rfl ?_
          refine XS.aload X958.here hx rfl (hb hby at_264) rfl rfl ?_
          refine XS.aload X958.here hx rfl (hb hby at_266) rfl rfl ?_
          exact h)
      obtain ⟨cq962, kq962, q962a, q962b, q962c⟩ := isOf hZ rfl E_b903
      obtain ⟨_, _, ⟨T962, L962, kk962, n962⟩, -, X962, ⟨Lc962, hQ962, l962, y962, z962⟩, st962⟩ := X958.virtualBack hx (y := (⟨"com/example/lumenplan/lumenplan/simulation/Wavelengths", "release", "([I[I)V"⟩ : MethodName)) (z := (⟨"com/example/lumenplan/lumenplan/simulation/Wavelengths", "release", "([I[I)V"⟩ : MethodName)) hown (mvT hZ (hw _ (gm 55 rfl))) (mvT hZ (hw _ (gm 56 rfl))) (notFace_of_selects (args := #[]) (mvT hZ (hw _ (gm 58 rfl)))) (mvT hZ (hw _ (gm 58 rfl))) (mvT hZ (hw _ (gm 57 rfl))) (by decide) (backOf (W := 0) (rmE_3 l Z a0 hw []  b903 aH rA rB kH kL cn wd u958 v958 b871 k871 x926 kx926 T958.heap n0 O959 ge_rA ge_rB Fh908 VH VA958 VB958 V_b871 Vx926 (fun q => ne_b903_rA q) (fun q => ne_b903_rB q) (fun q => ne_aH_rA q) (fun q => ne_aH_rB q) (fun q => ne_rA_rB q) (fun q => ne_b871_rA q) (fun q => ne_b871_rB q) (fun q => (Ne.symm ne_rA_x926) q) (fun q => (Ne.symm ne_rB_x926) q)) hZ (hw _ (gm 59 rfl)) (hw _ (gm 7 rfl)) (by decide) (by decide)) q962a q962c (g := (mkF m 268 #[vI p1, vI p2, vI p3, vI cn, vI 0, vR b851, vR b863, vR b871, vR b879, vR b891, vR b903, vR x914, vR x920, vR x926, vR x932, vI b1, vI b2, vI b3, vI b4, vU, vU, vU] [(.ref x926), (.ref b871), (.ref b903)])) rfl (by rw [hml]; rfl) (Steps.refl _) (argsL := [(.ref b871), (.ref x926)]) (rest := []) (lenOf pd_9 rfl) rfl (by show 2 * 0 + _ ≤ _; exact Nat.le_of_eq rfl) (hb hby at_268) (fun _ _ => ⟨rfl, rfl, (by decide : 13 + 0 ≤ _), (by decide : 23 + 0 ≤ _)⟩)
      dsimp only [Pt.U, Pt.locs, Pt.cells, Pt.slots] at X962 l962 y962 z962 st962 hQ962
      subst l962 y962 z962
      obtain ⟨rfl, Nq962, K962, VA962, VB962⟩ := hQ962
      have N962 := Fr.app N958 Nq962
      have k963 : Rch p e below S0 T962 (mkF m 271 #[vI p1, vI p2, vI p3, vI cn, vI 0, vR b851, vR b863, vR b871, vR b879, vR b891, vR b903, vR x914, vR x920, vR x926, vR x932, vI b1, vI b2, vI b3, vI b4, vU, vU, vU] []) := fun t h => k961 t (st962.trans h)
      exact ⟨_, _, _, _, X962, k963, K962, N962, VA962, VB962, Or.inr ⟨hbb, rfl, rfl⟩⟩
  replace X964 := X964.out
  have O965 := O959.keep K964 (allS ge_rA (allS ge_rB all0))
  replace V_b851 := V_b851.keep K964 (ninS ne_b851_rA (ninS ne_b851_rB nin0))
  replace V_b863 := V_b863.keep K964 (ninS ne_b863_rA (ninS ne_b863_rB nin0))
  replace V_b871 := V_b871.keep K964 (ninS ne_b871_rA (ninS ne_b871_rB nin0))
  replace V_b879 := V_b879.keep K964 (ninS ne_b879_rA (ninS ne_b879_rB nin0))
  replace V_b891 := V_b891.keep K964 (ninS ne_b891_rA (ninS ne_b891_rB nin0))
  replace E_b903 := E_b903.keep K964
  replace Fc908 := Fc908.keep K964 (ninS ne_b903_rA (ninS ne_b903_rB nin0))
  replace Fw908 := Fw908.keep K964 (ninS ne_b903_rA (ninS ne_b903_rB nin0))
  replace Fh908 := Fh908.keep K964 (ninS ne_b903_rA (ninS ne_b903_rB nin0))
  replace VH := VH.keep K964 (ninS ne_aH_rA (ninS ne_aH_rB nin0))
  replace Vx914 := Vx914.keep K964 (ninS (Ne.symm ne_rA_x914) (ninS (Ne.symm ne_rB_x914) nin0))
  replace Vx920 := Vx920.keep K964 (ninS (Ne.symm ne_rA_x920) (ninS (Ne.symm ne_rB_x920) nin0))
  replace Vx926 := Vx926.keep K964 (ninS (Ne.symm ne_rA_x926) (ninS (Ne.symm ne_rB_x926) nin0))
  replace Vx932 := Vx932.keep K964 (ninS (Ne.symm ne_rA_x932) (ninS (Ne.symm ne_rB_x932) nin0))
  obtain ⟨T970, L970, u970, v970, X970, k970, K970, N970, VA970, VB970, hr4⟩ : ∃ (T' : State) (L' : List Loc) (u' v' : Int64), LikeL X964 T' L' ∧ Rch p e below S0 T' (mkF m 285 #[vI p1, vI p2, vI p3, vI cn, vI 0, vR b851, vR b863, vR b871, vR b879, vR b891, vR b903, vR x914, vR x920, vR x926, vR x932, vI b1, vI b2, vI b3, vI b4, vU, vU, vU] []) ∧ Keep T964.heap T'.heap [rA, rB] ∧ Fr n0 L' ∧ Arv Z T'.heap rA kL .long (1 : Int32) [(.long u')] (.long (0 : Int64)) ∧ Arv Z T'.heap rB kL .long (1 : Int32) [(.long v')] (.long (0 : Int64)) ∧ RL b4 u964 v964 u' v' (u964 &&& (-5 : Int64)) (v964 &&& (-5 : Int64)) := by
    rcases hb4 with hbb | hbb
    · have k966 : Rch p e below S0 T964 (mkF m 285 #[vI p1, vI p2, vI p3, vI cn, vI 0, vR b851, vR b863, vR b871, vR b879, vR b891, vR b903, vR x914, vR x920, vR x926, vR x932, vI b1, vI b2, vI b3, vI b4, vU, vU, vU] []) := fun t h => k964 t (by
          show Steps p.tables e below (T964.setTop (mkF m 271 #[vI p1, vI p2, vI p3, vI cn, vI 0, vR b851, vR b863, vR b871, vR b879, vR b891, vR b903, vR x914, vR x920, vR x926, vR x932, vI b1, vI b2, vI b3, vI b4, vU, vU, vU] [])) _
          refine XS.iload X964.here hx rfl (hb hby at_271) rfl ?_
          refine XS.ifYes X964.here hx rfl (pc0 := 273) (pc' := 285) rfl (hb hby at_273) rfl ((if0 _ _).trans (teq (hbb : b4 = (0 : Int32))).1) (by decide) (by decide) ?_
          exact h)
      exact ⟨_, _, _, _, X964, k966, (Keep.refl _ _), N964, VA964, VB964, Or.inl ⟨hbb, rfl, rfl⟩⟩
    · have k967 : Rch p e below S0 T964 (mkF m 282 #[vI p1, vI p2, vI p3, vI cn, vI 0, vR b851, vR b863, vR b871, vR b879, vR b891, vR b903, vR x914, vR x920, vR x926, vR x932, vI b1, vI b2, vI b3, vI b4, vU, vU, vU] [(.ref x932), (.ref b879), (.ref b903)]) := fun t h => k964 t (by
          show Steps p.tables e below (T964.setTop (mkF m 271 #[vI p1, vI p2, vI p3, vI cn, vI 0, vR b851, vR b863, vR b871, vR b879, vR b891, vR b903, vR x914, vR x920, vR x926, vR x932, vI b1, vI b2, vI b3, vI b4, vU, vU, vU] [])) _
          refine XS.iload X964.here hx rfl (hb hby at_271) rfl ?_
          refine XS.ifNo X964.here hx rfl (hb hby at_273) rfl ((if0 _ _).trans (feq ((by rw [hbb]; decide) : ¬ (b4 = (0 : Int32)))).1) ?_
          refine XS.aload X964.here hx rfl (hb hby at_276) rfl rfl ?_
          refine XS.aload X964.here hx rfl (hb hby at_278) rfl rfl ?_
          refine XS.aload X964.here hx rfl (hb hby at_280) rfl rfl ?_
          exact h)
      obtain ⟨cq968, kq968, q968a, q968b, q968c⟩ := isOf hZ rfl E_b903
      obtain ⟨_, _, ⟨T968, L968, kk968, n968⟩, -, X968, ⟨Lc968, hQ968, l968, y968, z968⟩, st968⟩ := X964.virtualBack hx (y := (⟨"com/example/lumenplan/lumenplan/simulation/Wavelengths", "release", "([I[I)V"⟩ : MethodName)) (z := (⟨"com/example/lumenplan/lumenplan/simulation/Wavelengths", "release", "([I[I)V"⟩ : MethodName)) hown (mvT hZ (hw _ (gm 55 rfl))) (mvT hZ (hw _ (gm 56 rfl))) (notFace_of_selects (args := #[]) (mvT hZ (hw _ (gm 58 rfl)))) (mvT hZ (hw _ (gm 58 rfl))) (mvT hZ (hw _ (gm 57 rfl))) (by decide) (backOf (W := 0) (rmE_4n l Z a0 hw []  b903 aH rA rB kH kL cn wd u964 v964 b879 k879 x932 kx932 T964.heap n0 O965 ge_rA ge_rB Fh908 VH VA964 VB964 V_b879 Vx932 (fun q => ne_b903_rA q) (fun q => ne_b903_rB q) (fun q => ne_aH_rA q) (fun q => ne_aH_rB q) (fun q => ne_rA_rB q) (fun q => ne_b879_rA q) (fun q => ne_b879_rB q) (fun q => (Ne.symm ne_rA_x932) q) (fun q => (Ne.symm ne_rB_x932) q)) hZ (hw _ (gm 59 rfl)) (hw _ (gm 7 rfl)) (by decide) (by decide)) q968a q968c (g := (mkF m 282 #[vI p1, vI p2, vI p3, vI cn, vI 0, vR b851, vR b863, vR b871, vR b879, vR b891, vR b903, vR x914, vR x920, vR x926, vR x932, vI b1, vI b2, vI b3, vI b4, vU, vU, vU] [(.ref x932), (.ref b879), (.ref b903)])) rfl (by rw [hml]; rfl) (Steps.refl _) (argsL := [(.ref b879), (.ref x932)]) (rest := []) (lenOf pd_9 rfl) rfl (by show 2 * 0 + _ ≤ _; exact Nat.le_of_eq rfl) (hb hby at_282) (fun _ _ => ⟨rfl, rfl, (by decide : 13 + 0 ≤ _), (by decide : 23 + 0 ≤ _)⟩)
      dsimp only [Pt.U, Pt.locs, Pt.cells, Pt.slots] at X968 l968 y968 z968 st968 hQ968
      subst l968 y968 z968
      obtain ⟨rfl, Nq968, K968, VA968, VB968⟩ := hQ968
      have N968 := Fr.app N964 Nq968
      have k969 : Rch p e below S0 T968 (mkF m 285 #[vI p1, vI p2, vI p3, vI cn, vI 0, vR b851, vR b863, vR b871, vR b879, vR b891, vR b903, vR x914, vR x920, vR x926, vR x932, vI b1, vI b2, vI b3, vI b4, vU, vU, vU] []) := fun t h => k967 t (st968.trans h)
      exact ⟨_, _, _, _, X968, k969, K968, N968, VA968, VB968, Or.inr ⟨hbb, rfl, rfl⟩⟩
  replace X970 := X970.out
  have O971 := O965.keep K970 (allS ge_rA (allS ge_rB all0))
  replace V_b851 := V_b851.keep K970 (ninS ne_b851_rA (ninS ne_b851_rB nin0))
  replace V_b863 := V_b863.keep K970 (ninS ne_b863_rA (ninS ne_b863_rB nin0))
  replace V_b871 := V_b871.keep K970 (ninS ne_b871_rA (ninS ne_b871_rB nin0))
  replace V_b879 := V_b879.keep K970 (ninS ne_b879_rA (ninS ne_b879_rB nin0))
  replace V_b891 := V_b891.keep K970 (ninS ne_b891_rA (ninS ne_b891_rB nin0))
  replace E_b903 := E_b903.keep K970
  replace Fc908 := Fc908.keep K970 (ninS ne_b903_rA (ninS ne_b903_rB nin0))
  replace Fw908 := Fw908.keep K970 (ninS ne_b903_rA (ninS ne_b903_rB nin0))
  replace Fh908 := Fh908.keep K970 (ninS ne_b903_rA (ninS ne_b903_rB nin0))
  replace VH := VH.keep K970 (ninS ne_aH_rA (ninS ne_aH_rB nin0))
  replace Vx914 := Vx914.keep K970 (ninS (Ne.symm ne_rA_x914) (ninS (Ne.symm ne_rB_x914) nin0))
  replace Vx920 := Vx920.keep K970 (ninS (Ne.symm ne_rA_x920) (ninS (Ne.symm ne_rB_x920) nin0))
  replace Vx926 := Vx926.keep K970 (ninS (Ne.symm ne_rA_x926) (ninS (Ne.symm ne_rB_x926) nin0))
  replace Vx932 := Vx932.keep K970 (ninS (Ne.symm ne_rA_x932) (ninS (Ne.symm ne_rB_x932) nin0))
  obtain ⟨r0, r1, hL0, hL1, hN0, hN1⟩ := own_fin hr1 hr2 hr3 hr4
  by_cases c0 : r0 < cn
  · by_cases c1 : r1 < cn
    · have k985 : Rch p e below S0 T970 (mkF m 292 #[vI p1, vI p2, vI p3, vI cn, vI 0, vR b851, vR b863, vR b871, vR b879, vR b891, vR b903, vR x914, vR x920, vR x926, vR x932, vI b1, vI b2, vI b3, vI b4, vU, vU, vU] [(.int cn), (.int b4), (.int b2), (.int b1)]) := fun t h => k970 t (by
          show Steps p.tables e below (T970.setTop (mkF m 285 #[vI p1, vI p2, vI p3, vI cn, vI 0, vR b851, vR b863, vR b871, vR b879, vR b891, vR b903, vR x914, vR x920, vR x926, vR x932, vI b1, vI b2, vI b3, vI b4, vU, vU, vU] [])) _
          refine XS.iload X970.here hx rfl (hb hby at_285) rfl ?_
          refine XS.iload X970.here hx rfl (hb hby at_287) rfl ?_
          refine XS.iload X970.here hx rfl (hb hby at_289) rfl ?_
          refine XS.iloadN X970.here hx rfl (hb hby at_291) rfl ?_
          exact h)
      obtain ⟨_, _, ⟨T986, L986, kk986, n986⟩, -, X986, ⟨Lc986, hQ986, l986, y986, z986⟩, st986⟩ := Jvm.LawKit.callS X970 hx (y := (⟨"com/example/lumenplan/lumenplan/simulation/WavelengthsReleasePinLaw", "lowest", "(ZZZI)I"⟩ : MethodName)) hown (mvT hZ (hw _ (gm 60 rfl))) (mvT hZ (hw _ (gm 61 rfl))) (mvT hZ (hw _ (gm 62 rfl))) (mvT hZ (hw _ (gm 63 rfl))) (by decide) (backOf (W := 0) (rmLW l Z a0 hw [] b1 b2 b4 cn r0 r0 T970.heap n0 O971 hL0 (Or.inl ⟨c0, rfl⟩)) hZ (hw _ (gm 63 rfl)) (hw _ (gm 62 rfl)) (by decide) (by decide)) (g := (mkF m 292 #[vI p1, vI p2, vI p3, vI cn, vI 0, vR b851, vR b863, vR b871, vR b879, vR b891, vR b903, vR x914, vR x920, vR x926, vR x932, vI b1, vI b2, vI b3, vI b4, vU, vU, vU] [(.int cn), (.int b4), (.int b2), (.int b1)])) rfl (by rw [hml]; rfl) (argsL := [(.int b1), (.int b2), (.int b4), (.int cn)]) (rest := []) (lenOf pd_10 rfl) rfl (by show 2 * 0 + _ ≤ _; exact Nat.le_of_eq rfl) (hb hby at_292) (fun _ _ => ⟨rfl, rfl, (by decide : 13 + 0 ≤ _), (by decide : 23 + 0 ≤ _)⟩)
      dsimp only [Pt.U, Pt.locs, Pt.cells, Pt.slots] at X986 l986 y986 z986 st986 hQ986
      subst l986 y986 z986
      obtain ⟨rfl, Nq986, hh986⟩ := hQ986
      have N986 := Fr.app N970 Nq986
      have k987 : Rch p e below S0 T986 (mkF m 295 #[vI p1, vI p2, vI p3, vI cn, vI 0, vR b851, vR b863, vR b871, vR b879, vR b891, vR b903, vR x914, vR x920, vR x926, vR x932, vI b1, vI b2, vI b3, vI b4, vU, vU, vU] [(.int r0)]) := fun t h => k985 t (st986 t h)
      have k988 : Rch p e below S0 T986 (mkF m 304 #[vI p1, vI p2, vI p3, vI cn, vI 0, vR b851, vR b863, vR b871, vR b879, vR b891, vR b903, vR x914, vR x920, vR x926, vR x932, vI b1, vI b2, vI b3, vI b4, vI r0, vU, vU] [(.int cn), (.int b4), (.int b3), (.int b1)]) := fun t h => k987 t (by
          show Steps p.tables e below (T986.setTop (mkF m 295 #[vI p1, vI p2, vI p3, vI cn, vI 0, vR b851, vR b863, vR b871, vR b879, vR b891, vR b903, vR x914, vR x920, vR x926, vR x932, vI b1, vI b2, vI b3, vI b4, vU, vU, vU] [(.int r0)])) _
          refine XS.istore X986.here hx rfl (hb hby at_295) rfl (l' := #[vI p1, vI p2, vI p3, vI cn, vI 0, vR b851, vR b863, vR b871, vR b879, vR b891, vR b903, vR x914, vR x920, vR x926, vR x932, vI b1, vI b2, vI b3, vI b4, vI r0, vU, vU]) rfl ?_
          refine XS.iload X986.here hx rfl (hb hby at_297) rfl ?_
          refine XS.iload X986.here hx rfl (hb hby at_299) rfl ?_
          refine XS.iload X986.here hx rfl (hb hby at_301) rfl ?_
          refine XS.iloadN X986.here hx rfl (hb hby at_303) rfl ?_
          exact h)
      obtain ⟨_, _, ⟨T989, L989, kk989, n989⟩, -, X989, ⟨Lc989, hQ989, l989, y989, z989⟩, st989⟩ := Jvm.LawKit.callS X986 hx (y := (⟨"com/example/lumenplan/lumenplan/simulation/WavelengthsReleasePinLaw", "lowest", "(ZZZI)I"⟩ : MethodName)) hown (mvT hZ (hw _ (gm 60 rfl))) (mvT hZ (hw _ (gm 61 rfl))) (mvT hZ (hw _ (gm 62 rfl))) (mvT hZ (hw _ (gm 63 rfl))) (by decide) (backOf (W := 0) (rmLW l Z a0 hw [] b1 b3 b4 cn r1 r1 T970.heap n0 O971 hL1 (Or.inl ⟨c1, rfl⟩)) hZ (hw _ (gm 63 rfl)) (hw _ (gm 62 rfl)) (by decide) (by decide)) (g := (mkF m 304 #[vI p1, vI p2, vI p3, vI cn, vI 0, vR b851, vR b863, vR b871, vR b879, vR b891, vR b903, vR x914, vR x920, vR x926, vR x932, vI b1, vI b2, vI b3, vI b4, vI r0, vU, vU] [(.int cn), (.int b4), (.int b3), (.int b1)])) rfl (by rw [hml]; rfl) (argsL := [(.int b1), (.int b3), (.int b4), (.int cn)]) (rest := []) (lenOf pd_10 rfl) rfl (by show 2 * 0 + _ ≤ _; exact Nat.le_of_eq rfl) (hb hby at_304) (fun _ _ => ⟨rfl, hh986, (by decide : 13 + 0 ≤ _), (by decide : 23 + 0 ≤ _)⟩)
      dsimp only [Pt.U, Pt.locs, Pt.cells, Pt.slots] at X989 l989 y989 z989 st989 hQ989
      subst l989 y989 z989
      obtain ⟨rfl, Nq989, hh989⟩ := hQ989
      have N989 := Fr.app N986 Nq989
      have k990 : Rch p e below S0 T989 (mkF m 307 #[vI p1, vI p2, vI p3, vI cn, vI 0, vR b851, vR b863, vR b871, vR b879, vR b891, vR b903, vR x914, vR x920, vR x926, vR x932, vI b1, vI b2, vI b3, vI b4, vI r0, vU, vU] [(.int r1)]) := fun t h => k988 t (st989 t h)
      have k992 : Rch p e below S0 T989 (mkF m 313 #[vI p1, vI p2, vI p3, vI cn, vI 0, vR b851, vR b863, vR b871, vR b879, vR b891, vR b903, vR x914, vR x920, vR x926, vR x932, vI b1, vI b2, vI b3, vI b4, vI r0, vI r1, vU] [(.ref b891), (.ref b903)]) := fun t h => k990 t (by
          show Steps p.tables e below (T989.setTop (mkF m 307 #[vI p1, vI p2, vI p3, vI cn, vI 0, vR b851, vR b863, vR b871, vR b879, vR b891, vR b903, vR x914, vR x920, vR x926, vR x932, vI b1, vI b2, vI b3, vI b4, vI r0, vU, vU] [(.int r1)])) _
          refine XS.istore X989.here hx rfl (hb hby at_307) rfl (l' := #[vI p1, vI p2, vI p3, vI cn, vI 0, vR b851, vR b863, vR b871, vR b879, vR b891, vR b903, vR x914, vR x920, vR x926, vR x932, vI b1, vI b2, vI b3, vI b4, vI r0, vI r1, vU]) rfl ?_
          refine XS.aload X989.here hx rfl (hb hby at_309) rfl rfl ?_
          refine XS.aload X989.here hx rfl (hb hby at_311) rfl rfl ?_
          exact h)
      obtain ⟨T991, X991, e991, st991⟩ := getS2 X989 hx hZ hown (host := "") (Or.inl (hw _ (gm 64 rfl))) Via.refl hh989 (SF.ext O971.2) (g := (mkF m 313 #[vI p1, vI p2, vI p3, vI cn, vI 0, vR b851, vR b863, vR b871, vR b879, vR b891, vR b903, vR x914, vR x920, vR x926, vR x932, vI b1, vI b2, vI b3, vI b4, vI r0, vI r1, vU] [(.ref b891), (.ref b903)])) rfl (hb hby at_313)
      have k993 : Rch p e below S0 T991 (mkF m 316 #[vI p1, vI p2, vI p3, vI cn, vI 0, vR b851, vR b863, vR b871, vR b879, vR b891, vR b903, vR x914, vR x920, vR x926, vR x932, vI b1, vI b2, vI b3, vI b4, vI r0, vI r1, vU] [(.ref wF), (.ref b891), (.ref b903)]) := fun t h => k992 t (st991 t h)
      obtain ⟨cq994, kq994, q994a, q994b, q994c⟩ := isOf hZ e991 E_b903
      obtain ⟨_, _, ⟨T994, L994, kk994, n994⟩, -, X994, ⟨Lc994, hQ994, l994, y994, z994⟩, st994⟩ := X991.virtualBack hx (y := (⟨"com/example/lumenplan/lumenplan/simulation/Wavelengths", "take", "([ILcom/example/lumenplan/lumenplan/simulation/Conversion;)[I"⟩ : MethodName)) (z := (⟨"com/example/lumenplan/lumenplan/simulation/Wavelengths", "take", "([ILcom/example/lumenplan/lumenplan/simulation/Conversion;)[I"⟩ : MethodName)) hown (mvT hZ (hw _ (gm 27 rfl))) (mvT hZ (hw _ (gm 28 rfl))) (notFace_of_selects (args := #[]) (mvT hZ (hw _ (gm 30 rfl)))) (mvT hZ (hw _ (gm 30 rfl))) (mvT hZ (hw _ (gm 29 rfl))) (by decide) (backOf (W := 0) (rmT_OK l Z a0 hw []  b903 aH rA rB kH kL cn wd u970 v970 b891 k891 r0 r1 wN wF T970.heap n0 O971 ge_rA ge_rB E_b903 Fh908 VH VA970 VB970 Fc908 Fw908 V_b891 SN hne hN0 hN1 hw0 c0 c1 (fun q => ne_b903_rA q) (fun q => ne_b903_rB q) (fun q => ne_aH_rA q) (fun q => ne_aH_rB q) (fun q => ne_rA_rB q) (fun q => ne_b891_rA q) (fun q => ne_b891_rB q)) hZ (hw _ (gm 31 rfl)) (hw _ (gm 7 rfl)) (by decide) (by decide)) q994a q994c (g := (mkF m 316 #[vI p1, vI p2, vI p3, vI cn, vI 0, vR b851, vR b863, vR b871, vR b879, vR b891, vR b903, vR x914, vR x920, vR x926, vR x932, vI b1, vI b2, vI b3, vI b4, vI r0, vI r1, vU] [(.ref wF), (.ref b891), (.ref b903)])) rfl (by rw [hml]; rfl) (Steps.refl _) (argsL := [(.ref b891), (.ref wF)]) (rest := []) (lenOf pd_3 rfl) rfl (by show 2 * 0 + _ ≤ _; exact Nat.le_of_eq rfl) (hb hby at_316) (fun _ _ => ⟨rfl, e991, (by decide : 13 + 1 ≤ _), (by decide : 23 + 2 ≤ _)⟩)
      dsimp only [Pt.U, Pt.locs, Pt.cells, Pt.slots] at X994 l994 y994 z994 st994 hQ994
      subst l994 y994 z994
      obtain ⟨x994, kx994, rfl, Nq994, K994, zx994, Vx994⟩ := hQ994
      have N994 := Fr.app N989 Nq994
      have k995 : Rch p e below S0 T994 (mkF m 319 #[vI p1, vI p2, vI p3, vI cn, vI 0, vR b851, vR b863, vR b871, vR b879, vR b891, vR b903, vR x914, vR x920, vR x926, vR x932, vI b1, vI b2, vI b3, vI b4, vI r0, vI r1, vU] [(.ref x994)]) := fun t h => k993 t (st994.trans h)
      have ne_b851_x994 : b851 ≠ x994 := own_ne V_b851.lt zx994
      have ne_b863_x994 : b863 ≠ x994 := own_ne V_b863.lt zx994
      have ne_b871_x994 : b871 ≠ x994 := own_ne V_b871.lt zx994
      have ne_b879_x994 : b879 ≠ x994 := own_ne V_b879.lt zx994
      have ne_b891_x994 : b891 ≠ x994 := own_ne V_b891.lt zx994
      have ne_b903_x994 : b903 ≠ x994 := own_ne E_b903.lt zx994
      have ne_aH_x994 : aH ≠ x994 := own_ne VH.lt zx994
      have ne_rA_x994 : rA ≠ x994 := own_ne VA970.lt zx994
      have ne_rB_x994 : rB ≠ x994 := own_ne VB970.lt zx994
      have ne_x914_x994 : x914 ≠ x994 := own_ne Vx914.lt zx994
      have ne_x920_x994 : x920 ≠ x994 := own_ne Vx920.lt zx994
      have ne_x926_x994 : x926 ≠ x994 := own_ne Vx926.lt zx994
      have ne_x932_x994 : x932 ≠ x994 := own_ne Vx932.lt zx994
      have ge_x994 : n0 ≤ x994 := own_ge O971 zx994
      have O996 := O971.keep K994 (allS ge_rA (allS ge_rB all0))
      replace V_b851 := V_b851.keep K994 (ninS ne_b851_rA (ninS ne_b851_rB nin0))
      replace V_b863 := V_b863.keep K994 (ninS ne_b863_rA (ninS ne_b863_rB nin0))
      replace V_b871 := V_b871.keep K994 (ninS ne_b871_rA (ninS ne_b871_rB nin0))
      replace V_b879 := V_b879.keep K994 (ninS ne_b879_rA (ninS ne_b879_rB nin0))
      replace V_b891 := V_b891.keep K994 (ninS ne_b891_rA (ninS ne_b891_rB nin0))
      replace E_b903 := E_b903.keep K994
      replace Fc908 := Fc908.keep K994 (ninS ne_b903_rA (ninS ne_b903_rB nin0))
      replace Fw908 := Fw908.keep K994 (ninS ne_b903_rA (ninS ne_b903_rB nin0))
      replace Fh908 := Fh908.keep K994 (ninS ne_b903_rA (ninS ne_b903_rB nin0))
      replace VH := VH.keep K994 (ninS ne_aH_rA (ninS ne_aH_rB nin0))
      replace Vx914 := Vx914.keep K994 (ninS (Ne.symm ne_rA_x914) (ninS (Ne.symm ne_rB_x914) nin0))
      replace Vx920 := Vx920.keep K994 (ninS (Ne.symm ne_rA_x920) (ninS (Ne.symm ne_rB_x920) nin0))
      replace Vx926 := Vx926.keep K994 (ninS (Ne.symm ne_rA_x926) (ninS (Ne.symm ne_rB_x926) nin0))
      replace Vx932 := Vx932.keep K994 (ninS (Ne.symm ne_rA_x932) (ninS (Ne.symm ne_rB_x932) nin0))
      have k998 : Rch p e below S0 T994 (mkF m 349 #[vI p1, vI p2, vI p3, vI cn, vI 0, vR b851, vR b863, vR b871, vR b879, vR b891, vR b903, vR x914, vR x920, vR x926, vR x932, vI b1, vI b2, vI b3, vI b4, vI r0, vI r1, vR x994] [(.ref x994)]) := fun t h => k995 t (by
          show Steps p.tables e below (T994.setTop (mkF m 319 #[vI p1, vI p2, vI p3, vI cn, vI 0, vR b851, vR b863, vR b871, vR b879, vR b891, vR b903, vR x914, vR x920, vR x926, vR x932, vI b1, vI b2, vI b3, vI b4, vI r0, vI r1, vU] [(.ref x994)])) _
          refine XS.astore X994.here hx rfl (hb hby at_319) rfl rfl (l' := #[vI p1, vI p2, vI p3, vI cn, vI 0, vR b851, vR b863, vR b871, vR b879, vR b891, vR b903, vR x914, vR x920, vR x926, vR x932, vI b1, vI b2, vI b3, vI b4, vI r0, vI r1, vR x994]) rfl ?_
          refine XS.iload X994.here hx rfl (hb hby at_321) rfl ?_
          refine XS.ifNo X994.here hx rfl (hb hby at_323) rfl ((if0 _ _).trans (flt ((own_nn hN0) : ¬ (r0 < (0 : Int32)))).1) ?_
          refine XS.iload X994.here hx rfl (hb hby at_326) rfl ?_
          refine XS.ifYes X994.here hx rfl (pc0 := 328) (pc' := 342) rfl (hb hby at_328) rfl ((if0 _ _).trans (flt ((own_nn hN1) : ¬ (r1 < (0 : Int32)))).2.1) (by decide) (by decide) ?_
          refine XS.aload X994.here hx rfl (hb hby at_342) rfl rfl ?_
          refine XS.ifnullNo X994.here hx rfl (hb hby at_344) rfl ?_
          refine XS.aload X994.here hx rfl (hb hby at_347) rfl rfl ?_
          exact h)
      obtain ⟨cl997, Ar997, q997, Sz997, Ng997, Hs997, G997⟩ := id Vx994
      have k1000 : Rch p e below S0 T994 (mkF m 357 #[vI p1, vI p2, vI p3, vI cn, vI 0, vR b851, vR b863, vR b871, vR b879, vR b891, vR b903, vR x914, vR x920, vR x926, vR x932, vI b1, vI b2, vI b3, vI b4, vI r0, vI r1, vR x994] [(.int (0 : Int32)), (.ref x994)]) := fun t h => k998 t (by
          show Steps p.tables e below (T994.setTop (mkF m 349 #[vI p1, vI p2, vI p3, vI cn, vI 0, vR b851, vR b863, vR b871, vR b879, vR b891, vR b903, vR x914, vR x920, vR x926, vR x932, vI b1, vI b2, vI b3, vI b4, vI r0, vI r1, vR x994] [(.ref x994)])) _
          refine X994.arraylength hx (by exact Ar997.1) (State.isArrayOf_alike hZ.alike Ar997.2.1) (g := (mkF m 349 #[vI p1, vI p2, vI p3, vI cn, vI 0, vR b851, vR b863, vR b871, vR b879, vR b891, vR b903, vR x914, vR x920, vR x926, vR x932, vI b1, vI b2, vI b3, vI b4, vI r0, vI r1, vR x994] [(.ref x994)])) rfl rfl (hb hby at_349) _ ?_
          rw [len_of Sz997 Ng997]
          refine XS.iconst X994.here hx rfl (hb hby at_350) ?_
          refine XS.icmpNo X994.here hx rfl (hb hby at_351) rfl (teq (by decide : (2 : Int32) = (2 : Int32))).2 ?_
          refine XS.aload X994.here hx rfl (hb hby at_354) rfl rfl ?_
          refine XS.iconst X994.here hx rfl (hb hby at_356) ?_
          exact h)
      obtain ⟨cl999, Ar999, q999, Sz999, Ng999, Hs999, G999⟩ := id Vx994
      have hin999 : ¬ ((0 : Int32) < 0 ∨ cl999.slots.size ≤ ((0 : Int32)).toNatClampNeg) := inb_of Sz999 ⟨by decide, by decide⟩
      have hat999 : cl999.slots[((0 : Int32)).toNatClampNeg]? = some (.int r0) := Hs999.at hin999 (rfl)
      have k1002 : Rch p e below S0 T994 (mkF m 366 #[vI p1, vI p2, vI p3, vI cn, vI 0, vR b851, vR b863, vR b871, vR b879, vR b891, vR b903, vR x914, vR x920, vR x926, vR x932, vI b1, vI b2, vI b3, vI b4, vI r0, vI r1, vR x994] [(.int (1 : Int32)), (.ref x994)]) := fun t h => k1000 t (by
          show Steps p.tables e below (T994.setTop (mkF m 357 #[vI p1, vI p2, vI p3, vI cn, vI 0, vR b851, vR b863, vR b871, vR b879, vR b891, vR b903, vR x914, vR x920, vR x926, vR x932, vI b1, vI b2, vI b3, vI b4, vI r0, vI r1, vR x994] [(.int (0 : Int32)), (.ref x994)])) _
          refine X994.iaload hx (j := (0 : Int32)) (v := (.int r0)) (by exact Ar999.1) (State.isArrayOf_alike hZ.alike Ar999.2.1) Ar999.2.2 hin999 hat999 (g := (mkF m 357 #[vI p1, vI p2, vI p3, vI cn, vI 0, vR b851, vR b863, vR b871, vR b879, vR b891, vR b903, vR x914, vR x920, vR x926, vR x932, vI b1, vI b2, vI b3, vI b4, vI r0, vI r1, vR x994] [(.int (0 : Int32)), (.ref x994)])) rfl rfl (hb hby at_357) _ ?_
          refine XS.iload X994.here hx rfl (hb hby at_358) rfl ?_
          refine XS.icmpNo X994.here hx rfl (hb hby at_360) rfl (teq (rfl : r0 = r0)).2 ?_
          refine XS.aload X994.here hx rfl (hb hby at_363) rfl rfl ?_
          refine XS.iconst X994.here hx rfl (hb hby at_365) ?_
          exact h)
      obtain ⟨cl1001, Ar1001, q1001, Sz1001, Ng1001, Hs1001, G1001⟩ := id Vx994
      have hin1001 : ¬ ((1 : Int32) < 0 ∨ cl1001.slots.size ≤ ((1 : Int32)).toNatClampNeg) := inb_of Sz1001 ⟨by decide, by decide⟩
      have hat1001 : cl1001.slots[((1 : Int32)).toNatClampNeg]? = some (.int r1) := Hs1001.at hin1001 (rfl)
      have k1003 : Rch p e below S0 T994 (mkF m 377 #[vI p1, vI p2, vI p3, vI cn, vI 0, vR b851, vR b863, vR b871, vR b879, vR b891, vR b903, vR x914, vR x920, vR x926, vR x932, vI b1, vI b2, vI b3, vI b4, vI r0, vI r1, vR x994] [(.int (1 : Int32))]) := fun t h => k1002 t (by
          show Steps p.tables e below (T994.setTop (mkF m 366 #[vI p1, vI p2, vI p3, vI cn, vI 0, vR b851, vR b863, vR b871, vR b879, vR b891, vR b903, vR x914, vR x920, vR x926, vR x932, vI b1, vI b2, vI b3, vI b4, vI r0, vI r1, vR x994] [(.int (1 : Int32)), (.ref x994)])) _
          refine X994.iaload hx (j := (1 : Int32)) (v := (.int r1)) (by exact Ar1001.1) (State.isArrayOf_alike hZ.alike Ar1001.2.1) Ar1001.2.2 hin1001 hat1001 (g := (mkF m 366 #[vI p1, vI p2, vI p3, vI cn, vI 0, vR b851, vR b863, vR b871, vR b879, vR b891, vR b903, vR x914, vR x920, vR x926, vR x932, vI b1, vI b2, vI b3, vI b4, vI r0, vI r1, vR x994] [(.int (1 : Int32)), (.ref x994)])) rfl rfl (hb hby at_366) _ ?_
          refine XS.iload X994.here hx rfl (hb hby at_367) rfl ?_
          refine XS.icmpNo X994.here hx rfl (hb hby at_369) rfl (teq (rfl : r1 = r1)).2 ?_
          refine XS.iconst X994.here hx rfl (hb hby at_372) ?_
          refine XS.goto X994.here hx rfl (pc0 := 373) (pc' := 377) rfl (hb hby at_373) (by decide) (by decide) ?_
          exact h)
      obtain ⟨fs, hr, hrun, hended, hW, hsame⟩ := X994.leave (v := (some (.int (1 : Int32)))) (fun h => by rw [Bd.returns] at h; cases h)
      refine ⟨_, _, ?_, hrun, hended, _, _, rfl, ?_, ⟨_, rfl⟩, hW, hsame.mono (by decide) (by decide)⟩
      · rw [← hS0]
        refine k1003 _ ?_
        show Steps p.tables e below (T994.setTop (mkF m 377 #[vI p1, vI p2, vI p3, vI cn, vI 0, vR b851, vR b863, vR b871, vR b879, vR b891, vR b903, vR x914, vR x920, vR x926, vR x932, vI b1, vI b2, vI b3, vI b4, vI r0, vI r1, vR x994] [(.int (1 : Int32))])) _
        exact retN X994 hx (t := .boolean) Bd.returns (by simp) (hb hby at_377) hr
      · show Q_rm0_n Z  h0 n0 _ T994.heap _
        exact ⟨rfl, N994⟩
    · have k1004 : Rch p e below S0 T970 (mkF m 292 #[vI p1, vI p2, vI p3, vI cn, vI 0, vR b851, vR b863, vR b871, vR b879, vR b891, vR b903, vR x914, vR x920, vR x926, vR x932, vI b1, vI b2, vI b3, vI b4, vU, vU, vU] [(.int cn), (.int b4), (.int b2), (.int b1)]) := fun t h => k970 t (by
          show Steps p.tables e below (T970.setTop (mkF m 285 #[vI p1, vI p2, vI p3, vI cn, vI 0, vR b851, vR b863, vR b871, vR b879, vR b891, vR b903, vR x914, vR x920, vR x926, vR x932, vI b1, vI b2, vI b3, vI b4, vU, vU, vU] [])) _
          refine XS.iload X970.here hx rfl (hb hby at_285) rfl ?_
          refine XS.iload X970.here hx rfl (hb hby at_287) rfl ?_
          refine XS.iload X970.here hx rfl (hb hby at_289) rfl ?_
          refine XS.iloadN X970.here hx rfl (hb hby at_291) rfl ?_
          exact h)
      obtain ⟨_, _, ⟨T1005, L1005, kk1005, n1005⟩, -, X1005, ⟨Lc1005, hQ1005, l1005, y1005, z1005⟩, st1005⟩ := Jvm.LawKit.callS X970 hx (y := (⟨"com/example/lumenplan/lumenplan/simulation/WavelengthsReleasePinLaw", "lowest", "(ZZZI)I"⟩ : MethodName)) hown (mvT hZ (hw _ (gm 60 rfl))) (mvT hZ (hw _ (gm 61 rfl))) (mvT hZ (hw _ (gm 62 rfl))) (mvT hZ (hw _ (gm 63 rfl))) (by decide) (backOf (W := 0) (rmLW l Z a0 hw [] b1 b2 b4 cn r0 r0 T970.heap n0 O971 hL0 (Or.inl ⟨c0, rfl⟩)) hZ (hw _ (gm 63 rfl)) (hw _ (gm 62 rfl)) (by decide) (by decide)) (g := (mkF m 292 #[vI p1, vI p2, vI p3, vI cn, vI 0, vR b851, vR b863, vR b871, vR b879, vR b891, vR b903, vR x914, vR x920, vR x926, vR x932, vI b1, vI b2, vI b3, vI b4, vU, vU, vU] [(.int cn), (.int b4), (.int b2), (.int b1)])) rfl (by rw [hml]; rfl) (argsL := [(.int b1), (.int b2), (.int b4), (.int cn)]) (rest := []) (lenOf pd_10 rfl) rfl (by show 2 * 0 + _ ≤ _; exact Nat.le_of_eq rfl) (hb hby at_292) (fun _ _ => ⟨rfl, rfl, (by decide : 13 + 0 ≤ _), (by decide : 23 + 0 ≤ _)⟩)
      dsimp only [Pt.U, Pt.locs, Pt.cells, Pt.slots] at X1005 l1005 y1005 z1005 st1005 hQ1005
      subst l1005 y1005 z1005
      obtain ⟨rfl, Nq1005, hh1005⟩ := hQ1005
      have N1005 := Fr.app N970 Nq1005
      have k1006 : Rch p e below S0 T1005 (mkF m 295 #[vI p1, vI p2, vI p3, vI cn, vI 0, vR b851, vR b863, vR b871, vR b879, vR b891, vR b903, vR x914, vR x920, vR x926, vR x932, vI b1, vI b2, vI b3, vI b4, vU, vU, vU] [(.int r0)]) := fun t h => k1004 t (st1005 t h)
      have k1007 : Rch p e below S0 T1005 (mkF m 304 #[vI p1, vI p2, vI p3, vI cn, vI 0, vR b851, vR b863, vR b871, vR b879, vR b891, vR b903, vR x914, vR x920, vR x926, vR x932, vI b1, vI b2, vI b3, vI b4, vI r0, vU, vU] [(.int cn), (.int b4), (.int b3), (.int b1)]) := fun t h => k1006 t (by
          show Steps p.tables e below (T1005.setTop (mkF m 295 #[vI p1, vI p2, vI p3, vI cn, vI 0, vR b851, vR b863, vR b871, vR b879, vR b891, vR b903, vR x914, vR x920, vR x926, vR x932, vI b1, vI b2, vI b3, vI b4, vU, vU, vU] [(.int r0)])) _
          refine XS.istore X1005.here hx rfl (hb hby at_295) rfl (l' := #[vI p1, vI p2, vI p3, vI cn, vI 0, vR b851, vR b863, vR b871, vR b879, vR b891, vR b903, vR x914, vR x920, vR x926, vR x932, vI b1, vI b2, vI b3, vI b4, vI r0, vU, vU]) rfl ?_
          refine XS.iload X1005.here hx rfl (hb hby at_297) rfl ?_
          refine XS.iload X1005.here hx rfl (hb hby at_299) rfl ?_
          refine XS.iload X1005.here hx rfl (hb hby at_301) rfl ?_
          refine XS.iloadN X1005.here hx rfl (hb hby at_303) rfl ?_
          exact h)
      obtain ⟨_, _, ⟨T1008, L1008, kk1008, n1008⟩, -, X1008, ⟨Lc1008, hQ1008, l1008, y1008, z1008⟩, st1008⟩ := Jvm.LawKit.callS X1005 hx (y := (⟨"com/example/lumenplan/lumenplan/simulation/WavelengthsReleasePinLaw", "lowest", "(ZZZI)I"⟩ : MethodName)) hown (mvT hZ (hw _ (gm 60 rfl))) (mvT hZ (hw _ (gm 61 rfl))) (mvT hZ (hw _ (gm 62 rfl))) (mvT hZ (hw _ (gm 63 rfl))) (by decide) (backOf (W := 0) (rmLW l Z a0 hw [] b1 b3 b4 cn r1 (-1 : Int32) T970.heap n0 O971 hL1 (Or.inr ⟨c1, rfl⟩)) hZ (hw _ (gm 63 rfl)) (hw _ (gm 62 rfl)) (by decide) (by decide)) (g := (mkF m 304 #[vI p1, vI p2, vI p3, vI cn, vI 0, vR b851, vR b863, vR b871, vR b879, vR b891, vR b903, vR x914, vR x920, vR x926, vR x932, vI b1, vI b2, vI b3, vI b4, vI r0, vU, vU] [(.int cn), (.int b4), (.int b3), (.int b1)])) rfl (by rw [hml]; rfl) (argsL := [(.int b1), (.int b3), (.int b4), (.int cn)]) (rest := []) (lenOf pd_10 rfl) rfl (by show 2 * 0 + _ ≤ _; exact Nat.le_of_eq rfl) (hb hby at_304) (fun _ _ => ⟨rfl, hh1005, (by decide : 13 + 0 ≤ _), (by decide : 23 + 0 ≤ _)⟩)
      dsimp only [Pt.U, Pt.locs, Pt.cells, Pt.slots] at X1008 l1008 y1008 z1008 st1008 hQ1008
      subst l1008 y1008 z1008
      obtain ⟨rfl, Nq1008, hh1008⟩ := hQ1008
      have N1008 := Fr.app N1005 Nq1008
      have k1009 : Rch p e below S0 T1008 (mkF m 307 #[vI p1, vI p2, vI p3, vI cn, vI 0, vR b851, vR b863, vR b871, vR b879, vR b891, vR b903, vR x914, vR x920, vR x926, vR x932, vI b1, vI b2, vI b3, vI b4, vI r0, vU, vU] [(.int (-1 : Int32))]) := fun t h => k1007 t (st1008 t h)
      have k1011 : Rch p e below S0 T1008 (mkF m 313 #[vI p1, vI p2, vI p3, vI cn, vI 0, vR b851, vR b863, vR b871, vR b879, vR b891, vR b903, vR x914, vR x920, vR x926, vR x932, vI b1, vI b2, vI b3, vI b4, vI r0, vI (-1), vU] [(.ref b891), (.ref b903)]) := fun t h => k1009 t (by
          show Steps p.tables e below (T1008.setTop (mkF m 307 #[vI p1, vI p2, vI p3, vI cn, vI 0, vR b851, vR b863, vR b871, vR b879, vR b891, vR b903, vR x914, vR x920, vR x926, vR x932, vI b1, vI b2, vI b3, vI b4, vI r0, vU, vU] [(.int (-1 : Int32))])) _
          refine XS.istore X1008.here hx rfl (hb hby at_307) rfl (l' := #[vI p1, vI p2, vI p3, vI cn, vI 0, vR b851, vR b863, vR b871, vR b879, vR b891, vR b903, vR x914, vR x920, vR x926, vR x932, vI b1, vI b2, vI b3, vI b4, vI r0, vI (-1), vU]) rfl ?_
          refine XS.aload X1008.here hx rfl (hb hby at_309) rfl rfl ?_
          refine XS.aload X1008.here hx rfl (hb hby at_311) rfl rfl ?_
          exact h)
      obtain ⟨T1010, X1010, e1010, st1010⟩ := getS2 X1008 hx hZ hown (host := "") (Or.inl (hw _ (gm 64 rfl))) Via.refl hh1008 (SF.ext O971.2) (g := (mkF m 313 #[vI p1, vI p2, vI p3, vI cn, vI 0, vR b851, vR b863, vR b871, vR b879, vR b891, vR b903, vR x914, vR x920, vR x926, vR x932, vI b1, vI b2, vI b3, vI b4, vI r0, vI (-1), vU] [(.ref b891), (.ref b903)])) rfl (hb hby at_313)
      have k1012 : Rch p e below S0 T1010 (mkF m 316 #[vI p1, vI p2, vI p3, vI cn, vI 0, vR b851, vR b863, vR b871, vR b879, vR b891, vR b903, vR x914, vR x920, vR x926, vR x932, vI b1, vI b2, vI b3, vI b4, vI r0, vI (-1), vU] [(.ref wF), (.ref b891), (.ref b903)]) := fun t h => k1011 t (st1010 t h)
      obtain ⟨cq1013, kq1013, q1013a, q1013b, q1013c⟩ := isOf hZ e1010 E_b903
      obtain ⟨_, _, ⟨T1013, L1013, kk1013, n1013⟩, -, X1013, ⟨Lc1013, hQ1013, l1013, y1013, z1013⟩, st1013⟩ := X1010.virtualBack hx (y := (⟨"com/example/lumenplan/lumenplan/simulation/Wavelengths", "take", "([ILcom/example/lumenplan/lumenplan/simulation/Conversion;)[I"⟩ : MethodName)) (z := (⟨"com/example/lumenplan/lumenplan/simulation/Wavelengths", "take", "([ILcom/example/lumenplan/lumenplan/simulation/Conversion;)[I"⟩ : MethodName)) hown (mvT hZ (hw _ (gm 27 rfl))) (mvT hZ (hw _ (gm 28 rfl))) (notFace_of_selects (args := #[]) (mvT hZ (hw _ (gm 30 rfl)))) (mvT hZ (hw _ (gm 30 rfl))) (mvT hZ (hw _ (gm 29 rfl))) (by decide) (backOf (W := 0) (rmT_N1 l Z a0 hw []  b903 aH rA rB kH kL cn wd u970 v970 b891 k891 r0 r1 wN wF T970.heap n0 O971 ge_rA ge_rB E_b903 Fh908 VH VA970 VB970 Fc908 Fw908 V_b891 SN hne hN0 hN1 hw0 c0 c1 (fun q => ne_b903_rA q) (fun q => ne_b903_rB q) (fun q => ne_aH_rA q) (fun q => ne_aH_rB q) (fun q => ne_rA_rB q) (fun q => ne_b891_rA q) (fun q => ne_b891_rB q)) hZ (hw _ (gm 31 rfl)) (hw _ (gm 7 rfl)) (by decide) (by decide)) q1013a q1013c (g := (mkF m 316 #[vI p1, vI p2, vI p3, vI cn, vI 0, vR b851, vR b863, vR b871, vR b879, vR b891, vR b903, vR x914, vR x920, vR x926, vR x932, vI b1, vI b2, vI b3, vI b4, vI r0, vI (-1), vU] [(.ref wF), (.ref b891), (.ref b903)])) rfl (by rw [hml]; rfl) (Steps.refl _) (argsL := [(.ref b891), (.ref wF)]) (rest := []) (lenOf pd_3 rfl) rfl (by show 2 * 0 + _ ≤ _; exact Nat.le_of_eq rfl) (hb hby at_316) (fun _ _ => ⟨rfl, e1010, (by decide : 13 + 1 ≤ _), (by decide : 23 + 2 ≤ _)⟩)
      dsimp only [Pt.U, Pt.locs, Pt.cells, Pt.slots] at X1013 l1013 y1013 z1013 st1013 hQ1013
      subst l1013 y1013 z1013
      obtain ⟨rfl, Nq1013, K1013⟩ := hQ1013
      have N1013 := Fr.app N1008 Nq1013
      have k1014 : Rch p e below S0 T1013 (mkF m 319 #[vI p1, vI p2, vI p3, vI cn, vI 0, vR b851, vR b863, vR b871, vR b879, vR b891, vR b903, vR x914, vR x920, vR x926, vR x932, vI b1, vI b2, vI b3, vI b4, vI r0, vI (-1), vU] [.null]) := fun t h => k1012 t (st1013.trans h)
      have O1015 := O971.keep K1013 (allS ge_rA (allS ge_rB all0))
      replace V_b851 := V_b851.keep K1013 (ninS ne_b851_rA (ninS ne_b851_rB nin0))
      replace V_b863 := V_b863.keep K1013 (ninS ne_b863_rA (ninS ne_b863_rB nin0))
      replace V_b871 := V_b871.keep K1013 (ninS ne_b871_rA (ninS ne_b871_rB nin0))
      replace V_b879 := V_b879.keep K1013 (ninS ne_b879_rA (ninS ne_b879_rB nin0))
      replace V_b891 := V_b891.keep K1013 (ninS ne_b891_rA (ninS ne_b891_rB nin0))
      replace E_b903 := E_b903.keep K1013
      replace Fc908 := Fc908.keep K1013 (ninS ne_b903_rA (ninS ne_b903_rB nin0))
      replace Fw908 := Fw908.keep K1013 (ninS ne_b903_rA (ninS ne_b903_rB nin0))
      replace Fh908 := Fh908.keep K1013 (ninS ne_b903_rA (ninS ne_b903_rB nin0))
      replace VH := VH.keep K1013 (ninS ne_aH_rA (ninS ne_aH_rB nin0))
      replace Vx914 := Vx914.keep K1013 (ninS (Ne.symm ne_rA_x914) (ninS (Ne.symm ne_rB_x914) nin0))
      replace Vx920 := Vx920.keep K1013 (ninS (Ne.symm ne_rA_x920) (ninS (Ne.symm ne_rB_x920) nin0))
      replace Vx926 := Vx926.keep K1013 (ninS (Ne.symm ne_rA_x926) (ninS (Ne.symm ne_rB_x926) nin0))
      replace Vx932 := Vx932.keep K1013 (ninS (Ne.symm ne_rA_x932) (ninS (Ne.symm ne_rB_x932) nin0))
      have k1016 : Rch p e below S0 T1013 (mkF m 341 #[vI p1, vI p2, vI p3, vI cn, vI 0, vR b851, vR b863, vR b871, vR b879, vR b891, vR b903, vR x914, vR x920, vR x926, vR x932, vI b1, vI b2, vI b3, vI b4, vI r0, vI (-1), .val .null] [(.int (1 : Int32))]) := fun t h => k1014 t (by
          show Steps p.tables e below (T1013.setTop (mkF m 319 #[vI p1, vI p2, vI p3, vI cn, vI 0, vR b851, vR b863, vR b871, vR b879, vR b891, vR b903, vR x914, vR x920, vR x926, vR x932, vI b1, vI b2, vI b3, vI b4, vI r0, vI (-1), vU] [.null])) _
          refine XS.astore X1013.here hx rfl (hb hby at_319) rfl rfl (l' := #[vI p1, vI p2, vI p3, vI cn, vI 0, vR b851, vR b863, vR b871, vR b879, vR b891, vR b903, vR x914, vR x920, vR x926, vR x932, vI b1, vI b2, vI b3, vI b4, vI r0, vI (-1), .val .null]) rfl ?_
          refine XS.iload X1013.here hx rfl (hb hby at_321) rfl ?_
          refine XS.ifNo X1013.here hx rfl (hb hby at_323) rfl ((if0 _ _).trans (flt ((own_nn hN0) : ¬ (r0 < (0 : Int32)))).1) ?_
          refine XS.iload X1013.here hx rfl (hb hby at_326) rfl ?_
          refine XS.ifNo X1013.here hx rfl (hb hby at_328) rfl ((if0 _ _).trans (tlt (by decide : (-1 : Int32) < (0 : Int32))).2.1) ?_
          refine XS.aload X1013.here hx rfl (hb hby at_331) rfl rfl ?_
          refine XS.ifnonnullNo X1013.here hx rfl (hb hby at_333) rfl ?_
          refine XS.iconst X1013.here hx rfl (hb hby at_336) ?_
          refine XS.goto X1013.here hx rfl (pc0 := 337) (pc' := 341) rfl (hb hby at_337) (by decide) (by decide) ?_
          exact h)
      obtain ⟨fs, hr, hrun, hended, hW, hsame⟩ := X1013.leave (v := (some (.int (1 : Int32)))) (fun h => by rw [Bd.returns] at h; cases h)
      refine ⟨_, _, ?_, hrun, hended, _, _, rfl, ?_, ⟨_, rfl⟩, hW, hsame.mono (by decide) (by decide)⟩
      · rw [← hS0]
        refine k1016 _ ?_
        show Steps p.tables e below (T1013.setTop (mkF m 341 #[vI p1, vI p2, vI p3, vI cn, vI 0, vR b851, vR b863, vR b871, vR b879, vR b891, vR b903, vR x914, vR x920, vR x926, vR x932, vI b1, vI b2, vI b3, vI b4, vI r0, vI (-1), .val .null] [(.int (1 : Int32))])) _
        exact retN X1013 hx (t := .boolean) Bd.returns (by simp) (hb hby at_341) hr
      · show Q_rm0_n Z  h0 n0 _ T1013.heap _
        exact ⟨rfl, N1013⟩
  · obtain ⟨l1, hl1⟩ := own_lo r1 cn
    have k972 : Rch p e below S0 T970 (mkF m 292 #[vI p1, vI p2, vI p3, vI cn, vI 0, vR b851, vR b863, vR b871, vR b879, vR b891, vR b903, vR x914, vR x920, vR x926, vR x932, vI b1, vI b2, vI b3, vI b4, vU, vU, vU] [(.int cn), (.int b4), (.int b2), (.int b1)]) := fun t h => k970 t (by
        show Steps p.tables e below (T970.setTop (mkF m 285 #[vI p1, vI p2, vI p3, vI cn, vI 0, vR b851, vR b863, vR b871, vR b879, vR b891, vR b903, vR x914, vR x920, vR x926, vR x932, vI b1, vI b2, vI b3, vI b4, vU, vU, vU] [])) _
        refine XS.iload X970.here hx rfl (hb hby at_285) rfl ?_
        refine XS.iload X970.here hx rfl (hb hby at_287) rfl ?_
        refine XS.iload X970.here hx rfl (hb hby at_289) rfl ?_
        refine XS.iloadN X970.here hx rfl (hb hby at_291) rfl ?_
        exact h)
    obtain ⟨_, _, ⟨T973, L973, kk973, n973⟩, -, X973, ⟨Lc973, hQ973, l973, y973, z973⟩, st973⟩ := Jvm.LawKit.callS X970 hx (y := (⟨"com/example/lumenplan/lumenplan/simulation/WavelengthsReleasePinLaw", "lowest", "(ZZZI)I"⟩ : MethodName)) hown (mvT hZ (hw _ (gm 60 rfl))) (mvT hZ (hw _ (gm 61 rfl))) (mvT hZ (hw _ (gm 62 rfl))) (mvT hZ (hw _ (gm 63 rfl))) (by decide) (backOf (W := 0) (rmLW l Z a0 hw [] b1 b2 b4 cn r0 (-1 : Int32) T970.heap n0 O971 hL0 (Or.inr ⟨c0, rfl⟩)) hZ (hw _ (gm 63 rfl)) (hw _ (gm 62 rfl)) (by decide) (by decide)) (g := (mkF m 292 #[vI p1, vI p2, vI p3, vI cn, vI 0, vR b851, vR b863, vR b871, vR b879, vR b891, vR b903, vR x914, vR x920, vR x926, vR x932, vI b1, vI b2, vI b3, vI b4, vU, vU, vU] [(.int cn), (.int b4), (.int b2), (.int b1)])) rfl (by rw [hml]; rfl) (argsL := [(.int b1), (.int b2), (.int b4), (.int cn)]) (rest := []) (lenOf pd_10 rfl) rfl (by show 2 * 0 + _ ≤ _; exact Nat.le_of_eq rfl) (hb hby at_292) (fun _ _ => ⟨rfl, rfl, (by decide : 13 + 0 ≤ _), (by decide : 23 + 0 ≤ _)⟩)
    dsimp only [Pt.U, Pt.locs, Pt.cells, Pt.slots] at X973 l973 y973 z973 st973 hQ973
    subst l973 y973 z973
    obtain ⟨rfl, Nq973, hh973⟩ := hQ973
    have N973 := Fr.app N970 Nq973
    have k974 : Rch p e below S0 T973 (mkF m 295 #[vI p1, vI p2, vI p3, vI cn, vI 0, vR b851, vR b863, vR b871, vR b879, vR b891, vR b903, vR x914, vR x920, vR x926, vR x932, vI b1, vI b2, vI b3, vI b4, vU, vU, vU] [(.int (-1 : Int32))]) := fun t h => k972 t (st973 t h)
    have k975 : Rch p e below S0 T973 (mkF m 304 #[vI p1, vI p2, vI p3, vI cn, vI 0, vR b851, vR b863, vR b871, vR b879, vR b891, vR b903, vR x914, vR x920, vR x926, vR x932, vI b1, vI b2, vI b3, vI b4, vI (-1), vU, vU] [(.int cn), (.int b4), (.int b3), (.int b1)]) := fun t h => k974 t (by
        show Steps p.tables e below (T973.setTop (mkF m 295 #[vI p1, vI p2, vI p3, vI cn, vI 0, vR b851, vR b863, vR b871, vR b879, vR b891, vR b903, vR x914, vR x920, vR x926, vR x932, vI b1, vI b2, vI b3, vI b4, vU, vU, vU] [(.int (-1 : Int32))])) _
        refine XS.istore X973.here hx rfl (hb hby at_295) rfl (l' := #[vI p1, vI p2, vI p3, vI cn, vI 0, vR b851, vR b863, vR b871, vR b879, vR b891, vR b903, vR x914, vR x920, vR x926, vR x932, vI b1, vI b2, vI b3, vI b4, vI (-1), vU, vU]) rfl ?_
        refine XS.iload X973.here hx rfl (hb hby at_297) rfl ?_
        refine XS.iload X973.here hx rfl (hb hby at_299) rfl ?_
        refine XS.iload X973.here hx rfl (hb hby at_301) rfl ?_
        refine XS.iloadN X973.here hx rfl (hb hby at_303) rfl ?_
        exact h)
    obtain ⟨_, _, ⟨T976, L976, kk976, n976⟩, -, X976, ⟨Lc976, hQ976, l976, y976, z976⟩, st976⟩ := Jvm.LawKit.callS X973 hx (y := (⟨"com/example/lumenplan/lumenplan/simulation/WavelengthsReleasePinLaw", "lowest", "(ZZZI)I"⟩ : MethodName)) hown (mvT hZ (hw _ (gm 60 rfl))) (mvT hZ (hw _ (gm 61 rfl))) (mvT hZ (hw _ (gm 62 rfl))) (mvT hZ (hw _ (gm 63 rfl))) (by decide) (backOf (W := 0) (rmLW l Z a0 hw [] b1 b3 b4 cn r1 l1 T970.heap n0 O971 hL1 hl1) hZ (hw _ (gm 63 rfl)) (hw _ (gm 62 rfl)) (by decide) (by decide)) (g := (mkF m 304 #[vI p1, vI p2, vI p3, vI cn, vI 0, vR b851, vR b863, vR b871, vR b879, vR b891, vR b903, vR x914, vR x920, vR x926, vR x932, vI b1, vI b2, vI b3, vI b4, vI (-1), vU, vU] [(.int cn), (.int b4), (.int b3), (.int b1)])) rfl (by rw [hml]; rfl) (argsL := [(.int b1), (.int b3), (.int b4), (.int cn)]) (rest := []) (lenOf pd_10 rfl) rfl (by show 2 * 0 + _ ≤ _; exact Nat.le_of_eq rfl) (hb hby at_304) (fun _ _ => ⟨rfl, hh973, (by decide : 13 + 0 ≤ _), (by decide : 23 + 0 ≤ _)⟩)
    dsimp only [Pt.U, Pt.locs, Pt.cells, Pt.slots] at X976 l976 y976 z976 st976 hQ976
    subst l976 y976 z976
    obtain ⟨rfl, Nq976, hh976⟩ := hQ976
    have N976 := Fr.app N973 Nq976
    have k977 : Rch p e below S0 T976 (mkF m 307 #[vI p1, vI p2, vI p3, vI cn, vI 0, vR b851, vR b863, vR b871, vR b879, vR b891, vR b903, vR x914, vR x920, vR x926, vR x932, vI b1, vI b2, vI b3, vI b4, vI (-1), vU, vU] [(.int l1)]) := fun t h => k975 t (st976 t h)
    have k979 : Rch p e below S0 T976 (mkF m 313 #[vI p1, vI p2, vI p3, vI cn, vI 0, vR b851, vR b863, vR b871, vR b879, vR b891, vR b903, vR x914, vR x920, vR x926, vR x932, vI b1, vI b2, vI b3, vI b4, vI (-1), vI l1, vU] [(.ref b891), (.ref b903)]) := fun t h => k977 t (by
        show Steps p.tables e below (T976.setTop (mkF m 307 #[vI p1, vI p2, vI p3, vI cn, vI 0, vR b851, vR b863, vR b871, vR b879, vR b891, vR b903, vR x914, vR x920, vR x926, vR x932, vI b1, vI b2, vI b3, vI b4, vI (-1), vU, vU] [(.int l1)])) _
        refine XS.istore X976.here hx rfl (hb hby at_307) rfl (l' := #[vI p1, vI p2, vI p3, vI cn, vI 0, vR b851, vR b863, vR b871, vR b879, vR b891, vR b903, vR x914, vR x920, vR x926, vR x932, vI b1, vI b2, vI b3, vI b4, vI (-1), vI l1, vU]) rfl ?_
        refine XS.aload X976.here hx rfl (hb hby at_309) rfl rfl ?_
        refine XS.aload X976.here hx rfl (hb hby at_311) rfl rfl ?_
        exact h)
    obtain ⟨T978, X978, e978, st978⟩ := getS2 X976 hx hZ hown (host := "") (Or.inl (hw _ (gm 64 rfl))) Via.refl hh976 (SF.ext O971.2) (g := (mkF m 313 #[vI p1, vI p2, vI p3, vI cn, vI 0, vR b851, vR b863, vR b871, vR b879, vR b891, vR b903, vR x914, vR x920, vR x926, vR x932, vI b1, vI b2, vI b3, vI b4, vI (-1), vI l1, vU] [(.ref b891), (.ref b903)])) rfl (hb hby at_313)
    have k980 : Rch p e below S0 T978 (mkF m 316 #[vI p1, vI p2, vI p3, vI cn, vI 0, vR b851, vR b863, vR b871, vR b879, vR b891, vR b903, vR x914, vR x920, vR x926, vR x932, vI b1, vI b2, vI b3, vI b4, vI (-1), vI l1, vU] [(.ref wF), (.ref b891), (.ref b903)]) := fun t h => k979 t (st978 t h)
    obtain ⟨cq981, kq981, q981a, q981b, q981c⟩ := isOf hZ e978 E_b903
    obtain ⟨_, _, ⟨T981, L981, kk981, n981⟩, -, X981, ⟨Lc981, hQ981, l981, y981, z981⟩, st981⟩ := X978.virtualBack hx (y := (⟨"com/example/lumenplan/lumenplan/simulation/Wavelengths", "take", "([ILcom/example/lumenplan/lumenplan/simulation/Conversion;)[I"⟩ : MethodName)) (z := (⟨"com/example/lumenplan/lumenplan/simulation/Wavelengths", "take", "([ILcom/example/lumenplan/lumenplan/simulation/Conversion;)[I"⟩ : MethodName)) hown (mvT hZ (hw _ (gm 27 rfl))) (mvT hZ (hw _ (gm 28 rfl))) (notFace_of_selects (args := #[]) (mvT hZ (hw _ (gm 30 rfl)))) (mvT hZ (hw _ (gm 30 rfl))) (mvT hZ (hw _ (gm 29 rfl))) (by decide) (backOf (W := 0) (rmT_N0 l Z a0 hw []  b903 aH rA rB kH kL cn wd u970 v970 b891 k891 r0 r1 l1 wN wF T970.heap n0 O971 ge_rA ge_rB E_b903 Fh908 VH VA970 VB970 Fc908 Fw908 V_b891 SN hne hN0 hN1 hw0 c0 hl1 (fun q => ne_b903_rA q) (fun q => ne_b903_rB q) (fun q => ne_aH_rA q) (fun q => ne_aH_rB q) (fun q => ne_rA_rB q) (fun q => ne_b891_rA q) (fun q => ne_b891_rB q)) hZ (hw _ (gm 31 rfl)) (hw _ (gm 7 rfl)) (by decide) (by decide)) q981a q981c (g := (mkF m 316 #[vI p1, vI p2, vI p3, vI cn, vI 0, vR b851, vR b863, vR b871, vR b879, vR b891, vR b903, vR x914, vR x920, vR x926, vR x932, vI b1, vI b2, vI b3, vI b4, vI (-1), vI l1, vU] [(.ref wF), (.ref b891), (.ref b903)])) rfl (by rw [hml]; rfl) (Steps.refl _) (argsL := [(.ref b891), (.ref wF)]) (rest := []) (lenOf pd_3 rfl) rfl (by show 2 * 0 + _ ≤ _; exact Nat.le_of_eq rfl) (hb hby at_316) (fun _ _ => ⟨rfl, e978, (by decide : 13 + 1 ≤ _), (by decide : 23 + 2 ≤ _)⟩)
    dsimp only [Pt.U, Pt.locs, Pt.cells, Pt.slots] at X981 l981 y981 z981 st981 hQ981
    subst l981 y981 z981
    obtain ⟨rfl, Nq981, K981⟩ := hQ981
    have N981 := Fr.app N976 Nq981
    have k982 : Rch p e below S0 T981 (mkF m 319 #[vI p1, vI p2, vI p3, vI cn, vI 0, vR b851, vR b863, vR b871, vR b879, vR b891, vR b903, vR x914, vR x920, vR x926, vR x932, vI b1, vI b2, vI b3, vI b4, vI (-1), vI l1, vU] [.null]) := fun t h => k980 t (st981.trans h)
    have O983 := O971.keep K981 (allS ge_rA (allS ge_rB all0))
    replace V_b851 := V_b851.keep K981 (ninS ne_b851_rA (ninS ne_b851_rB nin0))
    replace V_b863 := V_b863.keep K981 (ninS ne_b863_rA (ninS ne_b863_rB nin0))
    replace V_b871 := V_b871.keep K981 (ninS ne_b871_rA (ninS ne_b871_rB nin0))
    replace V_b879 := V_b879.keep K981 (ninS ne_b879_rA (ninS ne_b879_rB nin0))
    replace V_b891 := V_b891.keep K981 (ninS ne_b891_rA (ninS ne_b891_rB nin0))
    replace E_b903 := E_b903.keep K981
    replace Fc908 := Fc908.keep K981 (ninS ne_b903_rA (ninS ne_b903_rB nin0))
    replace Fw908 := Fw908.keep K981 (ninS ne_b903_rA (ninS ne_b903_rB nin0))
    replace Fh908 := Fh908.keep K981 (ninS ne_b903_rA (ninS ne_b903_rB nin0))
    replace VH := VH.keep K981 (ninS ne_aH_rA (ninS ne_aH_rB nin0))
    replace Vx914 := Vx914.keep K981 (ninS (Ne.symm ne_rA_x914) (ninS (Ne.symm ne_rB_x914) nin0))
    replace Vx920 := Vx920.keep K981 (ninS (Ne.symm ne_rA_x920) (ninS (Ne.symm ne_rB_x920) nin0))
    replace Vx926 := Vx926.keep K981 (ninS (Ne.symm ne_rA_x926) (ninS (Ne.symm ne_rB_x926) nin0))
    replace Vx932 := Vx932.keep K981 (ninS (Ne.symm ne_rA_x932) (ninS (Ne.symm ne_rB_x932) nin0))
    have k984 : Rch p e below S0 T981 (mkF m 341 #[vI p1, vI p2, vI p3, vI cn, vI 0, vR b851, vR b863, vR b871, vR b879, vR b891, vR b903, vR x914, vR x920, vR x926, vR x932, vI b1, vI b2, vI b3, vI b4, vI (-1), vI l1, .val .null] [(.int (1 : Int32))]) := fun t h => k982 t (by
        show Steps p.tables e below (T981.setTop (mkF m 319 #[vI p1, vI p2, vI p3, vI cn, vI 0, vR b851, vR b863, vR b871, vR b879, vR b891, vR b903, vR x914, vR x920, vR x926, vR x932, vI b1, vI b2, vI b3, vI b4, vI (-1), vI l1, vU] [.null])) _
        refine XS.astore X981.here hx rfl (hb hby at_319) rfl rfl (l' := #[vI p1, vI p2, vI p3, vI cn, vI 0, vR b851, vR b863, vR b871, vR b879, vR b891, vR b903, vR x914, vR x920, vR x926, vR x932, vI b1, vI b2, vI b3, vI b4, vI (-1), vI l1, .val .null]) rfl ?_
        refine XS.iload X981.here hx rfl (hb hby at_321) rfl ?_
        refine XS.ifYes X981.here hx rfl (pc0 := 323) (pc' := 331) rfl (hb hby at_323) rfl ((if0 _ _).trans (tlt (by decide : (-1 : Int32) < (0 : Int32))).1) (by decide) (by decide) ?_
        refine XS.aload X981.here hx rfl (hb hby at_331) rfl rfl ?_
        refine XS.ifnonnullNo X981.here hx rfl (hb hby at_333) rfl ?_
        refine XS.iconst X981.here hx rfl (hb hby at_336) ?_
        refine XS.goto X981.here hx rfl (pc0 := 337) (pc' := 341) rfl (hb hby at_337) (by decide) (by decide) ?_
        exact h)
    obtain ⟨fs, hr, hrun, hended, hW, hsame⟩ := X981.leave (v := (some (.int (1 : Int32)))) (fun h => by rw [Bd.returns] at h; cases h)
    refine ⟨_, _, ?_, hrun, hended, _, _, rfl, ?_, ⟨_, rfl⟩, hW, hsame.mono (by decide) (by decide)⟩
    · rw [← hS0]
      refine k984 _ ?_
      show Steps p.tables e below (T981.setTop (mkF m 341 #[vI p1, vI p2, vI p3, vI cn, vI 0, vR b851, vR b863, vR b871, vR b879, vR b891, vR b903, vR x914, vR x920, vR x926, vR x932, vI b1, vI b2, vI b3, vI b4, vI (-1), vI l1, .val .null] [(.int (1 : Int32))])) _
      exact retN X981 hx (t := .boolean) Bd.returns (by simp) (hb hby at_341) hr
    · show Q_rm0_n Z  h0 n0 _ T981.heap _
      exact ⟨rfl, N981⟩
def Q_rm0_f (Z : State)  (h0 : Heap) (n0 : Nat) (v : Option Value) (h : Heap) (L : List Loc) : Prop := v = some (.int (1 : Int32)) ∧ Fr n0 L
set_option maxRecDepth 65536 in
set_option maxHeartbeats 40000000 in
theorem rm0_f (l : Launch) (Z : State) (a0 : Array Value) (hw : ∀ d ∈ tables_1, d.before a0 Z = true) (ws : List Jvm.Cond) (p1 : Int32) (p2 : Int32) (p3 : Int32) (wN : Addr) (wF : Addr) (cn : Int32) (wd : Int32) (h0 : Heap) (n0 : Nat) (O0 : Old Z n0 h0) (SN : Sta Z Z.heap "com/example/lumenplan/lumenplan/simulation/Conversion" "NONE" "Lcom/example/lumenplan/lumenplan/simulation/Conversion;" (.ref wN)) (SF : Sta Z Z.heap "com/example/lumenplan/lumenplan/simulation/Conversion" "FULL" "Lcom/example/lumenplan/lumenplan/simulation/Conversion;" (.ref wF)) (hne : wF ≠ wN) (hmx : (¬ (3 : Int32) < p1 ∧ cn = 3) ∨ ((3 : Int32) < p1 ∧ cn = p1)) (h3 : ¬ cn < 3) (hwd : (((((cn.toInt64) + (64 : Int64)) - (1 : Int64)) / (64 : Int64)).toInt32) = wd) (hw0 : (0 : Int32) < wd) (hf : ¬ p3 &&& 1 = 0) :
    MetFree l x (head1 (Jvm.Cond.code x code maxLocals ret :: ws) room_1) (fun a U => a = #[(.int p1), (.int p2), (.int p3)] ∧ Z.Warmed39 U.vm ∧ U.heap = h0) (fun _ _ _ _ _ => True) (fun _ U o U' => ∃ v L, o = .returned v ∧ Q_rm0_f Z  h0 n0 v U'.heap L ∧ FrameEnd U o U' L room_1.cells room_1.slots) := by
  refine MetFree.of_bodySF (plainFor_of_name pn_WavelengthsReleasePinLaw) hisR ?_
  intro p e s m args below meth c s₁ Bd hml0 hP hK
  obtain ⟨rfl, hZ, hh⟩ := hP
  have hx := Bd.exec
  have hby := Bd.bytes
  have hml : c.maxLocals = 22 := hml0
  have hown : s.vm.findClass "com/example/lumenplan/lumenplan/simulation/WavelengthsReleasePinLaw" = some m.cls := findClass_of_methodNamed Bd.named
  have hnm := (name_of_methodNamed Bd.named Bd.method).1
  have X0 : Stand p l e room_1 s m #[(.int p1), (.int p2), (.int p3)] below meth c s₁ [] 0 0 := Stand.of_body Bd
  have e0 : s₁.heap = h0 := by rw [← hh, Bd.state]; rfl
  have N0 := Fr.nil n0
  obtain ⟨S0, hS0⟩ : ∃ z, z = s₁.setTop (entryFrame m #[(.int p1), (.int p2), (.int p3)] maxLocals) := ⟨_, rfl⟩
  have k0 : Rch p e below S0 s₁ (mkF m 0 #[vI p1, vI p2, vI p3, vU, vU, vU, vU, vU, vU, vU, vU, vU, vU, vU, vU, vU, vU, vU, vU, vU, vU, vU] []) := fun t kq => hS0 ▸ castTop (ef_0 m p1 p2 p3) kq
  have k1017 : Rch p e below S0 s₁ (mkF m 2 #[vI p1, vI p2, vI p3, vU, vU, vU, vU, vU, vU, vU, vU, vU, vU, vU, vU, vU, vU, vU, vU, vU, vU, vU] [(.int p1), (.int (3 : Int32))]) := fun t h => k0 t (by
      show Steps p.tables e below (s₁.setTop (mkF m 0 #[vI p1, vI p2, vI p3, vU, vU, vU, vU, vU, vU, vU, vU, vU, vU, vU, vU, vU, vU, vU, vU, vU, vU, vU] [])) _
      refine XS.iconst X0.here hx rfl (hb hby at_0) ?_
      refine XS.iloadN X0.here hx rfl (hb hby at_1) rfl ?_
      exact h)
  obtain ⟨_, _, ⟨T1018, L1018, kk1018, n1018⟩, -, X1018, ⟨Lc1018, hQ1018, l1018, y1018, z1018⟩, st1018⟩ := Jvm.LawKit.callS X0 hx (y := (⟨"java/lang/Math", "max", "(II)I"⟩ : MethodName)) hown (mvT hZ (hw _ (gm 0 rfl))) (mvT hZ (hw _ (gm 1 rfl))) (mvT hZ (hw _ (gm 2 rfl))) (mvT hZ (hw _ (gm 3 rfl))) (by decide) (backOf (W := 0) (rmMX l Z a0 hw [] p1 cn h0 n0 O0 hmx) hZ (hw _ (gm 3 rfl)) (hw _ (gm 2 rfl)) (by decide) (by decide)) (g := (mkF m 2 #[vI p1, vI p2, vI p3, vU, vU, vU, vU, vU, vU, vU, vU, vU, vU, vU, vU, vU, vU, vU, vU, vU, vU, vU] [(.int p1), (.int (3 : Int32))])) rfl (by rw [hml]; rfl) (argsL := [(.int (3 : Int32)), (.int p1)]) (rest := []) (lenOf pd_0 rfl) rfl (by show 2 * 0 + _ ≤ _; exact Nat.le_of_eq rfl) (hb hby at_2) (fun _ _ => ⟨rfl, e0, (by decide : 0 + 0 ≤ _), (by decide : 0 + 0 ≤ _)⟩)
  dsimp only [Pt.U, Pt.locs, Pt.cells, Pt.slots] at X1018 l1018 y1018 z1018 st1018 hQ1018
  subst l1018 y1018 z1018
  obtain ⟨rfl, Nq1018, hh1018⟩ := hQ1018
  have N1018 := Fr.app N0 Nq1018
  have k1019 : Rch p e below S0 T1018 (mkF m 5 #[vI p1, vI p2, vI p3, vU, vU, vU, vU, vU, vU, vU, vU, vU, vU, vU, vU, vU, vU, vU, vU, vU, vU, vU] [(.int cn)]) := fun t h => k1017 t (st1018 t h)
  have k1021 : Rch p e below S0 T1018 (mkF m 20 #[vI p1, vI p2, vI p3, vI cn, vI 1, vU, vU, vU, vU, vU, vU, vU, vU, vU, vU, vU, vU, vU, vU, vU, vU, vU] [(.int (2 : Int32))]) := fun t h => k1019 t (by
      show Steps p.tables e below (T1018.setTop (mkF m 5 #[vI p1, vI p2, vI p3, vU, vU, vU, vU, vU, vU, vU, vU, vU, vU, vU, vU, vU, vU, vU, vU, vU, vU, vU] [(.int cn)])) _
      refine XS.istoreN X1018.here hx rfl (hb hby at_5) rfl (l' := #[vI p1, vI p2, vI p3, vI cn, vU, vU, vU, vU, vU, vU, vU, vU, vU, vU, vU, vU, vU, vU, vU, vU, vU, vU]) rfl ?_
      refine XS.iloadN X1018.here hx rfl (hb hby at_6) rfl ?_
      refine XS.iconst X1018.here hx rfl (hb hby at_7) ?_
      refine XS.iand X1018.here hx rfl (hb hby at_8) rfl ?_
      refine XS.ifNo X1018.here hx rfl (hb hby at_9) rfl ((if0 _ _).trans (feq (hf : ¬ ((p3 &&& (1 : Int32)) = (0 : Int32)))).1) ?_
      refine XS.iconst X1018.here hx rfl (hb hby at_12) ?_
      refine XS.goto X1018.here hx rfl (pc0 := 13) (pc' := 17) rfl (hb hby at_13) (by decide) (by decide) ?_
      refine XS.istore X1018.here hx rfl (hb hby at_17) rfl (l' := #[vI p1, vI p2, vI p3, vI cn, vI 1, vU, vU, vU, vU, vU, vU, vU, vU, vU, vU, vU, vU, vU, vU, vU, vU, vU]) rfl ?_
      refine XS.iconst X1018.here hx rfl (hb hby at_19) ?_
      exact h)
  obtain ⟨T1020, h1020, k1020, X1020, e1020, E1020, A1020, st1020⟩ := newP X1018 hx hZ (hw _ (gm 4 rfl)) hh1018 (g := (mkF m 20 #[vI p1, vI p2, vI p3, vI cn, vI 1, vU, vU, vU, vU, vU, vU, vU, vU, vU, vU, vU, vU, vU, vU, vU, vU, vU] [(.int (2 : Int32))])) rfl (hb hby at_20) rfl (by decide) (cap := 2) (by decide) (by decide) (by decide) (by decide)
  obtain ⟨b1020, g1020⟩ : ∃ z, z = h0.size := ⟨_, rfl⟩
  rw [← g1020] at A1020 st1020
  have k1022 : Rch p e below S0 T1020 (mkF m 22 #[vI p1, vI p2, vI p3, vI cn, vI 1, vU, vU, vU, vU, vU, vU, vU, vU, vU, vU, vU, vU, vU, vU, vU, vU, vU] [(.ref b1020)]) := fun t h => k1021 t (st1020 t h)
  have ge_b1020 : n0 ≤ b1020 := own_ge O0 (Nat.le_of_eq g1020.symm)
  have O1023 := O0.ext E1020
  have V_b1020 : Arv Z h1020 b1020 k1020 .int (2 : Int32) [(.int (0 : Int32)), (.int (0 : Int32))] (.int (0 : Int32)) := (Arv.new A1020 (by decide)).pad (pad_rep [] (.int (0 : Int32)) 2)
  have k1025 : Rch p e below S0 T1020 (mkF m 25 #[vI p1, vI p2, vI p3, vI cn, vI 1, vU, vU, vU, vU, vU, vU, vU, vU, vU, vU, vU, vU, vU, vU, vU, vU, vU] [(.int (0 : Int32)), (.int (0 : Int32)), (.ref b1020), (.ref b1020)]) := fun t h => k1022 t (by
      show Steps p.tables e below (T1020.setTop (mkF m 22 #[vI p1, vI p2, vI p3, vI cn, vI 1, vU, vU, vU, vU, vU, vU, vU, vU, vU, vU, vU, vU, vU, vU, vU, vU, vU] [(.ref b1020)])) _
      refine XS.dup X1020.here hx rfl (hb hby at_22) rfl rfl ?_
      refine XS.iconst X1020.here hx rfl (hb hby at_23) ?_
      refine XS.iconst X1020.here hx rfl (hb hby at_24) ?_
      exact h)
  obtain ⟨cl1024, Ar1024, q1024, Sz1024, Ng1024, Hs1024, G1024⟩ := id V_b1020
  have hin1024 : ¬ ((0 : Int32) < 0 ∨ cl1024.slots.size ≤ ((0 : Int32)).toNatClampNeg) := inb_of Sz1024 ⟨by decide, by decide⟩
  obtain ⟨T1024, h1024, X1024, e1024, W1024, st1024⟩ := stI X1020 hx hZ e1020 Ar1024 (j := (0 : Int32)) hin1024 (g := (mkF m 25 #[vI p1, vI p2, vI p3, vI cn, vI 1, vU, vU, vU, vU, vU, vU, vU, vU, vU, vU, vU, vU, vU, vU, vU, vU, vU] [(.int (0 : Int32)), (.int (0 : Int32)), (.ref b1020), (.ref b1020)])) rfl rfl (hb hby at_25)
  have k1026 : Rch p e below S0 T1024 (mkF m 26 #[vI p1, vI p2, vI p3, vI cn, vI 1, vU, vU, vU, vU, vU, vU, vU, vU, vU, vU, vU, vU, vU, vU, vU, vU, vU] [(.ref b1020)]) := fun t h => k1025 t (st1024 t h)
  have N1024 := Fr.snoc X1024 N1018 ge_b1020
  have V_b1020' := Arv.set Ar1024 q1024 Sz1024 Ng1024 Hs1024 G1024 rfl W1024 0 rfl (Nat.le_of_ble_eq_true rfl)
  replace V_b1020 : Arv Z h1024 b1020 k1020 .int (2 : Int32) [(.int (0 : Int32)), (.int (0 : Int32))] (.int (0 : Int32)) := V_b1020'
  have O1027 := O1023.wr W1024 ge_b1020
  have k1029 : Rch p e below S0 T1024 (mkF m 29 #[vI p1, vI p2, vI p3, vI cn, vI 1, vU, vU, vU, vU, vU, vU, vU, vU, vU, vU, vU, vU, vU, vU, vU, vU, vU] [(.int (1 : Int32)), (.int (1 : Int32)), (.ref b1020), (.ref b1020)]) := fun t h => k1026 t (by
      show Steps p.tables e below (T1024.setTop (mkF m 26 #[vI p1, vI p2, vI p3, vI cn, vI 1, vU, vU, vU, vU, vU, vU, vU, vU, vU, vU, vU, vU, vU, vU, vU, vU, vU] [(.ref b1020)])) _
      refine XS.dup X1024.here hx rfl (hb hby at_26) rfl rfl ?_
      refine XS.iconst X1024.here hx rfl (hb hby at_27) ?_
      refine XS.iconst X1024.here hx rfl (hb hby at_28) ?_
      exact h)
  obtain ⟨cl1028, Ar1028, q1028, Sz1028, Ng1028, Hs1028, G1028⟩ := id V_b1020
  have hin1028 : ¬ ((1 : Int32) < 0 ∨ cl1028.slots.size ≤ ((1 : Int32)).toNatClampNeg) := inb_of Sz1028 ⟨by decide, by decide⟩
  obtain ⟨T1028, h1028, X1028, e1028, W1028, st1028⟩ := stI X1024 hx hZ e1024 Ar1028 (j := (1 : Int32)) hin1028 (g := (mkF m 29 #[vI p1, vI p2, vI p3, vI cn, vI 1, vU, vU, vU, vU, vU, vU, vU, vU, vU, vU, vU, vU, vU, vU, vU, vU, vU] [(.int (1 : Int32)), (.int (1 : Int32)), (.ref b1020), (.ref b1020)])) rfl rfl (hb hby at_29)
  have k1030 : Rch p e below S0 T1028 (mkF m 30 #[vI p1, vI p2, vI p3, vI cn, vI 1, vU, vU, vU, vU, vU, vU, vU, vU, vU, vU, vU, vU, vU, vU, vU, vU, vU] [(.ref b1020)]) := fun t h => k1029 t (st1028 t h)
  have N1028 := Fr.snoc X1028 N1024 ge_b1020
  have V_b1020' := Arv.set Ar1028 q1028 Sz1028 Ng1028 Hs1028 G1028 rfl W1028 1 rfl (Nat.le_of_ble_eq_true rfl)
  replace V_b1020 : Arv Z h1028 b1020 k1020 .int (2 : Int32) [(.int (0 : Int32)), (.int (1 : Int32))] (.int (0 : Int32)) := V_b1020'
  have O1031 := O1027.wr W1028 ge_b1020
  have k1033 : Rch p e below S0 T1028 (mkF m 33 #[vI p1, vI p2, vI p3, vI cn, vI 1, vR b1020, vU, vU, vU, vU, vU, vU, vU, vU, vU, vU, vU, vU, vU, vU, vU, vU] [(.int (1 : Int32))]) := fun t h => k1030 t (by
      show Steps p.tables e below (T1028.setTop (mkF m 30 #[vI p1, vI p2, vI p3, vI cn, vI 1, vU, vU, vU, vU, vU, vU, vU, vU, vU, vU, vU, vU, vU, vU, vU, vU, vU] [(.ref b1020)])) _
      refine XS.astore X1028.here hx rfl (hb hby at_30) rfl rfl (l' := #[vI p1, vI p2, vI p3, vI cn, vI 1, vR b1020, vU, vU, vU, vU, vU, vU, vU, vU, vU, vU, vU, vU, vU, vU, vU, vU]) rfl ?_
      refine XS.iconst X1028.here hx rfl (hb hby at_32) ?_
      exact h)
  obtain ⟨T1032, h1032, k1032, X1032, e1032, E1032, A1032, st1032⟩ := newP X1028 hx hZ (hw _ (gm 4 rfl)) e1028 (g := (mkF m 33 #[vI p1, vI p2, vI p3, vI cn, vI 1, vR b1020, vU, vU, vU, vU, vU, vU, vU, vU, vU, vU, vU, vU, vU, vU, vU, vU] [(.int (1 : Int32))])) rfl (hb hby at_33) rfl (by decide) (cap := 1) (by decide) (by decide) (by decide) (by decide)
  obtain ⟨b1032, g1032⟩ : ∃ z, z = h1028.size := ⟨_, rfl⟩
  rw [← g1032] at A1032 st1032
  have k1034 : Rch p e below S0 T1032 (mkF m 35 #[vI p1, vI p2, vI p3, vI cn, vI 1, vR b1020, vU, vU, vU, vU, vU, vU, vU, vU, vU, vU, vU, vU, vU, vU, vU, vU] [(.ref b1032)]) := fun t h => k1033 t (st1032 t h)
  have ne_b1020_b1032 : b1020 ≠ b1032 := own_ne V_b1020.lt (Nat.le_of_eq g1032.symm)
  have ge_b1032 : n0 ≤ b1032 := own_ge O1031 (Nat.le_of_eq g1032.symm)
  have O1035 := O1031.ext E1032
  replace V_b1020 := V_b1020.ext E1032
  have V_b1032 : Arv Z h1032 b1032 k1032 .int (1 : Int32) [(.int (0 : Int32))] (.int (0 : Int32)) := (Arv.new A1032 (by decide)).pad (pad_rep [] (.int (0 : Int32)) 1)
  have k1037 : Rch p e below S0 T1032 (mkF m 38 #[vI p1, vI p2, vI p3, vI cn, vI 1, vR b1020, vU, vU, vU, vU, vU, vU, vU, vU, vU, vU, vU, vU, vU, vU, vU, vU] [(.int (0 : Int32)), (.int (0 : Int32)), (.ref b1032), (.ref b1032)]) := fun t h => k1034 t (by
      show Steps p.tables e below (T1032.setTop (mkF m 35 #[vI p1, vI p2, vI p3, vI cn, vI 1, vR b1020, vU, vU, vU, vU, vU, vU, vU, vU, vU, vU, vU, vU, vU, vU, vU, vU] [(.ref b1032)])) _
      refine XS.dup X1032.here hx rfl (hb hby at_35) rfl rfl ?_
      refine XS.iconst X1032.here hx rfl (hb hby at_36) ?_
      refine XS.iconst X1032.here hx rfl (hb hby at_37) ?_
      exact h)
  obtain ⟨cl1036, Ar1036, q1036, Sz1036, Ng1036, Hs1036, G1036⟩ := id V_b1032
  have hin1036 : ¬ ((0 : Int32) < 0 ∨ cl1036.slots.size ≤ ((0 : Int32)).toNatClampNeg) := inb_of Sz1036 ⟨by decide, by decide⟩
  obtain ⟨T1036, h1036, X1036, e1036, W1036, st1036⟩ := stI X1032 hx hZ e1032 Ar1036 (j := (0 : Int32)) hin1036 (g := (mkF m 38 #[vI p1, vI p2, vI p3, vI cn, vI 1, vR b1020, vU, vU, vU, vU, vU, vU, vU, vU, vU, vU, vU, vU, vU, vU, vU, vU] [(.int (0 : Int32)), (.int (0 : Int32)), (.ref b1032), (.ref b1032)])) rfl rfl (hb hby at_38)
  have k1038 : Rch p e below S0 T1036 (mkF m 39 #[vI p1, vI p2, vI p3, vI cn, vI 1, vR b1020, vU, vU, vU, vU, vU, vU, vU, vU, vU, vU, vU, vU, vU, vU, vU, vU] [(.ref b1032)]) := fun t h => k1037 t (st1036 t h)
  have N1036 := Fr.snoc X1036 N1028 ge_b1032
  have V_b1032' := Arv.set Ar1036 q1036 Sz1036 Ng1036 Hs1036 G1036 rfl W1036 0 rfl (Nat.le_of_ble_eq_true rfl)
  replace V_b1032 : Arv Z h1036 b1032 k1032 .int (1 : Int32) [(.int (0 : Int32))] (.int (0 : Int32)) := V_b1032'
  have O1039 := O1035.wr W1036 ge_b1032
  replace V_b1020 := V_b1020.other W1036 ne_b1020_b1032
  have k1041 : Rch p e below S0 T1036 (mkF m 42 #[vI p1, vI p2, vI p3, vI cn, vI 1, vR b1020, vR b1032, vU, vU, vU, vU, vU, vU, vU, vU, vU, vU, vU, vU, vU, vU, vU] [(.int (1 : Int32))]) := fun t h => k1038 t (by
      show Steps p.tables e below (T1036.setTop (mkF m 39 #[vI p1, vI p2, vI p3, vI cn, vI 1, vR b1020, vU, vU, vU, vU, vU, vU, vU, vU, vU, vU, vU, vU, vU, vU, vU, vU] [(.ref b1032)])) _
      refine XS.astore X1036.here hx rfl (hb hby at_39) rfl rfl (l' := #[vI p1, vI p2, vI p3, vI cn, vI 1, vR b1020, vR b1032, vU, vU, vU, vU, vU, vU, vU, vU, vU, vU, vU, vU, vU, vU, vU]) rfl ?_
      refine XS.iconst X1036.here hx rfl (hb hby at_41) ?_
      exact h)
  obtain ⟨T1040, h1040, k1040, X1040, e1040, E1040, A1040, st1040⟩ := newP X1036 hx hZ (hw _ (gm 4 rfl)) e1036 (g := (mkF m 42 #[vI p1, vI p2, vI p3, vI cn, vI 1, vR b1020, vR b1032, vU, vU, vU, vU, vU, vU, vU, vU, vU, vU, vU, vU, vU, vU, vU] [(.int (1 : Int32))])) rfl (hb hby at_42) rfl (by decide) (cap := 1) (by decide) (by decide) (by decide) (by decide)
  obtain ⟨b1040, g1040⟩ : ∃ z, z = h1036.size := ⟨_, rfl⟩
  rw [← g1040] at A1040 st1040
  have k1042 : Rch p e below S0 T1040 (mkF m 44 #[vI p1, vI p2, vI p3, vI cn, vI 1, vR b1020, vR b1032, vU, vU, vU, vU, vU, vU, vU, vU, vU, vU, vU, vU, vU, vU, vU] [(.ref b1040)]) := fun t h => k1041 t (st1040 t h)
  have ne_b1020_b1040 : b1020 ≠ b1040 := own_ne V_b1020.lt (Nat.le_of_eq g1040.symm)
  have ne_b1032_b1040 : b1032 ≠ b1040 := own_ne V_b1032.lt (Nat.le_of_eq g1040.symm)
  have ge_b1040 : n0 ≤ b1040 := own_ge O1039 (Nat.le_of_eq g1040.symm)
  have O1043 := O1039.ext E1040
  replace V_b1020 := V_b1020.ext E1040
  replace V_b1032 := V_b1032.ext E1040
  have V_b1040 : Arv Z h1040 b1040 k1040 .int (1 : Int32) [(.int (0 : Int32))] (.int (0 : Int32)) := (Arv.new A1040 (by decide)).pad (pad_rep [] (.int (0 : Int32)) 1)
  have k1045 : Rch p e below S0 T1040 (mkF m 47 #[vI p1, vI p2, vI p3, vI cn, vI 1, vR b1020, vR b1032, vU, vU, vU, vU, vU, vU, vU, vU, vU, vU, vU, vU, vU, vU, vU] [(.int (1 : Int32)), (.int (0 : Int32)), (.ref b1040), (.ref b1040)]) := fun t h => k1042 t (by
      show Steps p.tables e below (T1040.setTop (mkF m 44 #[vI p1, vI p2, vI p3, vI cn, vI 1, vR b1020, vR b1032, vU, vU, vU, vU, vU, vU, vU, vU, vU, vU, vU, vU, vU, vU, vU] [(.ref b1040)])) _
      refine XS.dup X1040.here hx rfl (hb hby at_44) rfl rfl ?_
      refine XS.iconst X1040.here hx rfl (hb hby at_45) ?_
      refine XS.iconst X1040.here hx rfl (hb hby at_46) ?_
      exact h)
  obtain ⟨cl1044, Ar1044, q1044, Sz1044, Ng1044, Hs1044, G1044⟩ := id V_b1040
  have hin1044 : ¬ ((0 : Int32) < 0 ∨ cl1044.slots.size ≤ ((0 : Int32)).toNatClampNeg) := inb_of Sz1044 ⟨by decide, by decide⟩
  obtain ⟨T1044, h1044, X1044, e1044, W1044, st1044⟩ := stI X1040 hx hZ e1040 Ar1044 (j := (0 : Int32)) hin1044 (g := (mkF m 47 #[vI p1, vI p2, vI p3, vI cn, vI 1, vR b1020, vR b1032, vU, vU, vU, vU, vU, vU, vU, vU, vU, vU, vU, vU, vU, vU, vU] [(.int (1 : Int32)), (.int (0 : Int32)), (.ref b1040), (.ref b1040)])) rfl rfl (hb hby at_47)
  have k1046 : Rch p e below S0 T1044 (mkF m 48 #[vI p1, vI p2, vI p3, vI cn, vI 1, vR b1020, vR b1032, vU, vU, vU, vU, vU, vU, vU, vU, vU, vU, vU, vU, vU, vU, vU] [(.ref b1040)]) := fun t h => k1045 t (st1044 t h)
  have N1044 := Fr.snoc X1044 N1036 ge_b1040
  have V_b1040' := Arv.set Ar1044 q1044 Sz1044 Ng1044 Hs1044 G1044 rfl W1044 0 rfl (Nat.le_of_ble_eq_true rfl)
  replace V_b1040 : Arv Z h1044 b1040 k1040 .int (1 : Int32) [(.int (1 : Int32))] (.int (0 : Int32)) := V_b1040'
  have O1047 := O1043.wr W1044 ge_b1040
  replace V_b1020 := V_b1020.other W1044 ne_b1020_b1040
  replace V_b1032 := V_b1032.other W1044 ne_b1032_b1040
  have k1049 : Rch p e below S0 T1044 (mkF m 56 #[vI p1, vI p2, vI p3, vI cn, vI 1, vR b1020, vR b1032, vR b1040, vU, vU, vU, vU, vU, vU, vU, vU, vU, vU, vU, vU, vU, vU] [(.int (2 : Int32))]) := fun t h => k1046 t (by
      show Steps p.tables e below (T1044.setTop (mkF m 48 #[vI p1, vI p2, vI p3, vI cn, vI 1, vR b1020, vR b1032, vU, vU, vU, vU, vU, vU, vU, vU, vU, vU, vU, vU, vU, vU, vU] [(.ref b1040)])) _
      refine XS.astore X1044.here hx rfl (hb hby at_48) rfl rfl (l' := #[vI p1, vI p2, vI p3, vI cn, vI 1, vR b1020, vR b1032, vR b1040, vU, vU, vU, vU, vU, vU, vU, vU, vU, vU, vU, vU, vU, vU]) rfl ?_
      refine XS.iload X1044.here hx rfl (hb hby at_50) rfl ?_
      refine XS.ifNo X1044.here hx rfl (hb hby at_52) rfl ((if0 _ _).trans (feq (by decide : ¬ ((1 : Int32) = (0 : Int32)))).1) ?_
      refine XS.iconst X1044.here hx rfl (hb hby at_55) ?_
      exact h)
  obtain ⟨T1048, h1048, k1048, X1048, e1048, E1048, A1048, st1048⟩ := newP X1044 hx hZ (hw _ (gm 4 rfl)) e1044 (g := (mkF m 56 #[vI p1, vI p2, vI p3, vI cn, vI 1, vR b1020, vR b1032, vR b1040, vU, vU, vU, vU, vU, vU, vU, vU, vU, vU, vU, vU, vU, vU] [(.int (2 : Int32))])) rfl (hb hby at_56) rfl (by decide) (cap := 2) (by decide) (by decide) (by decide) (by decide)
  obtain ⟨b1048, g1048⟩ : ∃ z, z = h1044.size := ⟨_, rfl⟩
  rw [← g1048] at A1048 st1048
  have k1050 : Rch p e below S0 T1048 (mkF m 58 #[vI p1, vI p2, vI p3, vI cn, vI 1, vR b1020, vR b1032, vR b1040, vU, vU, vU, vU, vU, vU, vU, vU, vU, vU, vU, vU, vU, vU] [(.ref b1048)]) := fun t h => k1049 t (st1048 t h)
  have ne_b1020_b1048 : b1020 ≠ b1048 := own_ne V_b1020.lt (Nat.le_of_eq g1048.symm)
  have ne_b1032_b1048 : b1032 ≠ b1048 := own_ne V_b1032.lt (Nat.le_of_eq g1048.symm)
  have ne_b1040_b1048 : b1040 ≠ b1048 := own_ne V_b1040.lt (Nat.le_of_eq g1048.symm)
  have ge_b1048 : n0 ≤ b1048 := own_ge O1047 (Nat.le_of_eq g1048.symm)
  have O1051 := O1047.ext E1048
  replace V_b1020 := V_b1020.ext E1048
  replace V_b1032 := V_b1032.ext E1048
  replace V_b1040 := V_b1040.ext E1048
  have V_b1048 : Arv Z h1048 b1048 k1048 .int (2 : Int32) [(.int (0 : Int32)), (.int (0 : Int32))] (.int (0 : Int32)) := (Arv.new A1048 (by decide)).pad (pad_rep [] (.int (0 : Int32)) 2)
  have k1053 : Rch p e below S0 T1048 (mkF m 61 #[vI p1, vI p2, vI p3, vI cn, vI 1, vR b1020, vR b1032, vR b1040, vU, vU, vU, vU, vU, vU, vU, vU, vU, vU, vU, vU, vU, vU] [(.int (1 : Int32)), (.int (0 : Int32)), (.ref b1048), (.ref b1048)]) := fun t h => k1050 t (by
      show Steps p.tables e below (T1048.setTop (mkF m 58 #[vI p1, vI p2, vI p3, vI cn, vI 1, vR b1020, vR b1032, vR b1040, vU, vU, vU, vU, vU, vU, vU, vU, vU, vU, vU, vU, vU, vU] [(.ref b1048)])) _
      refine XS.dup X1048.here hx rfl (hb hby at_58) rfl rfl ?_
      refine XS.iconst X1048.here hx rfl (hb hby at_59) ?_
      refine XS.iconst X1048.here hx rfl (hb hby at_60) ?_
      exact h)
  obtain ⟨cl1052, Ar1052, q1052, Sz1052, Ng1052, Hs1052, G1052⟩ := id V_b1048
  have hin1052 : ¬ ((0 : Int32) < 0 ∨ cl1052.slots.size ≤ ((0 : Int32)).toNatClampNeg) := inb_of Sz1052 ⟨by decide, by decide⟩
  obtain ⟨T1052, h1052, X1052, e1052, W1052, st1052⟩ := stI X1048 hx hZ e1048 Ar1052 (j := (0 : Int32)) hin1052 (g := (mkF m 61 #[vI p1, vI p2, vI p3, vI cn, vI 1, vR b1020, vR b1032, vR b1040, vU, vU, vU, vU, vU, vU, vU, vU, vU, vU, vU, vU, vU, vU] [(.int (1 : Int32)), (.int (0 : Int32)), (.ref b1048), (.ref b1048)])) rfl rfl (hb hby at_61)
  have k1054 : Rch p e below S0 T1052 (mkF m 62 #[vI p1, vI p2, vI p3, vI cn, vI 1, vR b1020, vR b1032, vR b1040, vU, vU, vU, vU, vU, vU, vU, vU, vU, vU, vU, vU, vU, vU] [(.ref b1048)]) := fun t h => k1053 t (st1052 t h)
  have N1052 := Fr.snoc X1052 N1044 ge_b1048
  have V_b1048' := Arv.set Ar1052 q1052 Sz1052 Ng1052 Hs1052 G1052 rfl W1052 0 rfl (Nat.le_of_ble_eq_true rfl)
  replace V_b1048 : Arv Z h1052 b1048 k1048 .int (2 : Int32) [(.int (1 : Int32)), (.int (0 : Int32))] (.int (0 : Int32)) := V_b1048'
  have O1055 := O1051.wr W1052 ge_b1048
  replace V_b1020 := V_b1020.other W1052 ne_b1020_b1048
  replace V_b1032 := V_b1032.other W1052 ne_b1032_b1048
  replace V_b1040 := V_b1040.other W1052 ne_b1040_b1048
  have k1057 : Rch p e below S0 T1052 (mkF m 65 #[vI p1, vI p2, vI p3, vI cn, vI 1, vR b1020, vR b1032, vR b1040, vU, vU, vU, vU, vU, vU, vU, vU, vU, vU, vU, vU, vU, vU] [(.int (0 : Int32)), (.int (1 : Int32)), (.ref b1048), (.ref b1048)]) := fun t h => k1054 t (by
      show Steps p.tables e below (T1052.setTop (mkF m 62 #[vI p1, vI p2, vI p3, vI cn, vI 1, vR b1020, vR b1032, vR b1040, vU, vU, vU, vU, vU, vU, vU, vU, vU, vU, vU, vU, vU, vU] [(.ref b1048)])) _
      refine XS.dup X1052.here hx rfl (hb hby at_62) rfl rfl ?_
      refine XS.iconst X1052.here hx rfl (hb hby at_63) ?_
      refine XS.iconst X1052.here hx rfl (hb hby at_64) ?_
      exact h)
  obtain ⟨cl1056, Ar1056, q1056, Sz1056, Ng1056, Hs1056, G1056⟩ := id V_b1048
  have hin1056 : ¬ ((1 : Int32) < 0 ∨ cl1056.slots.size ≤ ((1 : Int32)).toNatClampNeg) := inb_of Sz1056 ⟨by decide, by decide⟩
  obtain ⟨T1056, h1056, X1056, e1056, W1056, st1056⟩ := stI X1052 hx hZ e1052 Ar1056 (j := (1 : Int32)) hin1056 (g := (mkF m 65 #[vI p1, vI p2, vI p3, vI cn, vI 1, vR b1020, vR b1032, vR b1040, vU, vU, vU, vU, vU, vU, vU, vU, vU, vU, vU, vU, vU, vU] [(.int (0 : Int32)), (.int (1 : Int32)), (.ref b1048), (.ref b1048)])) rfl rfl (hb hby at_65)
  have k1058 : Rch p e below S0 T1056 (mkF m 66 #[vI p1, vI p2, vI p3, vI cn, vI 1, vR b1020, vR b1032, vR b1040, vU, vU, vU, vU, vU, vU, vU, vU, vU, vU, vU, vU, vU, vU] [(.ref b1048)]) := fun t h => k1057 t (st1056 t h)
  have N1056 := Fr.snoc X1056 N1052 ge_b1048
  have V_b1048' := Arv.set Ar1056 q1056 Sz1056 Ng1056 Hs1056 G1056 rfl W1056 1 rfl (Nat.le_of_ble_eq_true rfl)
  replace V_b1048 : Arv Z h1056 b1048 k1048 .int (2 : Int32) [(.int (1 : Int32)), (.int (0 : Int32))] (.int (0 : Int32)) := V_b1048'
  have O1059 := O1055.wr W1056 ge_b1048
  replace V_b1020 := V_b1020.other W1056 ne_b1020_b1048
  replace V_b1032 := V_b1032.other W1056 ne_b1032_b1048
  replace V_b1040 := V_b1040.other W1056 ne_b1040_b1048
  have k1061 : Rch p e below S0 T1056 (mkF m 83 #[vI p1, vI p2, vI p3, vI cn, vI 1, vR b1020, vR b1032, vR b1040, vR b1048, vU, vU, vU, vU, vU, vU, vU, vU, vU, vU, vU, vU, vU] [(.int (2 : Int32))]) := fun t h => k1058 t (by
      show Steps p.tables e below (T1056.setTop (mkF m 66 #[vI p1, vI p2, vI p3, vI cn, vI 1, vR b1020, vR b1032, vR b1040, vU, vU, vU, vU, vU, vU, vU, vU, vU, vU, vU, vU, vU, vU] [(.ref b1048)])) _
      refine XS.goto X1056.here hx rfl (pc0 := 66) (pc' := 80) rfl (hb hby at_66) (by decide) (by decide) ?_
      refine XS.astore X1056.here hx rfl (hb hby at_80) rfl rfl (l' := #[vI p1, vI p2, vI p3, vI cn, vI 1, vR b1020, vR b1032, vR b1040, vR b1048, vU, vU, vU, vU, vU, vU, vU, vU, vU, vU, vU, vU, vU]) rfl ?_
      refine XS.iconst X1056.here hx rfl (hb hby at_82) ?_
      exact h)
  obtain ⟨T1060, h1060, k1060, X1060, e1060, E1060, A1060, st1060⟩ := newP X1056 hx hZ (hw _ (gm 4 rfl)) e1056 (g := (mkF m 83 #[vI p1, vI p2, vI p3, vI cn, vI 1, vR b1020, vR b1032, vR b1040, vR b1048, vU, vU, vU, vU, vU, vU, vU, vU, vU, vU, vU, vU, vU] [(.int (2 : Int32))])) rfl (hb hby at_83) rfl (by decide) (cap := 2) (by decide) (by decide) (by decide) (by decide)
  obtain ⟨b1060, g1060⟩ : ∃ z, z = h1056.size := ⟨_, rfl⟩
  rw [← g1060] at A1060 st1060
  have k1062 : Rch p e below S0 T1060 (mkF m 85 #[vI p1, vI p2, vI p3, vI cn, vI 1, vR b1020, vR b1032, vR b1040, vR b1048, vU, vU, vU, vU, vU, vU, vU, vU, vU, vU, vU, vU, vU] [(.ref b1060)]) := fun t h => k1061 t (st1060 t h)
  have ne_b1020_b1060 : b1020 ≠ b1060 := own_ne V_b1020.lt (Nat.le_of_eq g1060.symm)
  have ne_b1032_b1060 : b1032 ≠ b1060 := own_ne V_b1032.lt (Nat.le_of_eq g1060.symm)
  have ne_b1040_b1060 : b1040 ≠ b1060 := own_ne V_b1040.lt (Nat.le_of_eq g1060.symm)
  have ne_b1048_b1060 : b1048 ≠ b1060 := own_ne V_b1048.lt (Nat.le_of_eq g1060.symm)
  have ge_b1060 : n0 ≤ b1060 := own_ge O1059 (Nat.le_of_eq g1060.symm)
  have O1063 := O1059.ext E1060
  replace V_b1020 := V_b1020.ext E1060
  replace V_b1032 := V_b1032.ext E1060
  replace V_b1040 := V_b1040.ext E1060
  replace V_b1048 := V_b1048.ext E1060
  have V_b1060 : Arv Z h1060 b1060 k1060 .int (2 : Int32) [(.int (0 : Int32)), (.int (0 : Int32))] (.int (0 : Int32)) := (Arv.new A1060 (by decide)).pad (pad_rep [] (.int (0 : Int32)) 2)
  have k1065 : Rch p e below S0 T1060 (mkF m 88 #[vI p1, vI p2, vI p3, vI cn, vI 1, vR b1020, vR b1032, vR b1040, vR b1048, vU, vU, vU, vU, vU, vU, vU, vU, vU, vU, vU, vU, vU] [(.int (0 : Int32)), (.int (0 : Int32)), (.ref b1060), (.ref b1060)]) := fun t h => k1062 t (by
      show Steps p.tables e below (T1060.setTop (mkF m 85 #[vI p1, vI p2, vI p3, vI cn, vI 1, vR b1020, vR b1032, vR b1040, vR b1048, vU, vU, vU, vU, vU, vU, vU, vU, vU, vU, vU, vU, vU] [(.ref b1060)])) _
      refine XS.dup X1060.here hx rfl (hb hby at_85) rfl rfl ?_
      refine XS.iconst X1060.here hx rfl (hb hby at_86) ?_
      refine XS.iconst X1060.here hx rfl (hb hby at_87) ?_
      exact h)
  obtain ⟨cl1064, Ar1064, q1064, Sz1064, Ng1064, Hs1064, G1064⟩ := id V_b1060
  have hin1064 : ¬ ((0 : Int32) < 0 ∨ cl1064.slots.size ≤ ((0 : Int32)).toNatClampNeg) := inb_of Sz1064 ⟨by decide, by decide⟩
  obtain ⟨T1064, h1064, X1064, e1064, W1064, st1064⟩ := stI X1060 hx hZ e1060 Ar1064 (j := (0 : Int32)) hin1064 (g := (mkF m 88 #[vI p1, vI p2, vI p3, vI cn, vI 1, vR b1020, vR b1032, vR b1040, vR b1048, vU, vU, vU, vU, vU, vU, vU, vU, vU, vU, vU, vU, vU] [(.int (0 : Int32)), (.int (0 : Int32)), (.ref b1060), (.ref b1060)])) rfl rfl (hb hby at_88)
  have k1066 : Rch p e below S0 T1064 (mkF m 89 #[vI p1, vI p2, vI p3, vI cn, vI 1, vR b1020, vR b1032, vR b1040, vR b1048, vU, vU, vU, vU, vU, vU, vU, vU, vU, vU, vU, vU, vU] [(.ref b1060)]) := fun t h => k1065 t (st1064 t h)
  have N1064 := Fr.snoc X1064 N1056 ge_b1060
  have V_b1060' := Arv.set Ar1064 q1064 Sz1064 Ng1064 Hs1064 G1064 rfl W1064 0 rfl (Nat.le_of_ble_eq_true rfl)
  replace V_b1060 : Arv Z h1064 b1060 k1060 .int (2 : Int32) [(.int (0 : Int32)), (.int (0 : Int32))] (.int (0 : Int32)) := V_b1060'
  have O1067 := O1063.wr W1064 ge_b1060
  replace V_b1020 := V_b1020.other W1064 ne_b1020_b1060
  replace V_b1032 := V_b1032.other W1064 ne_b1032_b1060
  replace V_b1040 := V_b1040.other W1064 ne_b1040_b1060
  replace V_b1048 := V_b1048.other W1064 ne_b1048_b1060
  have k1069 : Rch p e below S0 T1064 (mkF m 92 #[vI p1, vI p2, vI p3, vI cn, vI 1, vR b1020, vR b1032, vR b1040, vR b1048, vU, vU, vU, vU, vU, vU, vU, vU, vU, vU, vU, vU, vU] [(.int (1 : Int32)), (.int (1 : Int32)), (.ref b1060), (.ref b1060)]) := fun t h => k1066 t (by
      show Steps p.tables e below (T1064.setTop (mkF m 89 #[vI p1, vI p2, vI p3, vI cn, vI 1, vR b1020, vR b1032, vR b1040, vR b1048, vU, vU, vU, vU, vU, vU, vU, vU, vU, vU, vU, vU, vU] [(.ref b1060)])) _
      refine XS.dup X1064.here hx rfl (hb hby at_89) rfl rfl ?_
      refine XS.iconst X1064.here hx rfl (hb hby at_90) ?_
      refine XS.iconst X1064.here hx rfl (hb hby at_91) ?_
      exact h)
  obtain ⟨cl1068, Ar1068, q1068, Sz1068, Ng1068, Hs1068, G1068⟩ := id V_b1060
  have hin1068 : ¬ ((1 : Int32) < 0 ∨ cl1068.slots.size ≤ ((1 : Int32)).toNatClampNeg) := inb_of Sz1068 ⟨by decide, by decide⟩
  obtain ⟨T1068, h1068, X1068, e1068, W1068, st1068⟩ := stI X1064 hx hZ e1064 Ar1068 (j := (1 : Int32)) hin1068 (g := (mkF m 92 #[vI p1, vI p2, vI p3, vI cn, vI 1, vR b1020, vR b1032, vR b1040, vR b1048, vU, vU, vU, vU, vU, vU, vU, vU, vU, vU, vU, vU, vU] [(.int (1 : Int32)), (.int (1 : Int32)), (.ref b1060), (.ref b1060)])) rfl rfl (hb hby at_92)
  have k1070 : Rch p e below S0 T1068 (mkF m 93 #[vI p1, vI p2, vI p3, vI cn, vI 1, vR b1020, vR b1032, vR b1040, vR b1048, vU, vU, vU, vU, vU, vU, vU, vU, vU, vU, vU, vU, vU] [(.ref b1060)]) := fun t h => k1069 t (st1068 t h)
  have N1068 := Fr.snoc X1068 N1064 ge_b1060
  have V_b1060' := Arv.set Ar1068 q1068 Sz1068 Ng1068 Hs1068 G1068 rfl W1068 1 rfl (Nat.le_of_ble_eq_true rfl)
  replace V_b1060 : Arv Z h1068 b1060 k1060 .int (2 : Int32) [(.int (0 : Int32)), (.int (1 : Int32))] (.int (0 : Int32)) := V_b1060'
  have O1071 := O1067.wr W1068 ge_b1060
  replace V_b1020 := V_b1020.other W1068 ne_b1020_b1060
  replace V_b1032 := V_b1032.other W1068 ne_b1032_b1060
  replace V_b1040 := V_b1040.other W1068 ne_b1040_b1060
  replace V_b1048 := V_b1048.other W1068 ne_b1048_b1060
  have k1073 : Rch p e below S0 T1068 (mkF m 95 #[vI p1, vI p2, vI p3, vI cn, vI 1, vR b1020, vR b1032, vR b1040, vR b1048, vR b1060, vU, vU, vU, vU, vU, vU, vU, vU, vU, vU, vU, vU] []) := fun t h => k1070 t (by
      show Steps p.tables e below (T1068.setTop (mkF m 93 #[vI p1, vI p2, vI p3, vI cn, vI 1, vR b1020, vR b1032, vR b1040, vR b1048, vU, vU, vU, vU, vU, vU, vU, vU, vU, vU, vU, vU, vU] [(.ref b1060)])) _
      refine XS.astore X1068.here hx rfl (hb hby at_93) rfl rfl (l' := #[vI p1, vI p2, vI p3, vI cn, vI 1, vR b1020, vR b1032, vR b1040, vR b1048, vR b1060, vU, vU, vU, vU, vU, vU, vU, vU, vU, vU, vU, vU]) rfl ?_
      exact h)
  obtain ⟨T1072, h1072, X1072, e1072, E1072, A1072, D1072, -, st1072⟩ := newO X1068 hx hZ hown (hw _ (gm 5 rfl)) (hw _ (gm 6 rfl)) (hw _ (gm 7 rfl)) e1068 (g := (mkF m 95 #[vI p1, vI p2, vI p3, vI cn, vI 1, vR b1020, vR b1032, vR b1040, vR b1048, vR b1060, vU, vU, vU, vU, vU, vU, vU, vU, vU, vU, vU, vU] [])) rfl (hb hby at_95) (by decide) (by decide)
  obtain ⟨b1072, g1072⟩ : ∃ z, z = h1068.size := ⟨_, rfl⟩
  rw [← g1072] at A1072 D1072 st1072
  have k1074 : Rch p e below S0 T1072 (mkF m 98 #[vI p1, vI p2, vI p3, vI cn, vI 1, vR b1020, vR b1032, vR b1040, vR b1048, vR b1060, vU, vU, vU, vU, vU, vU, vU, vU, vU, vU, vU, vU] [(.ref b1072)]) := fun t h => k1073 t (st1072 t h)
  have ne_b1020_b1072 : b1020 ≠ b1072 := own_ne V_b1020.lt (Nat.le_of_eq g1072.symm)
  have ne_b1032_b1072 : b1032 ≠ b1072 := own_ne V_b1032.lt (Nat.le_of_eq g1072.symm)
  have ne_b1040_b1072 : b1040 ≠ b1072 := own_ne V_b1040.lt (Nat.le_of_eq g1072.symm)
  have ne_b1048_b1072 : b1048 ≠ b1072 := own_ne V_b1048.lt (Nat.le_of_eq g1072.symm)
  have ne_b1060_b1072 : b1060 ≠ b1072 := own_ne V_b1060.lt (Nat.le_of_eq g1072.symm)
  have ge_b1072 : n0 ≤ b1072 := own_ge O1071 (Nat.le_of_eq g1072.symm)
  have O1075 := O1071.ext E1072
  replace V_b1020 := V_b1020.ext E1072
  replace V_b1032 := V_b1032.ext E1072
  replace V_b1040 := V_b1040.ext E1072
  replace V_b1048 := V_b1048.ext E1072
  replace V_b1060 := V_b1060.ext E1072
  have E_b1072 := A1072
  have F_b1072_count : Fld Z h1072 b1072 "com/example/lumenplan/lumenplan/simulation/Wavelengths" "count" "I" (.int (0 : Int32)) := D1072 (Or.inr (hw _ (gm 15 rfl))) (ty := .int) (by decide)
  have F_b1072_words : Fld Z h1072 b1072 "com/example/lumenplan/lumenplan/simulation/Wavelengths" "words" "I" (.int (0 : Int32)) := D1072 (Or.inr (hw _ (gm 18 rfl))) (ty := .int) (by decide)
  have F_b1072_held : Fld Z h1072 b1072 "com/example/lumenplan/lumenplan/simulation/Wavelengths" "held" "[[J" .null := D1072 (Or.inr (hw _ (gm 23 rfl))) (ty := (.array (.array .long))) (by decide)
  have k1076 : Rch p e below S0 T1072 (mkF m 101 #[vI p1, vI p2, vI p3, vI cn, vI 1, vR b1020, vR b1032, vR b1040, vR b1048, vR b1060, vU, vU, vU, vU, vU, vU, vU, vU, vU, vU, vU, vU] [(.int cn), (.int (2 : Int32)), (.ref b1072), (.ref b1072)]) := fun t h => k1074 t (by
      show Steps p.tables e below (T1072.setTop (mkF m 98 #[vI p1, vI p2, vI p3, vI cn, vI 1, vR b1020, vR b1032, vR b1040, vR b1048, vR b1060, vU, vU, vU, vU, vU, vU, vU, vU, vU, vU, vU, vU] [(.ref b1072)])) _
      refine XS.dup X1072.here hx rfl (hb hby at_98) rfl rfl ?_
      refine XS.iconst X1072.here hx rfl (hb hby at_99) ?_
      refine XS.iloadN X1072.here hx rfl (hb hby at_100) rfl ?_
      exact h)
  obtain ⟨_, _, ⟨T1077, L1077, kk1077, n1077⟩, -, X1077, ⟨Lc1077, hQ1077, l1077, y1077, z1077⟩, st1077⟩ := X1072.specialBack hx (y := (⟨"com/example/lumenplan/lumenplan/simulation/Wavelengths", "<init>", "(II)V"⟩ : MethodName)) rfl hown (mvT hZ (hw _ (gm 8 rfl))) (mvT hZ (hw _ (gm 9 rfl))) (mvT hZ (hw _ (gm 10 rfl))) (by decide) (backOf (W := 1) (rmN l Z a0 hw []  b1072 cn wd h1072 n0 O1075 ge_b1072 E_b1072 F_b1072_count F_b1072_words F_b1072_held hwd) hZ (hw _ (gm 10 rfl)) (hw _ (gm 7 rfl)) (by decide) (by decide)) (g := (mkF m 101 #[vI p1, vI p2, vI p3, vI cn, vI 1, vR b1020, vR b1032, vR b1040, vR b1048, vR b1060, vU, vU, vU, vU, vU, vU, vU, vU, vU, vU, vU, vU] [(.int cn), (.int (2 : Int32)), (.ref b1072), (.ref b1072)])) rfl (by rw [hml]; rfl) (Steps.refl _) (a := b1072) (argsL := [(.int (2 : Int32)), (.int cn)]) (rest := [(.ref b1072)]) (lenOf pd_1 rfl) rfl (by show 2 * 0 + _ ≤ _; exact Nat.le_of_eq rfl) (hb hby at_101) (fun _ _ => ⟨rfl, e1072, (by decide : 6 + 3 ≤ _), (by decide : 11 + 4 ≤ _)⟩)
  dsimp only [Pt.U, Pt.locs, Pt.cells, Pt.slots] at X1077 l1077 y1077 z1077 st1077 hQ1077
  subst l1077 y1077 z1077
  obtain ⟨aH, rA, rB, kH, kL, rfl, Nq1077, K1077, zH1077, zA1077, zB1077, ne_aH_rA, ne_aH_rB, ne_rA_rB, Fc1077, Fw1077, Fh1077, VH, VA, VB⟩ := hQ1077
  have N1077 := Fr.app N1068 Nq1077
  have k1078 : Rch p e below S0 T1077 (mkF m 104 #[vI p1, vI p2, vI p3, vI cn, vI 1, vR b1020, vR b1032, vR b1040, vR b1048, vR b1060, vU, vU, vU, vU, vU, vU, vU, vU, vU, vU, vU, vU] [(.ref b1072)]) := fun t h => k1076 t (st1077.trans h)
  have ne_b1020_aH : b1020 ≠ aH := own_ne V_b1020.lt zH1077
  have ne_b1032_aH : b1032 ≠ aH := own_ne V_b1032.lt zH1077
  have ne_b1040_aH : b1040 ≠ aH := own_ne V_b1040.lt zH1077
  have ne_b1048_aH : b1048 ≠ aH := own_ne V_b1048.lt zH1077
  have ne_b1060_aH : b1060 ≠ aH := own_ne V_b1060.lt zH1077
  have ne_b1072_aH : b1072 ≠ aH := own_ne E_b1072.lt zH1077
  have ge_aH : n0 ≤ aH := own_ge O1075 zH1077
  have ne_b1020_rA : b1020 ≠ rA := own_ne V_b1020.lt zA1077
  have ne_b1032_rA : b1032 ≠ rA := own_ne V_b1032.lt zA1077
  have ne_b1040_rA : b1040 ≠ rA := own_ne V_b1040.lt zA1077
  have ne_b1048_rA : b1048 ≠ rA := own_ne V_b1048.lt zA1077
  have ne_b1060_rA : b1060 ≠ rA := own_ne V_b1060.lt zA1077
  have ne_b1072_rA : b1072 ≠ rA := own_ne E_b1072.lt zA1077
  have ge_rA : n0 ≤ rA := own_ge O1075 zA1077
  have ne_b1020_rB : b1020 ≠ rB := own_ne V_b1020.lt zB1077
  have ne_b1032_rB : b1032 ≠ rB := own_ne V_b1032.lt zB1077
  have ne_b1040_rB : b1040 ≠ rB := own_ne V_b1040.lt zB1077
  have ne_b1048_rB : b1048 ≠ rB := own_ne V_b1048.lt zB1077
  have ne_b1060_rB : b1060 ≠ rB := own_ne V_b1060.lt zB1077
  have ne_b1072_rB : b1072 ≠ rB := own_ne E_b1072.lt zB1077
  have ge_rB : n0 ≤ rB := own_ge O1075 zB1077
  have O1079 := O1075.keep K1077 (allS ge_b1072 all0)
  replace V_b1020 := V_b1020.keep K1077 (ninS ne_b1020_b1072 nin0)
  replace V_b1032 := V_b1032.keep K1077 (ninS ne_b1032_b1072 nin0)
  replace V_b1040 := V_b1040.keep K1077 (ninS ne_b1040_b1072 nin0)
  replace V_b1048 := V_b1048.keep K1077 (ninS ne_b1048_b1072 nin0)
  replace V_b1060 := V_b1060.keep K1077 (ninS ne_b1060_b1072 nin0)
  replace E_b1072 := E_b1072.keep K1077
  have k1081 : Rch p e below S0 T1077 (mkF m 110 #[vI p1, vI p2, vI p3, vI cn, vI 1, vR b1020, vR b1032, vR b1040, vR b1048, vR b1060, vR b1072, vU, vU, vU, vU, vU, vU, vU, vU, vU, vU, vU] [(.ref b1020), (.ref b1072)]) := fun t h => k1078 t (by
      show Steps p.tables e below (T1077.setTop (mkF m 104 #[vI p1, vI p2, vI p3, vI cn, vI 1, vR b1020, vR b1032, vR b1040, vR b1048, vR b1060, vU, vU, vU, vU, vU, vU, vU, vU, vU, vU, vU, vU] [(.ref b1072)])) _
      refine XS.astore X1077.here hx rfl (hb hby at_104) rfl rfl (l' := #[vI p1, vI p2, vI p3, vI cn, vI 1, vR b1020, vR b1032, vR b1040, vR b1048, vR b1060, vR b1072, vU, vU, vU, vU, vU, vU, vU, vU, vU, vU, vU]) rfl ?_
      refine XS.aload X1077.here hx rfl (hb hby at_106) rfl rfl ?_
      refine XS.aload X1077.here hx rfl (hb hby at_108) rfl rfl ?_
      exact h)
  obtain ⟨T1080, X1080, e1080, st1080⟩ := getS2 X1077 hx hZ hown (host := "") (Or.inl (hw _ (gm 24 rfl))) Via.refl rfl (SN.ext O1079.2) (g := (mkF m 110 #[vI p1, vI p2, vI p3, vI cn, vI 1, vR b1020, vR b1032, vR b1040, vR b1048, vR b1060, vR b1072, vU, vU, vU, vU, vU, vU, vU, vU, vU, vU, vU] [(.ref b1020), (.ref b1072)])) rfl (hb hby at_110)
  have k1082 : Rch p e below S0 T1080 (mkF m 113 #[vI p1, vI p2, vI p3, vI cn, vI 1, vR b1020, vR b1032, vR b1040, vR b1048, vR b1060, vR b1072, vU, vU, vU, vU, vU, vU, vU, vU, vU, vU, vU] [(.ref wN), (.ref b1020), (.ref b1072)]) := fun t h => k1081 t (st1080 t h)
  obtain ⟨cq1083, kq1083, q1083a, q1083b, q1083c⟩ := isOf hZ e1080 E_b1072
  obtain ⟨_, _, ⟨T1083, L1083, kk1083, n1083⟩, -, X1083, ⟨Lc1083, hQ1083, l1083, y1083, z1083⟩, st1083⟩ := X1080.virtualBack hx (y := (⟨"com/example/lumenplan/lumenplan/simulation/Wavelengths", "take", "([ILcom/example/lumenplan/lumenplan/simulation/Conversion;)[I"⟩ : MethodName)) (z := (⟨"com/example/lumenplan/lumenplan/simulation/Wavelengths", "take", "([ILcom/example/lumenplan/lumenplan/simulation/Conversion;)[I"⟩ : MethodName)) hown (mvT hZ (hw _ (gm 27 rfl))) (mvT hZ (hw _ (gm 28 rfl))) (notFace_of_selects (args := #[]) (mvT hZ (hw _ (gm 30 rfl)))) (mvT hZ (hw _ (gm 30 rfl))) (mvT hZ (hw _ (gm 29 rfl))) (by decide) (backOf (W := 0) (rmT_F l Z a0 hw []  b1072 aH rA rB kH kL cn wd (0 : Int64) (0 : Int64) b1020 k1020 (0 : Int32) wN T1077.heap n0 O1079 ge_rA ge_rB E_b1072 Fh1077 VH VA VB Fc1077 Fw1077 V_b1020 SN (by decide) hw0 (own_lt3 h3).1 (fun q => ne_b1072_rA q) (fun q => ne_b1072_rB q) (fun q => ne_aH_rA q) (fun q => ne_aH_rB q) (fun q => ne_rA_rB q) (fun q => ne_b1020_rA q) (fun q => ne_b1020_rB q)) hZ (hw _ (gm 31 rfl)) (hw _ (gm 7 rfl)) (by decide) (by decide)) q1083a q1083c (g := (mkF m 113 #[vI p1, vI p2, vI p3, vI cn, vI 1, vR b1020, vR b1032, vR b1040, vR b1048, vR b1060, vR b1072, vU, vU, vU, vU, vU, vU, vU, vU, vU, vU, vU] [(.ref wN), (.ref b1020), (.ref b1072)])) rfl (by rw [hml]; rfl) (Steps.refl _) (argsL := [(.ref b1020), (.ref wN)]) (rest := []) (lenOf pd_3 rfl) rfl (by show 2 * 0 + _ ≤ _; exact Nat.le_of_eq rfl) (hb hby at_113) (fun _ _ => ⟨rfl, e1080, (by decide : 9 + 1 ≤ _), (by decide : 15 + 2 ≤ _)⟩)
  dsimp only [Pt.U, Pt.locs, Pt.cells, Pt.slots] at X1083 l1083 y1083 z1083 st1083 hQ1083
  subst l1083 y1083 z1083
  obtain ⟨x1083, kx1083, rfl, Nq1083, K1083, zx1083, Vx1083, VA1083, VB1083⟩ := hQ1083
  have N1083 := Fr.app N1077 Nq1083
  have k1084 : Rch p e below S0 T1083 (mkF m 116 #[vI p1, vI p2, vI p3, vI cn, vI 1, vR b1020, vR b1032, vR b1040, vR b1048, vR b1060, vR b1072, vU, vU, vU, vU, vU, vU, vU, vU, vU, vU, vU] [(.ref x1083)]) := fun t h => k1082 t (st1083.trans h)
  have ne_b1020_x1083 : b1020 ≠ x1083 := own_ne V_b1020.lt zx1083
  have ne_b1032_x1083 : b1032 ≠ x1083 := own_ne V_b1032.lt zx1083
  have ne_b1040_x1083 : b1040 ≠ x1083 := own_ne V_b1040.lt zx1083
  have ne_b1048_x1083 : b1048 ≠ x1083 := own_ne V_b1048.lt zx1083
  have ne_b1060_x1083 : b1060 ≠ x1083 := own_ne V_b1060.lt zx1083
  have ne_b1072_x1083 : b1072 ≠ x1083 := own_ne E_b1072.lt zx1083
  have ne_aH_x1083 : aH ≠ x1083 := own_ne VH.lt zx1083
  have ne_rA_x1083 : rA ≠ x1083 := own_ne VA.lt zx1083
  have ne_rB_x1083 : rB ≠ x1083 := own_ne VB.lt zx1083
  have ge_x1083 : n0 ≤ x1083 := own_ge O1079 zx1083
  have O1085 := O1079.keep K1083 (allS ge_rA (allS ge_rB all0))
  replace V_b1020 := V_b1020.keep K1083 (ninS ne_b1020_rA (ninS ne_b1020_rB nin0))
  replace V_b1032 := V_b1032.keep K1083 (ninS ne_b1032_rA (ninS ne_b1032_rB nin0))
  replace V_b1040 := V_b1040.keep K1083 (ninS ne_b1040_rA (ninS ne_b1040_rB nin0))
  replace V_b1048 := V_b1048.keep K1083 (ninS ne_b1048_rA (ninS ne_b1048_rB nin0))
  replace V_b1060 := V_b1060.keep K1083 (ninS ne_b1060_rA (ninS ne_b1060_rB nin0))
  replace E_b1072 := E_b1072.keep K1083
  replace Fc1077 := Fc1077.keep K1083 (ninS ne_b1072_rA (ninS ne_b1072_rB nin0))
  replace Fw1077 := Fw1077.keep K1083 (ninS ne_b1072_rA (ninS ne_b1072_rB nin0))
  replace Fh1077 := Fh1077.keep K1083 (ninS ne_b1072_rA (ninS ne_b1072_rB nin0))
  replace VH := VH.keep K1083 (ninS ne_aH_rA (ninS ne_aH_rB nin0))
  rw [(by decide : ((0 : Int64) ||| ((1 : Int64) <<< ((0 : Int32) &&& 0x3f).toInt64)) = (1 : Int64))] at VA1083
  rw [(by decide : ((0 : Int64) ||| ((1 : Int64) <<< ((0 : Int32) &&& 0x3f).toInt64)) = (1 : Int64))] at VB1083
  have k1087 : Rch p e below S0 T1083 (mkF m 122 #[vI p1, vI p2, vI p3, vI cn, vI 1, vR b1020, vR b1032, vR b1040, vR b1048, vR b1060, vR b1072, vR x1083, vU, vU, vU, vU, vU, vU, vU, vU, vU, vU] [(.ref b1032), (.ref b1072)]) := fun t h => k1084 t (by
      show Steps p.tables e below (T1083.setTop (mkF m 116 #[vI p1, vI p2, vI p3, vI cn, vI 1, vR b1020, vR b1032, vR b1040, vR b1048, vR b1060, vR b1072, vU, vU, vU, vU, vU, vU, vU, vU, vU, vU, vU] [(.ref x1083)])) _
      refine XS.astore X1083.here hx rfl (hb hby at_116) rfl rfl (l' := #[vI p1, vI p2, vI p3, vI cn, vI 1, vR b1020, vR b1032, vR b1040, vR b1048, vR b1060, vR b1072, vR x1083, vU, vU, vU, vU, vU, vU, vU, vU, vU, vU]) rfl ?_
      refine XS.aload X1083.here hx rfl (hb hby at_118) rfl rfl ?_
      refine XS.aload X1083.here hx rfl (hb hby at_120) rfl rfl ?_
      exact h)
  obtain ⟨T1086, X1086, e1086, st1086⟩ := getS2 X1083 hx hZ hown (host := "") (Or.inl (hw _ (gm 24 rfl))) Via.refl rfl (SN.ext O1085.2) (g := (mkF m 122 #[vI p1, vI p2, vI p3, vI cn, vI 1, vR b1020, vR b1032, vR b1040, vR b1048, vR b1060, vR b1072, vR x1083, vU, vU, vU, vU, vU, vU, vU, vU, vU, vU] [(.ref b1032), (.ref b1072)])) rfl (hb hby at_122)
  have k1088 : Rch p e below S0 T1086 (mkF m 125 #[vI p1, vI p2, vI p3, vI cn, vI 1, vR b1020, vR b1032, vR b1040, vR b1048, vR b1060, vR b1072, vR x1083, vU, vU, vU, vU, vU, vU, vU, vU, vU, vU] [(.ref wN), (.ref b1032), (.ref b1072)]) := fun t h => k1087 t (st1086 t h)
  obtain ⟨cq1089, kq1089, q1089a, q1089b, q1089c⟩ := isOf hZ e1086 E_b1072
  obtain ⟨_, _, ⟨T1089, L1089, kk1089, n1089⟩, -, X1089, ⟨Lc1089, hQ1089, l1089, y1089, z1089⟩, st1089⟩ := X1086.virtualBack hx (y := (⟨"com/example/lumenplan/lumenplan/simulation/Wavelengths", "take", "([ILcom/example/lumenplan/lumenplan/simulation/Conversion;)[I"⟩ : MethodName)) (z := (⟨"com/example/lumenplan/lumenplan/simulation/Wavelengths", "take", "([ILcom/example/lumenplan/lumenplan/simulation/Conversion;)[I"⟩ : MethodName)) hown (mvT hZ (hw _ (gm 27 rfl))) (mvT hZ (hw _ (gm 28 rfl))) (notFace_of_selects (args := #[]) (mvT hZ (hw _ (gm 30 rfl)))) (mvT hZ (hw _ (gm 30 rfl))) (mvT hZ (hw _ (gm 29 rfl))) (by decide) (backOf (W := 0) (rmT_A l Z a0 hw []  b1072 aH rA rB kH kL cn wd (1 : Int64) (1 : Int64) b1032 k1032 (1 : Int32) wN T1083.heap n0 O1085 ge_rA ge_rB E_b1072 Fh1077 VH VA1083 VB1083 Fc1077 Fw1077 V_b1032 SN (by decide) hw0 (own_lt3 h3).2.1 (fun q => ne_b1072_rA q) (fun q => ne_b1072_rB q) (fun q => ne_aH_rA q) (fun q => ne_aH_rB q) (fun q => ne_rA_rB q) (fun q => ne_b1032_rA q) (fun q => ne_b1032_rB q)) hZ (hw _ (gm 31 rfl)) (hw _ (gm 7 rfl)) (by decide) (by decide)) q1089a q1089c (g := (mkF m 125 #[vI p1, vI p2, vI p3, vI cn, vI 1, vR b1020, vR b1032, vR b1040, vR b1048, vR b1060, vR b1072, vR x1083, vU, vU, vU, vU, vU, vU, vU, vU, vU, vU] [(.ref wN), (.ref b1032), (.ref b1072)])) rfl (by rw [hml]; rfl) (Steps.refl _) (argsL := [(.ref b1032), (.ref wN)]) (rest := []) (lenOf pd_3 rfl) rfl (by show 2 * 0 + _ ≤ _; exact Nat.le_of_eq rfl) (hb hby at_125) (fun _ _ => ⟨rfl, e1086, (by decide : 10 + 1 ≤ _), (by decide : 17 + 2 ≤ _)⟩)
  dsimp only [Pt.U, Pt.locs, Pt.cells, Pt.slots] at X1089 l1089 y1089 z1089 st1089 hQ1089
  subst l1089 y1089 z1089
  obtain ⟨x1089, kx1089, rfl, Nq1089, K1089, zx1089, Vx1089, VA1089, VB1089⟩ := hQ1089
  have N1089 := Fr.app N1083 Nq1089
  have k1090 : Rch p e below S0 T1089 (mkF m 128 #[vI p1, vI p2, vI p3, vI cn, vI 1, vR b1020, vR b1032, vR b1040, vR b1048, vR b1060, vR b1072, vR x1083, vU, vU, vU, vU, vU, vU, vU, vU, vU, vU] [(.ref x1089)]) := fun t h => k1088 t (st1089.trans h)
  have ne_b1020_x1089 : b1020 ≠ x1089 := own_ne V_b1020.lt zx1089
  have ne_b1032_x1089 : b1032 ≠ x1089 := own_ne V_b1032.lt zx1089
  have ne_b1040_x1089 : b1040 ≠ x1089 := own_ne V_b1040.lt zx1089
  have ne_b1048_x1089 : b1048 ≠ x1089 := own_ne V_b1048.lt zx1089
  have ne_b1060_x1089 : b1060 ≠ x1089 := own_ne V_b1060.lt zx1089
  have ne_b1072_x1089 : b1072 ≠ x1089 := own_ne E_b1072.lt zx1089
  have ne_aH_x1089 : aH ≠ x1089 := own_ne VH.lt zx1089
  have ne_rA_x1089 : rA ≠ x1089 := own_ne VA1083.lt zx1089
  have ne_rB_x1089 : rB ≠ x1089 := own_ne VB1083.lt zx1089
  have ne_x1083_x1089 : x1083 ≠ x1089 := own_ne Vx1083.lt zx1089
  have ge_x1089 : n0 ≤ x1089 := own_ge O1085 zx1089
  have O1091 := O1085.keep K1089 (allS ge_rA (allS ge_rB all0))
  replace V_b1020 := V_b1020.keep K1089 (ninS ne_b1020_rA (ninS ne_b1020_rB nin0))
  replace V_b1032 := V_b1032.keep K1089 (ninS ne_b1032_rA (ninS ne_b1032_rB nin0))
  replace V_b1040 := V_b1040.keep K1089 (ninS ne_b1040_rA (ninS ne_b1040_rB nin0))
  replace V_b1048 := V_b1048.keep K1089 (ninS ne_b1048_rA (ninS ne_b1048_rB nin0))
  replace V_b1060 := V_b1060.keep K1089 (ninS ne_b1060_rA (ninS ne_b1060_rB nin0))
  replace E_b1072 := E_b1072.keep K1089
  replace Fc1077 := Fc1077.keep K1089 (ninS ne_b1072_rA (ninS ne_b1072_rB nin0))
  replace Fw1077 := Fw1077.keep K1089 (ninS ne_b1072_rA (ninS ne_b1072_rB nin0))
  replace Fh1077 := Fh1077.keep K1089 (ninS ne_b1072_rA (ninS ne_b1072_rB nin0))
  replace VH := VH.keep K1089 (ninS ne_aH_rA (ninS ne_aH_rB nin0))
  replace Vx1083 := Vx1083.keep K1089 (ninS (Ne.symm ne_rA_x1083) (ninS (Ne.symm ne_rB_x1083) nin0))
  rw [(by decide : ((1 : Int64) ||| ((1 : Int64) <<< ((1 : Int32) &&& 0x3f).toInt64)) = (3 : Int64))] at VA1089
  have k1093 : Rch p e below S0 T1089 (mkF m 134 #[vI p1, vI p2, vI p3, vI cn, vI 1, vR b1020, vR b1032, vR b1040, vR b1048, vR b1060, vR b1072, vR x1083, vR x1089, vU, vU, vU, vU, vU, vU, vU, vU, vU] [(.ref b1040), (.ref b1072)]) := fun t h => k1090 t (by
      show Steps p.tables e below (T1089.setTop (mkF m 128 #[vI p1, vI p2, vI p3, vI cn, vI 1, vR b1020, vR b1032, vR b1040, vR b1048, vR b1060, vR b1072, vR x1083, vU, vU, vU, vU, vU, vU, vU, vU, vU, vU] [(.ref x1089)])) _
      refine XS.astore X1089.here hx rfl (hb hby at_128) rfl rfl (l' := #[vI p1, vI p2, vI p3, vI cn, vI 1, vR b1020, vR b1032, vR b1040, vR b1048, vR b1060, vR b1072, vR x1083, vR x1089, vU, vU, vU, vU, vU, vU, vU, vU, vU]) rfl ?_
      refine XS.aload X1089.here hx rfl (hb hby at_130) rfl rfl ?_
      refine XS.aload X1089.here hx rfl (hb hby at_132) rfl rfl ?_
      exact h)
  obtain ⟨T1092, X1092, e1092, st1092⟩ := getS2 X1089 hx hZ hown (host := "") (Or.inl (hw _ (gm 24 rfl))) Via.refl rfl (SN.ext O1091.2) (g := (mkF m 134 #[vI p1, vI p2, vI p3, vI cn, vI 1, vR b1020, vR b1032, vR b1040, vR b1048, vR b1060, vR b1072, vR x1083, vR x1089, vU, vU, vU, vU, vU, vU, vU, vU, vU] [(.ref b1040), (.ref b1072)])) rfl (hb hby at_134)
  have k1094 : Rch p e below S0 T1092 (mkF m 137 #[vI p1, vI p2, vI p3, vI cn, vI 1, vR b1020, vR b1032, vR b1040, vR b1048, vR b1060, vR b1072, vR x1083, vR x1089, vU, vU, vU, vU, vU, vU, vU, vU, vU] [(.ref wN), (.ref b1040), (.ref b1072)]) := fun t h => k1093 t (st1092 t h)
  obtain ⟨cq1095, kq1095, q1095a, q1095b, q1095c⟩ := isOf hZ e1092 E_b1072
  obtain ⟨_, _, ⟨T1095, L1095, kk1095, n1095⟩, -, X1095, ⟨Lc1095, hQ1095, l1095, y1095, z1095⟩, st1095⟩ := X1092.virtualBack hx (y := (⟨"com/example/lumenplan/lumenplan/simulation/Wavelengths", "take", "([ILcom/example/lumenplan/lumenplan/simulation/Conversion;)[I"⟩ : MethodName)) (z := (⟨"com/example/lumenplan/lumenplan/simulation/Wavelengths", "take", "([ILcom/example/lumenplan/lumenplan/simulation/Conversion;)[I"⟩ : MethodName)) hown (mvT hZ (hw _ (gm 27 rfl))) (mvT hZ (hw _ (gm 28 rfl))) (notFace_of_selects (args := #[]) (mvT hZ (hw _ (gm 30 rfl)))) (mvT hZ (hw _ (gm 30 rfl))) (mvT hZ (hw _ (gm 29 rfl))) (by decide) (backOf (W := 0) (rmT_B l Z a0 hw []  b1072 aH rA rB kH kL cn wd (3 : Int64) (1 : Int64) b1040 k1040 (1 : Int32) wN T1089.heap n0 O1091 ge_rA ge_rB E_b1072 Fh1077 VH VA1089 VB1089 Fc1077 Fw1077 V_b1040 SN (by decide) hw0 (own_lt3 h3).2.1 (fun q => ne_b1072_rA q) (fun q => ne_b1072_rB q) (fun q => ne_aH_rA q) (fun q => ne_aH_rB q) (fun q => ne_rA_rB q) (fun q => ne_b1040_rA q) (fun q => ne_b1040_rB q)) hZ (hw _ (gm 31 rfl)) (hw _ (gm 7 rfl)) (by decide) (by decide)) q1095a q1095c (g := (mkF m 137 #[vI p1, vI p2, vI p3, vI cn, vI 1, vR b1020, vR b1032, vR b1040, vR b1048, vR b1060, vR b1072, vR x1083, vR x1089, vU, vU, vU, vU, vU, vU, vU, vU, vU] [(.ref wN), (.ref b1040), (.ref b1072)])) rfl (by rw [hml]; rfl) (Steps.refl _) (argsL := [(.ref b1040), (.ref wN)]) (rest := []) (lenOf pd_3 rfl) rfl (by show 2 * 0 + _ ≤ _; exact Nat.le_of_eq rfl) (hb hby at_137) (fun _ _ => ⟨rfl, e1092, (by decide : 11 + 1 ≤ _), (by decide : 19 + 2 ≤ _)⟩)
  dsimp only [Pt.U, Pt.locs, Pt.cells, Pt.slots] at X1095 l1095 y1095 z1095 st1095 hQ1095
  subst l1095 y1095 z1095
  obtain ⟨x1095, kx1095, rfl, Nq1095, K1095, zx1095, Vx1095, VA1095, VB1095⟩ := hQ1095
  have N1095 := Fr.app N1089 Nq1095
  have k1096 : Rch p e below S0 T1095 (mkF m 140 #[vI p1, vI p2, vI p3, vI cn, vI 1, vR b1020, vR b1032, vR b1040, vR b1048, vR b1060, vR b1072, vR x1083, vR x1089, vU, vU, vU, vU, vU, vU, vU, vU, vU] [(.ref x1095)]) := fun t h => k1094 t (st1095.trans h)
  have ne_b1020_x1095 : b1020 ≠ x1095 := own_ne V_b1020.lt zx1095
  have ne_b1032_x1095 : b1032 ≠ x1095 := own_ne V_b1032.lt zx1095
  have ne_b1040_x1095 : b1040 ≠ x1095 := own_ne V_b1040.lt zx1095
  have ne_b1048_x1095 : b1048 ≠ x1095 := own_ne V_b1048.lt zx1095
  have ne_b1060_x1095 : b1060 ≠ x1095 := own_ne V_b1060.lt zx1095
  have ne_b1072_x1095 : b1072 ≠ x1095 := own_ne E_b1072.lt zx1095
  have ne_aH_x1095 : aH ≠ x1095 := own_ne VH.lt zx1095
  have ne_rA_x1095 : rA ≠ x1095 := own_ne VA1089.lt zx1095
  have ne_rB_x1095 : rB ≠ x1095 := own_ne VB1089.lt zx1095
  have ne_x1083_x1095 : x1083 ≠ x1095 := own_ne Vx1083.lt zx1095
  have ne_x1089_x1095 : x1089 ≠ x1095 := own_ne Vx1089.lt zx1095
  have ge_x1095 : n0 ≤ x1095 := own_ge O1091 zx1095
  have O1097 := O1091.keep K1095 (allS ge_rA (allS ge_rB all0))
  replace V_b1020 := V_b1020.keep K1095 (ninS ne_b1020_rA (ninS ne_b1020_rB nin0))
  replace V_b1032 := V_b1032.keep K1095 (ninS ne_b1032_rA (ninS ne_b1032_rB nin0))
  replace V_b1040 := V_b1040.keep K1095 (ninS ne_b1040_rA (ninS ne_b1040_rB nin0))
  replace V_b1048 := V_b1048.keep K1095 (ninS ne_b1048_rA (ninS ne_b1048_rB nin0))
  replace V_b1060 := V_b1060.keep K1095 (ninS ne_b1060_rA (ninS ne_b1060_rB nin0))
  replace E_b1072 := E_b1072.keep K1095
  replace Fc1077 := Fc1077.keep K1095 (ninS ne_b1072_rA (ninS ne_b1072_rB nin0))
  replace Fw1077 := Fw1077.keep K1095 (ninS ne_b1072_rA (ninS ne_b1072_rB nin0))
  replace Fh1077 := Fh1077.keep K1095 (ninS ne_b1072_rA (ninS ne_b1072_rB nin0))
  replace VH := VH.keep K1095 (ninS ne_aH_rA (ninS ne_aH_rB nin0))
  replace Vx1083 := Vx1083.keep K1095 (ninS (Ne.symm ne_rA_x1083) (ninS (Ne.symm ne_rB_x1083) nin0))
  replace Vx1089 := Vx1089.keep K1095 (ninS (Ne.symm ne_rA_x1089) (ninS (Ne.symm ne_rB_x1089) nin0))
  rw [(by decide : ((1 : Int64) ||| ((1 : Int64) <<< ((1 : Int32) &&& 0x3f).toInt64)) = (3 : Int64))] at VB1095
  have k1099 : Rch p e below S0 T1095 (mkF m 146 #[vI p1, vI p2, vI p3, vI cn, vI 1, vR b1020, vR b1032, vR b1040, vR b1048, vR b1060, vR b1072, vR x1083, vR x1089, vR x1095, vU, vU, vU, vU, vU, vU, vU, vU] [(.ref b1048), (.ref b1072)]) := fun t h => k1096 t (by
      show Steps p.tables e below (T1095.setTop (mkF m 140 #[vI p1, vI p2, vI p3, vI cn, vI 1, vR b1020, vR b1032, vR b1040, vR b1048, vR b1060, vR b1072, vR x1083, vR x1089, vU, vU, vU, vU, vU, vU, vU, vU, vU] [(.ref x1095)])) _
      refine XS.astore X1095.here hx rfl (hb hby at_140) rfl rfl (l' := #[vI p1, vI p2, vI p3, vI cn, vI 1, vR b1020, vR b1032, vR b1040, vR b1048, vR b1060, vR b1072, vR x1083, vR x1089, vR x1095, vU, vU, vU, vU, vU, vU, vU, vU]) rfl ?_
      show Steps p.tables e below (T1095.setTop (mkF m 142 #[vI p1, vI p2, vI p3, vI cn, vI 1, vR b1020, vR b1032, vR b1040, vR b1048, vR b1060, vR b1072, vR x1083, vR x1089, vR x1095, vU, vU, vU, vU, vU, vU, vU, vU] [])) _
      refine XS.aload X1095.here hx rfl (hb hby at_142) rfl rfl ?_
      refine XS.aload X1095.here hx rfl (hb hby at_144) rfl rfl ?_
      exact h)
  obtain ⟨T1098, X1098, e1098, st1098⟩ := getS2 X1095 hx hZ hown (host := "") (Or.inl (hw _ (gm 24 rfl))) Via.refl rfl (SN.ext O1097.2) (g := (mkF m 146 #[vI p1, vI p2, vI p3, vI cn, vI 1, vR b1020, vR b1032, vR b1040, vR b1048, vR b1060, vR b1072, vR x1083, vR x1089, vR x1095, vU, vU, vU, vU, vU, vU, vU, vU] [(.ref b1048), (.ref b1072)])) rfl (hb hby at_146)
  have k1100 : Rch p e below S0 T1098 (mkF m 149 #[vI p1, vI p2, vI p3, vI cn, vI 1, vR b1020, vR b1032, vR b1040, vR b1048, vR b1060, vR b1072, vR x1083, vR x1089, vR x1095, vU, vU, vU, vU, vU, vU, vU, vU] [(.ref wN), (.ref b1048), (.ref b1072)]) := fun t h => k1099 t (st1098 t h)
  obtain ⟨cq1101, kq1101, q1101a, q1101b, q1101c⟩ := isOf hZ e1098 E_b1072
  obtain ⟨_, _, ⟨T1101, L1101, kk1101, n1101⟩, -, X1101, ⟨Lc1101, hQ1101, l1101, y1101, z1101⟩, st1101⟩ := X1098.virtualBack hx (y := (⟨"com/example/lumenplan/lumenplan/simulation/Wavelengths", "take", "([ILcom/example/lumenplan/lumenplan/simulation/Conversion;)[I"⟩ : MethodName)) (z := (⟨"com/example/lumenplan/lumenplan/simulation/Wavelengths", "take", "([ILcom/example/lumenplan/lumenplan/simulation/Conversion;)[I"⟩ : MethodName)) hown (mvT hZ (hw _ (gm 27 rfl))) (mvT hZ (hw _ (gm 28 rfl))) (notFace_of_selects (args := #[]) (mvT hZ (hw _ (gm 30 rfl)))) (mvT hZ (hw _ (gm 30 rfl))) (mvT hZ (hw _ (gm 29 rfl))) (by decide) (backOf (W := 0) (rmT_R l Z a0 hw []  b1072 aH rA rB kH kL cn wd (3 : Int64) (3 : Int64) b1048 k1048 (2 : Int32) wN T1095.heap n0 O1097 ge_rA ge_rB E_b1072 Fh1077 VH VA1095 VB1095 Fc1077 Fw1077 V_b1048 SN (by decide) hw0 (own_lt3 h3).2.2 (fun q => ne_b1072_rA q) (fun q => ne_b1072_rB q) (fun q => ne_aH_rA q) (fun q => ne_aH_rB q) (fun q => ne_rA_rB q) (fun q => ne_b1048_rA q) (fun q => ne_b1048_rB q)) hZ (hw _ (gm 31 rfl)) (hw _ (gm 7 rfl)) (by decide) (by decide)) q1101a q1101c (g := (mkF m 149 #[vI p1, vI p2, vI p3, vI cn, vI 1, vR b1020, vR b1032, vR b1040, vR b1048, vR b1060, vR b1072, vR x1083, vR x1089, vR x1095, vU, vU, vU, vU, vU, vU, vU, vU] [(.ref wN), (.ref b1048), (.ref b1072)])) rfl (by rw [hml]; rfl) (Steps.refl _) (argsL := [(.ref b1048), (.ref wN)]) (rest := []) (lenOf pd_3 rfl) rfl (by show 2 * 0 + _ ≤ _; exact Nat.le_of_eq rfl) (hb hby at_149) (fun _ _ => ⟨rfl, e1098, (by decide : 12 + 1 ≤ _), (by decide : 21 + 2 ≤ _)⟩)
  dsimp only [Pt.U, Pt.locs, Pt.cells, Pt.slots] at X1101 l1101 y1101 z1101 st1101 hQ1101
  subst l1101 y1101 z1101
  obtain ⟨x1101, kx1101, rfl, Nq1101, K1101, zx1101, Vx1101, VA1101, VB1101⟩ := hQ1101
  have N1101 := Fr.app N1095 Nq1101
  have k1102 : Rch p e below S0 T1101 (mkF m 152 #[vI p1, vI p2, vI p3, vI cn, vI 1, vR b1020, vR b1032, vR b1040, vR b1048, vR b1060, vR b1072, vR x1083, vR x1089, vR x1095, vU, vU, vU, vU, vU, vU, vU, vU] [(.ref x1101)]) := fun t h => k1100 t (st1101.trans h)
  have ne_b1020_x1101 : b1020 ≠ x1101 := own_ne V_b1020.lt zx1101
  have ne_b1032_x1101 : b1032 ≠ x1101 := own_ne V_b1032.lt zx1101
  have ne_b1040_x1101 : b1040 ≠ x1101 := own_ne V_b1040.lt zx1101
  have ne_b1048_x1101 : b1048 ≠ x1101 := own_ne V_b1048.lt zx1101
  have ne_b1060_x1101 : b1060 ≠ x1101 := own_ne V_b1060.lt zx1101
  have ne_b1072_x1101 : b1072 ≠ x1101 := own_ne E_b1072.lt zx1101
  have ne_aH_x1101 : aH ≠ x1101 := own_ne VH.lt zx1101
  have ne_rA_x1101 : rA ≠ x1101 := own_ne VA1095.lt zx1101
  have ne_rB_x1101 : rB ≠ x1101 := own_ne VB1095.lt zx1101
  have ne_x1083_x1101 : x1083 ≠ x1101 := own_ne Vx1083.lt zx1101
  have ne_x1089_x1101 : x1089 ≠ x1101 := own_ne Vx1089.lt zx1101
  have ne_x1095_x1101 : x1095 ≠ x1101 := own_ne Vx1095.lt zx1101
  have ge_x1101 : n0 ≤ x1101 := own_ge O1097 zx1101
  have O1103 := O1097.keep K1101 (allS ge_rA (allS ge_rB all0))
  replace V_b1020 := V_b1020.keep K1101 (ninS ne_b1020_rA (ninS ne_b1020_rB nin0))
  replace V_b1032 := V_b1032.keep K1101 (ninS ne_b1032_rA (ninS ne_b1032_rB nin0))
  replace V_b1040 := V_b1040.keep K1101 (ninS ne_b1040_rA (ninS ne_b1040_rB nin0))
  replace V_b1048 := V_b1048.keep K1101 (ninS ne_b1048_rA (ninS ne_b1048_rB nin0))
  replace V_b1060 := V_b1060.keep K1101 (ninS ne_b1060_rA (ninS ne_b1060_rB nin0))
  replace E_b1072 := E_b1072.keep K1101
  replace Fc1077 := Fc1077.keep K1101 (ninS ne_b1072_rA (ninS ne_b1072_rB nin0))
  replace Fw1077 := Fw1077.keep K1101 (ninS ne_b1072_rA (ninS ne_b1072_rB nin0))
  replace Fh1077 := Fh1077.keep K1101 (ninS ne_b1072_rA (ninS ne_b1072_rB nin0))
  replace VH := VH.keep K1101 (ninS ne_aH_rA (ninS ne_aH_rB nin0))
  replace Vx1083 := Vx1083.keep K1101 (ninS (Ne.symm ne_rA_x1083) (ninS (Ne.symm ne_rB_x1083) nin0))
  replace Vx1089 := Vx1089.keep K1101 (ninS (Ne.symm ne_rA_x1089) (ninS (Ne.symm ne_rB_x1089) nin0))
  replace Vx1095 := Vx1095.keep K1101 (ninS (Ne.symm ne_rA_x1095) (ninS (Ne.symm ne_rB_x1095) nin0))
  rw [(by decide : ((3 : Int64) ||| ((1 : Int64) <<< ((2 : Int32) &&& 0x3f).toInt64)) = (7 : Int64))] at VA1101
  rw [(by decide : ((3 : Int64) ||| ((1 : Int64) <<< ((2 : Int32) &&& 0x3f).toInt64)) = (7 : Int64))] at VB1101
  have k1104 : Rch p e below S0 T1101 (mkF m 176 #[vI p1, vI p2, vI p3, vI cn, vI 1, vR b1020, vR b1032, vR b1040, vR b1048, vR b1060, vR b1072, vR x1083, vR x1089, vR x1095, vR x1101, vU, vU, vU, vU, vU, vU, vU] []) := fun t h => k1102 t (by
      show Steps p.tables e below (T1101.setTop (mkF m 152 #[vI p1, vI p2, vI p3, vI cn, vI 1, vR b1020, vR b1032, vR b1040, vR b1048, vR b1060, vR b1072, vR x1083, vR x1089, vR x1095, vU, vU, vU, vU, vU, vU, vU, vU] [(.ref x1101)])) _
      refine XS.astore X1101.here hx rfl (hb hby at_152) rfl rfl (l' := #[vI p1, vI p2, vI p3, vI cn, vI 1, vR b1020, vR b1032, vR b1040, vR b1048, vR b1060, vR b1072, vR x1083, vR x1089, vR x1095, vR x1101, vU, vU, vU, vU, vU, vU, vU]) rfl ?_
      refine XS.aload X1101.here hx rfl (hb hby at_154) rfl rfl ?_
      refine XS.ifnullNo X1101.here hx rfl (hb hby at_156) rfl ?_
      refine XS.aload X1101.here hx rfl (hb hby at_159) rfl rfl ?_
      refine XS.ifnullNo X1101.here hx rfl (hb hby at_161) rfl ?_
      refine XS.aload X1101.here hx rfl (hb hby at_164) rfl rfl ?_
      refine XS.ifnullNo X1101.here hx rfl (hb hby at_166) rfl ?_
      refine XS.aload X1101.here hx rfl (hb hby at_169) rfl rfl ?_
      refine XS.ifnonnullYes X1101.here hx rfl (pc0 := 171) (pc' := 176) rfl (hb hby at_171) rfl (by decide) (by decide) ?_
      exact h)
  obtain ⟨T1107, b1, X1107, e1107, k1107, hb1⟩ : ∃ (T' : State) (b1 : Int32), Like X1101 T' ∧ T'.heap = T1101.heap ∧ Rch p e below S0 T' (mkF m 189 #[vI p1, vI p2, vI p3, vI cn, vI 1, vR b1020, vR b1032, vR b1040, vR b1048, vR b1060, vR b1072, vR x1083, vR x1089, vR x1095, vR x1101, vI b1, vU, vU, vU, vU, vU, vU] []) ∧ (b1 = (0 : Int32) ∨ b1 = (1 : Int32)) := by
    by_cases hm : p2 &&& 1 = 0
    · have k1105 : Rch p e below S0 T1101 (mkF m 189 #[vI p1, vI p2, vI p3, vI cn, vI 1, vR b1020, vR b1032, vR b1040, vR b1048, vR b1060, vR b1072, vR x1083, vR x1089, vR x1095, vR x1101, vI 0, vU, vU, vU, vU, vU, vU] []) := fun t h => k1104 t (by
          show Steps p.tables e below (T1101.setTop (mkF m 176 #[vI p1, vI p2, vI p3, vI cn, vI 1, vR b1020, vR b1032, vR b1040, vR b1048, vR b1060, vR b1072, vR x1083, vR x1089, vR x1095, vR x1101, vU, vU, vU, vU, vU, vU, vU] [])) _
          refine XS.iloadN X1101.here hx rfl (hb hby at_176) rfl ?_
          refine XS.iconst X1101.here hx rfl (hb hby at_177) ?_
          refine XS.iand X1101.here hx rfl (hb hby at_178) rfl ?_
          refine XS.ifYes X1101.here hx rfl (pc0 := 179) (pc' := 186) rfl (hb hby at_179) rfl ((if0 _ _).trans (teq (hm : (p2 &&& (1 : Int32)) = (0 : Int32))).1) (by decide) (by decide) ?_
          refine XS.iconst X1101.here hx rfl (hb hby at_186) ?_
          refine XS.istore X1101.here hx rfl (hb hby at_187) rfl (l' := #[vI p1, vI p2, vI p3, vI cn, vI 1, vR b1020, vR b1032, vR b1040, vR b1048, vR b1060, vR b1072, vR x1083, vR x1089, vR x1095, vR x1101, vI 0, vU, vU, vU, vU, vU, vU]) rfl ?_
          exact h)
      exact ⟨_, (0 : Int32), X1101, rfl, k1105, (Or.inl rfl)⟩
    · have k1106 : Rch p e below S0 T1101 (mkF m 189 #[vI p1, vI p2, vI p3, vI cn, vI 1, vR b1020, vR b1032, vR b1040, vR b1048, vR b1060, vR b1072, vR x1083, vR x1089, vR x1095, vR x1101, vI 1, vU, vU, vU, vU, vU, vU] []) := fun t h => k1104 t (by
          show Steps p.tables e below (T1101.setTop (mkF m 176 #[vI p1, vI p2, vI p3, vI cn, vI 1, vR b1020, vR b1032, vR b1040, vR b1048, vR b1060, vR b1072, vR x1083, vR x1089, vR x1095, vR x1101, vU, vU, vU, vU, vU, vU, vU] [])) _
          refine XS.iloadN X1101.here hx rfl (hb hby at_176) rfl ?_
          refine XS.iconst X1101.here hx rfl (hb hby at_177) ?_
          refine XS.iand X1101.here hx rfl (hb hby at_178) rfl ?_
          refine XS.ifNo X1101.here hx rfl (hb hby at_179) rfl ((if0 _ _).trans (feq (hm : ¬ ((p2 &&& (1 : Int32)) = (0 : Int32)))).1) ?_
          refine XS.iconst X1101.here hx rfl (hb hby at_182) ?_
          refine XS.goto X1101.here hx rfl (pc0 := 183) (pc' := 187) rfl (hb hby at_183) (by decide) (by decide) ?_
          refine XS.istore X1101.here hx rfl (hb hby at_187) rfl (l' := #[vI p1, vI p2, vI p3, vI cn, vI 1, vR b1020, vR b1032, vR b1040, vR b1048, vR b1060, vR b1072, vR x1083, vR x1089, vR x1095, vR x1101, vI 1, vU, vU, vU, vU, vU, vU]) rfl ?_
          exact h)
      exact ⟨_, (1 : Int32), X1101, rfl, k1106, (Or.inr rfl)⟩
  replace X1107 := X1107.out
  obtain ⟨T1110, b2, X1110, e1110, k1110, hb2⟩ : ∃ (T' : State) (b2 : Int32), Like X1107 T' ∧ T'.heap = T1101.heap ∧ Rch p e below S0 T' (mkF m 202 #[vI p1, vI p2, vI p3, vI cn, vI 1, vR b1020, vR b1032, vR b1040, vR b1048, vR b1060, vR b1072, vR x1083, vR x1089, vR x1095, vR x1101, vI b1, vI b2, vU, vU, vU, vU, vU] []) ∧ (b2 = (0 : Int32) ∨ b2 = (1 : Int32)) := by
    by_cases hm : p2 &&& 2 = 0
    · have k1108 : Rch p e below S0 T1107 (mkF m 202 #[vI p1, vI p2, vI p3, vI cn, vI 1, vR b1020, vR b1032, vR b1040, vR b1048, vR b1060, vR b1072, vR x1083, vR x1089, vR x1095, vR x1101, vI b1, vI 0, vU, vU, vU, vU, vU] []) := fun t h => k1107 t (by
          show Steps p.tables e below (T1107.setTop (mkF m 189 #[vI p1, vI p2, vI p3, vI cn, vI 1, vR b1020, vR b1032, vR b1040, vR b1048, vR b1060, vR b1072, vR x1083, vR x1089, vR x1095, vR x1101, vI b1, vU, vU, vU, vU, vU, vU] [])) _
          refine XS.iloadN X1107.here hx rfl (hb hby at_189) rfl ?_
          refine XS.iconst X1107.here hx rfl (hb hby at_190) ?_
          refine XS.iand X1107.here hx rfl (hb hby at_191) rfl ?_
          refine XS.ifYes X1107.here hx rfl (pc0 := 192) (pc' := 199) rfl (hb hby at_192) rfl ((if0 _ _).trans (teq (hm : (p2 &&& (2 : Int32)) = (0 : Int32))).1) (by decide) (by decide) ?_
          refine XS.iconst X1107.here hx rfl (hb hby at_199) ?_
          refine XS.istore X1107.here hx rfl (hb hby at_200) rfl (l' := #[vI p1, vI p2, vI p3, vI cn, vI 1, vR b1020, vR b1032, vR b1040, vR b1048, vR b1060, vR b1072, vR x1083, vR x1089, vR x1095, vR x1101, vI b1, vI 0, vU, vU, vU, vU, vU]) rfl ?_
          exact h)
      exact ⟨_, (0 : Int32), X1107, e1107, k1108, (Or.inl rfl)⟩
    · have k1109 : Rch p e below S0 T1107 (mkF m 202 #[vI p1, vI p2, vI p3, vI cn, vI 1, vR b1020, vR b1032, vR b1040, vR b1048, vR b1060, vR b1072, vR x1083, vR x1089, vR x1095, vR x1101, vI b1, vI 1, vU, vU, vU, vU, vU] []) := fun t h => k1107 t (by
          show Steps p.tables e below (T1107.setTop (mkF m 189 #[vI p1, vI p2, vI p3, vI cn, vI 1, vR b1020, vR b1032, vR b1040, vR b1048, vR b1060, vR b1072, vR x1083, vR x1089, vR x1095, vR x1101, vI b1, vU, vU, vU, vU, vU, vU] [])) _
          refine XS.iloadN X1107.here hx rfl (hb hby at_189) rfl ?_
          refine XS.iconst X1107.here hx rfl (hb hby at_190) ?_
          refine XS.iand X1107.here hx rfl (hb hby at_191) rfl ?_
          refine XS.ifNo X1107.here hx rfl (hb hby at_192) rfl ((if0 _ _).trans (feq (hm : ¬ ((p2 &&& (2 : Int32)) = (0 : Int32)))).1) ?_
          refine XS.iconst X1107.here hx rfl (hb hby at_195) ?_
          refine XS.goto X1107.here hx rfl (pc0 := 196) (pc' := 200) rfl (hb hby at_196) (by decide) (by decide) ?_
          refine XS.istore X1107.here hx rfl (hb hby at_200) rfl (l' := #[vI p1, vI p2, vI p3, vI cn, vI 1, vR b1020, vR b1032, vR b1040, vR b1048, vR b1060, vR b1072, vR x1083, vR x1089, vR x1095, vR x1101, vI b1, vI 1, vU, vU, vU, vU, vU]) rfl ?_
          exact h)
      exact ⟨_, (1 : Int32), X1107, e1107, k1109, (Or.inr rfl)⟩
  replace X1110 := X1110.out
  obtain ⟨T1113, b3, X1113, e1113, k1113, hb3⟩ : ∃ (T' : State) (b3 : Int32), Like X1110 T' ∧ T'.heap = T1101.heap ∧ Rch p e below S0 T' (mkF m 215 #[vI p1, vI p2, vI p3, vI cn, vI 1, vR b1020, vR b1032, vR b1040, vR b1048, vR b1060, vR b1072, vR x1083, vR x1089, vR x1095, vR x1101, vI b1, vI b2, vI b3, vU, vU, vU, vU] []) ∧ (b3 = (0 : Int32) ∨ b3 = (1 : Int32)) := by
    by_cases hm : p2 &&& 4 = 0
    · have k1111 : Rch p e below S0 T1110 (mkF m 215 #[vI p1, vI p2, vI p3, vI cn, vI 1, vR b1020, vR b1032, vR b1040, vR b1048, vR b1060, vR b1072, vR x1083, vR x1089, vR x1095, vR x1101, vI b1, vI b2, vI 0, vU, vU, vU, vU] []) := fun t h => k1110 t (by
          show Steps p.tables e below (T1110.setTop (mkF m 202 #[vI p1, vI p2, vI p3, vI cn, vI 1, vR b1020, vR b1032, vR b1040, vR b1048, vR b1060, vR b1072, vR x1083, vR x1089, vR x1095, vR x1101, vI b1, vI b2, vU, vU, vU, vU, vU] [])) _
          refine XS.iloadN X1110.here hx rfl (hb hby at_202) rfl ?_
          refine XS.iconst X1110.here hx rfl (hb hby at_203) ?_
          refine XS.iand X1110.here hx rfl (hb hby at_204) rfl ?_
          refine XS.ifYes X1110.here hx rfl (pc0 := 205) (pc' := 212) rfl (hb hby at_205) rfl ((if0 _ _).trans (teq (hm : (p2 &&& (4 : Int32)) = (0 : Int32))).1) (by decide) (by decide) ?_
          refine XS.iconst X1110.here hx rfl (hb hby at_212) ?_
          refine XS.istore X1110.here hx rfl (hb hby at_213) rfl (l' := #[vI p1, vI p2, vI p3, vI cn, vI 1, vR b1020, vR b1032, vR b1040, vR b1048, vR b1060, vR b1072, vR x1083, vR x1089, vR x1095, vR x1101, vI b1, vI b2, vI 0, vU, vU, vU, vU]) rfl ?_
          exact h)
      exact ⟨_, (0 : Int32), X1110, e1110, k1111, (Or.inl rfl)⟩
    · have k1112 : Rch p e below S0 T1110 (mkF m 215 #[vI p1, vI p2, vI p3, vI cn, vI 1, vR b1020, vR b1032, vR b1040, vR b1048, vR b1060, vR b1072, vR x1083, vR x1089, vR x1095, vR x1101, vI b1, vI b2, vI 1, vU, vU, vU, vU] []) := fun t h => k1110 t (by
          show Steps p.tables e below (T1110.setTop (mkF m 202 #[vI p1, vI p2, vI p3, vI cn, vI 1, vR b1020, vR b1032, vR b1040, vR b1048, vR b1060, vR b1072, vR x1083, vR x1089, vR x1095, vR x1101, vI b1, vI b2, vU, vU, vU, vU, vU] [])) _
          refine XS.iloadN X1110.here hx rfl (hb hby at_202) rfl ?_
          refine XS.iconst X1110.here hx rfl (hb hby at_203) ?_
          refine XS.iand X1110.here hx rfl (hb hby at_204) rfl ?_
          refine XS.ifNo X1110.here hx rfl (hb hby at_205) rfl ((if0 _ _).trans (feq (hm : ¬ ((p2 &&& (4 : Int32)) = (0 : Int32)))).1) ?_
          refine XS.iconst X1110.here hx rfl (hb hby at_208) ?_
          refine XS.goto X1110.here hx rfl (pc0 := 209) (pc' := 213) rfl (hb hby at_209) (by decide) (by decide) ?_
          refine XS.istore X1110.here hx rfl (hb hby at_213) rfl (l' := #[vI p1, vI p2, vI p3, vI cn, vI 1, vR b1020, vR b1032, vR b1040, vR b1048, vR b1060, vR b1072, vR x1083, vR x1089, vR x1095, vR x1101, vI b1, vI b2, vI 1, vU, vU, vU, vU]) rfl ?_
          exact h)
      exact ⟨_, (1 : Int32), X1110, e1110, k1112, (Or.inr rfl)⟩
  replace X1113 := X1113.out
  obtain ⟨T1116, b4, X1116, e1116, k1116, hb4⟩ : ∃ (T' : State) (b4 : Int32), Like X1113 T' ∧ T'.heap = T1101.heap ∧ Rch p e below S0 T' (mkF m 229 #[vI p1, vI p2, vI p3, vI cn, vI 1, vR b1020, vR b1032, vR b1040, vR b1048, vR b1060, vR b1072, vR x1083, vR x1089, vR x1095, vR x1101, vI b1, vI b2, vI b3, vI b4, vU, vU, vU] []) ∧ (b4 = (0 : Int32) ∨ b4 = (1 : Int32)) := by
    by_cases hm : p2 &&& 8 = 0
    · have k1114 : Rch p e below S0 T1113 (mkF m 229 #[vI p1, vI p2, vI p3, vI cn, vI 1, vR b1020, vR b1032, vR b1040, vR b1048, vR b1060, vR b1072, vR x1083, vR x1089, vR x1095, vR x1101, vI b1, vI b2, vI b3, vI 0, vU, vU, vU] []) := fun t h => k1113 t (by
          show Steps p.tables e below (T1113.setTop (mkF m 215 #[vI p1, vI p2, vI p3, vI cn, vI 1, vR b1020, vR b1032, vR b1040, vR b1048, vR b1060, vR b1072, vR x1083, vR x1089, vR x1095, vR x1101, vI b1, vI b2, vI b3, vU, vU, vU, vU] [])) _
          refine XS.iloadN X1113.here hx rfl (hb hby at_215) rfl ?_
          refine XS.bipush X1113.here hx rfl (hb hby at_216) ?_
          refine XS.iand X1113.here hx rfl (hb hby at_218) rfl ?_
          refine XS.ifYes X1113.here hx rfl (pc0 := 219) (pc' := 226) rfl (hb hby at_219) rfl ((if0 _ _).trans (teq (hm : (p2 &&& (8 : Int32)) = (0 : Int32))).1) (by decide) (by decide) ?_
          refine XS.iconst X1113.here hx rfl (hb hby at_226) ?_
          refine XS.istore X1113.here hx rfl (hb hby at_227) rfl (l' := #[vI p1, vI p2, vI p3, vI cn, vI 1, vR b1020, vR b1032, vR b1040, vR b1048, vR b1060, vR b1072, vR x1083, vR x1089, vR x1095, vR x1101, vI b1, vI b2, vI b3, vI 0, vU, vU, vU]) rfl ?_
          exact h)
      exact ⟨_, (0 : Int32), X1113, e1113, k1114, (Or.inl rfl)⟩
    · have k1115 : Rch p e below S0 T1113 (mkF m 229 #[vI p1, vI p2, vI p3, vI cn, vI 1, vR b1020, vR b1032, vR b1040, vR b1048, vR b1060, vR b1072, vR x1083, vR x1089, vR x1095, vR x1101, vI b1, vI b2, vI b3, vI 1, vU, vU, vU] []) := fun t h => k1113 t (by
          show Steps p.tables e below (T1113.setTop (mkF m 215 #[vI p1, vI p2, vI p3, vI cn, vI 1, vR b1020, vR b1032, vR b1040, vR b1048, vR b1060, vR b1072, vR x1083, vR x1089, vR x1095, vR x1101, vI b1, vI b2, vI b3, vU, vU, vU, vU] [])) _
          refine XS.iloadN X1113.here hx rfl (hb hby at_215) rfl ?_
          refine XS.bipush X1113.here hx rfl (hb hby at_216) ?_
          refine XS.iand X1113.here hx rfl (hb hby at_218) rfl ?_
          refine XS.ifNo X1113.here hx rfl (hb hby at_219) rfl ((if0 _ _).trans (feq (hm : ¬ ((p2 &&& (8 : Int32)) = (0 : Int32)))).1) ?_
          refine XS.iconst X1113.here hx rfl (hb hby at_222) ?_
          refine XS.goto X1113.here hx rfl (pc0 := 223) (pc' := 227) rfl (hb hby at_223) (by decide) (by decide) ?_
          refine XS.istore X1113.here hx rfl (hb hby at_227) rfl (l' := #[vI p1, vI p2, vI p3, vI cn, vI 1, vR b1020, vR b1032, vR b1040, vR b1048, vR b1060, vR b1072, vR x1083, vR x1089, vR x1095, vR x1101, vI b1, vI b2, vI b3, vI 1, vU, vU, vU]) rfl ?_
          exact h)
      exact ⟨_, (1 : Int32), X1113, e1113, k1115, (Or.inr rfl)⟩
  replace X1116 := X1116.out
  obtain ⟨T1121, L1121, u1121, v1121, X1121, k1121, K1121, N1121, VA1121, VB1121, hr1⟩ : ∃ (T' : State) (L' : List Loc) (u' v' : Int64), LikeL X1116 T' L' ∧ Rch p e below S0 T' (mkF m 243 #[vI p1, vI p2, vI p3, vI cn, vI 1, vR b1020, vR b1032, vR b1040, vR b1048, vR b1060, vR b1072, vR x1083, vR x1089, vR x1095, vR x1101, vI b1, vI b2, vI b3, vI b4, vU, vU, vU] []) ∧ Keep T1101.heap T'.heap [rA, rB] ∧ Fr n0 L' ∧ Arv Z T'.heap rA kL .long (1 : Int32) [(.long u')] (.long (0 : Int64)) ∧ Arv Z T'.heap rB kL .long (1 : Int32) [(.long v')] (.long (0 : Int64)) ∧ RL b1 (7 : Int64) (7 : Int64) u' v' ((7 : Int64) &&& (-2 : Int64)) ((7 : Int64) &&& (-2 : Int64)) := by
    rcases hb1 with hbb | hbb
    · have k1117 : Rch p e below S0 T1116 (mkF m 243 #[vI p1, vI p2, vI p3, vI cn, vI 1, vR b1020, vR b1032, vR b1040, vR b1048, vR b1060, vR b1072, vR x1083, vR x1089, vR x1095, vR x1101, vI b1, vI b2, vI b3, vI b4, vU, vU, vU] []) := fun t h => k1116 t (by
          show Steps p.tables e below (T1116.setTop (mkF m 229 #[vI p1, vI p2, vI p3, vI cn, vI 1, vR b1020, vR b1032, vR b1040, vR b1048, vR b1060, vR b1072, vR x1083, vR x1089, vR x1095, vR x1101, vI b1, vI b2, vI b3, vI b4, vU, vU, vU] [])) _
          refine XS.iload X1116.here hx rfl (hb hby at_229) rfl ?_
          refine XS.ifYes X1116.here hx rfl (pc0 := 231) (pc' := 243) rfl (hb hby at_231) rfl ((if0 _ _).trans (teq (hbb : b1 = (0 : Int32))).1) (by decide) (by decide) ?_
          exact h)
      exact ⟨_, _, _, _, X1116, k1117, (by rw [e1116]; exact Keep.refl _ _), N1101, (by rw [e1116]; exact VA1101), (by rw [e1116]; exact VB1101), Or.inl ⟨hbb, rfl, rfl⟩⟩
    · have k1118 : Rch p e below S0 T1116 (mkF m 240 #[vI p1, vI p2, vI p3, vI cn, vI 1, vR b1020, vR b1032, vR b1040, vR b1048, vR b1060, vR b1072, vR x1083, vR x1089, vR x1095, vR x1101, vI b1, vI b2, vI b3, vI b4, vU, vU, vU] [(.ref x1083), (.ref b1020), (.ref b1072)]) := fun t h => k1116 t (by
          show Steps p.tables e below (T1116.setTop (mkF m 229 #[vI p1, vI p2, vI p3, vI cn, vI 1, vR b1020, vR b1032, vR b1040, vR b1048, vR b1060, vR b1072, vR x1083, vR x1089, vR x1095, vR x1101, vI b1, vI b2, vI b3, vI b4, vU, vU, vU] [])) _
          refine XS.iload X1116.here hx rfl (hb hby at_229) rfl ?_
          refine XS.ifNo X1116.here hx rfl (hb hby at_231) rfl ((if0 _ _).trans (feq ((by rw [hbb]; decide) : ¬ (b1 = (0 : Int32)))).1) ?_
          refine XS.aload X1116.here hx rfl (hb hby at_234) rfl rfl ?_
          refine XS.aload X1116.here hx rfl (hb hby at_236) rfl rfl ?_
          refine XS.aload X1116.here hx rfl (hb hby at_238) rfl rfl ?_
          exact h)
      obtain ⟨cq1119, kq1119, q1119a, q1119b, q1119c⟩ := isOf hZ e1116 E_b1072
      obtain ⟨_, _, ⟨T1119, L1119, kk1119, n1119⟩, -, X1119, ⟨Lc1119, hQ1119, l1119, y1119, z1119⟩, st1119⟩ := X1116.virtualBack hx (y := (⟨"com/example/lumenplan/lumenplan/simulation/Wavelengths", "release", "([I[I)V"⟩ : MethodName)) (z := (⟨"com/example/lumenplan/lumenplan/simulation/Wavelengths", "release", "([I[I)V"⟩ : MethodName)) hown (mvT hZ (hw _ (gm 55 rfl))) (mvT hZ (hw _ (gm 56 rfl))) (notFace_of_selects (args := #[]) (mvT hZ (hw _ (gm 58 rfl)))) (mvT hZ (hw _ (gm 58 rfl))) (mvT hZ (hw _ (gm 57 rfl))) (by decide) (backOf (W := 0) (rmE_1 l Z a0 hw []  b1072 aH rA rB kH kL cn wd (7 : Int64) (7 : Int64) b1020 k1020 x1083 kx1083 T1101.heap n0 O1103 ge_rA ge_rB Fh1077 VH VA1101 VB1101 V_b1020 Vx1083 (fun q => ne_b1072_rA q) (fun q => ne_b1072_rB q) (fun q => ne_aH_rA q) (fun q => ne_aH_rB q) (fun q => ne_rA_rB q) (fun q => ne_b1020_rA q) (fun q => ne_b1020_rB q) (fun q => (Ne.symm ne_rA_x1083) q) (fun q => (Ne.symm ne_rB_x1083) q)) hZ (hw _ (gm 59 rfl)) (hw _ (gm 7 rfl)) (by decide) (by decide)) q1119a q1119c (g := (mkF m 240 #[vI p1, vI p2, vI p3, vI cn, vI 1, vR b1020, vR b1032, vR b1040, vR b1048, vR b1060, vR b1072, vR x1083, vR x1089, vR x1095, vR x1101, vI b1, vI b2, vI b3, vI b4, vU, vU, vU] [(.ref x1083), (.ref b1020), (.ref b1072)])) rfl (by rw [hml]; rfl) (Steps.refl _) (argsL := [(.ref b1020), (.ref x1083)]) (rest := []) (lenOf pd_9 rfl) rfl (by show 2 * 0 + _ ≤ _; exact Nat.le_of_eq rfl) (hb hby at_240) (fun _ _ => ⟨rfl, e1116, (by decide : 13 + 0 ≤ _), (by decide : 23 + 0 ≤ _)⟩)
      dsimp only [Pt.U, Pt.locs, Pt.cells, Pt.slots] at X1119 l1119 y1119 z1119 st1119 hQ1119
      subst l1119 y1119 z1119
      obtain ⟨rfl, Nq1119, K1119, VA1119, VB1119⟩ := hQ1119
      have N1119 := Fr.app N1101 Nq1119
      have k1120 : Rch p e below S0 T1119 (mkF m 243 #[vI p1, vI p2, vI p3, vI cn, vI 1, vR b1020, vR b1032, vR b1040, vR b1048, vR b1060, vR b1072, vR x1083, vR x1089, vR x1095, vR x1101, vI b1, vI b2, vI b3, vI b4, vU, vU, vU] []) := fun t h => k1118 t (st1119.trans h)
      exact ⟨_, _, _, _, X1119, k1120, K1119, N1119, VA1119, VB1119, Or.inr ⟨hbb, rfl, rfl⟩⟩
  replace X1121 := X1121.out
  have O1122 := O1103.keep K1121 (allS ge_rA (allS ge_rB all0))
  replace V_b1020 := V_b1020.keep K1121 (ninS ne_b1020_rA (ninS ne_b1020_rB nin0))
  replace V_b1032 := V_b1032.keep K1121 (ninS ne_b1032_rA (ninS ne_b1032_rB nin0))
  replace V_b1040 := V_b1040.keep K1121 (ninS ne_b1040_rA (ninS ne_b1040_rB nin0))
  replace V_b1048 := V_b1048.keep K1121 (ninS ne_b1048_rA (ninS ne_b1048_rB nin0))
  replace V_b1060 := V_b1060.keep K1121 (ninS ne_b1060_rA (ninS ne_b1060_rB nin0))
  replace E_b1072 := E_b1072.keep K1121
  replace Fc1077 := Fc1077.keep K1121 (ninS ne_b1072_rA (ninS ne_b1072_rB nin0))
  replace Fw1077 := Fw1077.keep K1121 (ninS ne_b1072_rA (ninS ne_b1072_rB nin0))
  replace Fh1077 := Fh1077.keep K1121 (ninS ne_b1072_rA (ninS ne_b1072_rB nin0))
  replace VH := VH.keep K1121 (ninS ne_aH_rA (ninS ne_aH_rB nin0))
  replace Vx1083 := Vx1083.keep K1121 (ninS (Ne.symm ne_rA_x1083) (ninS (Ne.symm ne_rB_x1083) nin0))
  replace Vx1089 := Vx1089.keep K1121 (ninS (Ne.symm ne_rA_x1089) (ninS (Ne.symm ne_rB_x1089) nin0))
  replace Vx1095 := Vx1095.keep K1121 (ninS (Ne.symm ne_rA_x1095) (ninS (Ne.symm ne_rB_x1095) nin0))
  replace Vx1101 := Vx1101.keep K1121 (ninS (Ne.symm ne_rA_x1101) (ninS (Ne.symm ne_rB_x1101) nin0))
  obtain ⟨T1127, L1127, u1127, v1127, X1127, k1127, K1127, N1127, VA1127, VB1127, hr2⟩ : ∃ (T' : State) (L' : List Loc) (u' v' : Int64), LikeL X1121 T' L' ∧ Rch p e below S0 T' (mkF m 257 #[vI p1, vI p2, vI p3, vI cn, vI 1, vR b1020, vR b1032, vR b1040, vR b1048, vR b1060, vR b1072, vR x1083, vR x1089, vR x1095, vR x1101, vI b1, vI b2, vI b3, vI b4, vU, vU, vU] []) ∧ Keep T1121.heap T'.heap [rA, rB] ∧ Fr n0 L' ∧ Arv Z T'.heap rA kL .long (1 : Int32) [(.long u')] (.long (0 : Int64)) ∧ Arv Z T'.heap rB kL .long (1 : Int32) [(.long v')] (.long (0 : Int64)) ∧ RL b2 u1121 v1121 u' v' (u1121 &&& (-3 : Int64)) v1121 := by
    rcases hb2 with hbb | hbb
    · have k1123 : Rch p e below S0 T1121 (mkF m 257 #[vI p1, vI p2, vI p3, vI cn, vI 1, vR b1020, vR b1032, vR b1040, vR b1048, vR b1060, vR b1072, vR x1083, vR x1089, vR x1095, vR x1101, vI b1, vI b2, vI b3, vI b4, vU, vU, vU] []) := fun t h => k1121 t (by
          show Steps p.tables e below (T1121.setTop (mkF m 243 #[vI p1, vI p2, vI p3, vI cn, vI 1, vR b1020, vR b1032, vR b1040, vR b1048, vR b1060, vR b1072, vR x1083, vR x1089, vR x1095, vR x1101, vI b1, vI b2, vI b3, vI b4, vU, vU, vU] [])) _
          refine XS.iload X1121.here hx rfl (hb hby at_243) rfl ?_
          refine XS.ifYes X1121.here hx rfl (pc0 := 245) (pc' := 257) rfl (hb hby at_245) rfl ((if0 _ _).trans (teq (hbb : b2 = (0 : Int32))).1) (by decide) (by decide) ?_
          exact h)
      exact ⟨_, _, _, _, X1121, k1123, (Keep.refl _ _), N1121, VA1121, VB1121, Or.inl ⟨hbb, rfl, rfl⟩⟩
    · have k1124 : Rch p e below S0 T1121 (mkF m 254 #[vI p1, vI p2, vI p3, vI cn, vI 1, vR b1020, vR b1032, vR b1040, vR b1048, vR b1060, vR b1072, vR x1083, vR x1089, vR x1095, vR x1101, vI b1, vI b2, vI b3, vI b4, vU, vU, vU] [(.ref x1089), (.ref b1032), (.ref b1072)]) := fun t h => k1121 t (by
          show Steps p.tables e below (T1121.setTop (mkF m 243 #[vI p1, vI p2, vI p3, vI cn, vI 1, vR b1020, vR b1032, vR b1040, vR b1048, vR b1060, vR b1072, vR x1083, vR x1089, vR x1095, vR x1101, vI b1, vI b2, vI b3, vI b4, vU, vU, vU] [])) _
          refine XS.iload X1121.here hx rfl (hb hby at_243) rfl ?_
          refine XS.ifNo X1121.here hx rfl (hb hby at_245) rfl ((if0 _ _).trans (feq ((by rw [hbb]; decide) : ¬ (b2 = (0 : Int32)))).1) ?_
          refine XS.aload X1121.here hx rfl (hb hby at_248) rfl rfl ?_
          refine XS.aload X1121.here hx rfl (hb hby at_250) rfl rfl ?_
          refine XS.aload X1121.here hx rfl (hb hby at_252) rfl rfl ?_
          exact h)
      obtain ⟨cq1125, kq1125, q1125a, q1125b, q1125c⟩ := isOf hZ rfl E_b1072
      obtain ⟨_, _, ⟨T1125, L1125, kk1125, n1125⟩, -, X1125, ⟨Lc1125, hQ1125, l1125, y1125, z1125⟩, st1125⟩ := X1121.virtualBack hx (y := (⟨"com/example/lumenplan/lumenplan/simulation/Wavelengths", "release", "([I[I)V"⟩ : MethodName)) (z := (⟨"com/example/lumenplan/lumenplan/simulation/Wavelengths", "release", "([I[I)V"⟩ : MethodName)) hown (mvT hZ (hw _ (gm 55 rfl))) (mvT hZ (hw _ (gm 56 rfl))) (notFace_of_selects (args := #[]) (mvT hZ (hw _ (gm 58 rfl)))) (mvT hZ (hw _ (gm 58 rfl))) (mvT hZ (hw _ (gm 57 rfl))) (by decide) (backOf (W := 0) (rmE_2 l Z a0 hw []  b1072 aH rA rB kH kL cn wd u1121 v1121 b1032 k1032 x1089 kx1089 T1121.heap n0 O1122 ge_rA ge_rB Fh1077 VH VA1121 VB1121 V_b1032 Vx1089 (fun q => ne_b1072_rA q) (fun q => ne_b1072_rB q) (fun q => ne_aH_rA q) (fun q => ne_aH_rB q) (fun q => ne_rA_rB q) (fun q => ne_b1032_rA q) (fun q => ne_b1032_rB q) (fun q => (Ne.symm ne_rA_x1089) q) (fun q => (Ne.symm ne_rB_x1089) q)) hZ (hw _ (gm 59 rfl)) (hw _ (gm 7 rfl)) (by decide) (by decide)) q1125a q1125c (g := (mkF m 254 #[vI p1, vI p2, vI p3, vI cn, vI 1, vR b1020, vR b1032, vR b1040, vR b1048, vR b1060, vR b1072, vR x1083, vR x1089, vR x1095, vR x1101, vI b1, vI b2, vI b3, vI b4, vU, vU, vU] [(.ref x1089), (.ref b1032), (.ref b1072)])) rfl (by rw [hml]; rfl) (Steps.refl _) (argsL := [(.ref b1032), (.ref x1089)]) (rest := []) (lenOf pd_9 rfl) rfl (by show 2 * 0 + _ ≤ _; exact Nat.le_of_eq rfl) (hb hby at_254) (fun _ _ => ⟨rfl, rfl, (by decide : 13 + 0 ≤ _), (by decide : 23 + 0 ≤ _)⟩)
      dsimp only [Pt.U, Pt.locs, Pt.cells, Pt.slots] at X1125 l1125 y1125 z1125 st1125 hQ1125
      subst l1125 y1125 z1125
      obtain ⟨rfl, Nq1125, K1125, VA1125, VB1125⟩ := hQ1125
      have N1125 := Fr.app N1121 Nq1125
      have k1126 : Rch p e below S0 T1125 (mkF m 257 #[vI p1, vI p2, vI p3, vI cn, vI 1, vR b1020, vR b1032, vR b1040, vR b1048, vR b1060, vR b1072, vR x1083, vR x1089, vR x1095, vR x1101, vI b1, vI b2, vI b3, vI b4, vU, vU, vU] []) := fun t h => k1124 t (st1125.trans h)
      exact ⟨_, _, _, _, X1125, k1126, K1125, N1125, VA1125, VB1125, Or.inr ⟨hbb, rfl, rfl⟩⟩
  replace X1127 := X1127.out
  have O1128 := O1122.keep K1127 (allS ge_rA (allS ge_rB all0))
  replace V_b1020 := V_b1020.keep K1127 (ninS ne_b1020_rA (ninS ne_b1020_rB nin0))
  replace V_b1032 := V_b1032.keep K1127 (ninS ne_b1032_rA (ninS ne_b1032_rB nin0))
  replace V_b1040 := V_b1040.keep K1127 (ninS ne_b1040_rA (ninS ne_b1040_rB nin0))
  replace V_b1048 := V_b1048.keep K1127 (ninS ne_b1048_rA (ninS ne_b1048_rB nin0))
  replace V_b1060 := V_b1060.keep K1127 (ninS ne_b1060_rA (ninS ne_b1060_rB nin0))
  replace E_b1072 := E_b1072.keep K1127
  replace Fc1077 := Fc1077.keep K1127 (ninS ne_b1072_rA (ninS ne_b1072_rB nin0))
  replace Fw1077 := Fw1077.keep K1127 (ninS ne_b1072_rA (ninS ne_b1072_rB nin0))
  replace Fh1077 := Fh1077.keep K1127 (ninS ne_b1072_rA (ninS ne_b1072_rB nin0))
  replace VH := VH.keep K1127 (ninS ne_aH_rA (ninS ne_aH_rB nin0))
  replace Vx1083 := Vx1083.keep K1127 (ninS (Ne.symm ne_rA_x1083) (ninS (Ne.symm ne_rB_x1083) nin0))
  replace Vx1089 := Vx1089.keep K1127 (ninS (Ne.symm ne_rA_x1089) (ninS (Ne.symm ne_rB_x1089) nin0))
  replace Vx1095 := Vx1095.keep K1127 (ninS (Ne.symm ne_rA_x1095) (ninS (Ne.symm ne_rB_x1095) nin0))
  replace Vx1101 := Vx1101.keep K1127 (ninS (Ne.symm ne_rA_x1101) (ninS (Ne.symm ne_rB_x1101) nin0))
  obtain ⟨T1133, L1133, u1133, v1133, X1133, k1133, K1133, N1133, VA1133, VB1133, hr3⟩ : ∃ (T' : State) (L' : List Loc) (u' v' : Int64), LikeL X1127 T' L' ∧ Rch p e below S0 T' (mkF m 271 #[vI p1, vI p2, vI p3, vI cn, vI 1, vR b1020, vR b1032, vR b1040, vR b1048, vR b1060, vR b1072, vR x1083, vR x1089, vR x1095, vR x1101, vI b1, vI b2, vI b3, vI b4, vU, vU, vU] []) ∧ Keep T1127.heap T'.heap [rA, rB] ∧ Fr n0 L' ∧ Arv Z T'.heap rA kL .long (1 : Int32) [(.long u')] (.long (0 : Int64)) ∧ Arv Z T'.heap rB kL .long (1 : Int32) [(.long v')] (.long (0 : Int64)) ∧ RL b3 u1127 v1127 u' v' u1127 (v1127 &&& (-3 : Int64)) := by
    rcases hb3 with hbb | hbb
    · have k1129 : Rch p e below S0 T1127 (mkF m 271 #[vI p1, vI p2, vI p3, vI cn, vI 1, vR b1020, vR b1032, vR b1040, vR b1048, vR b1060, vR b1072, vR x1083, vR x1089, vR x1095, vR x1101, vI b1, vI b2, vI b3, vI b4, vU, vU, vU] []) := fun t h => k1127 t (by
          show Steps p.tables e below (T1127.setTop (mkF m 257 #[vI p1, vI p2, vI p3, vI cn, vI 1, vR b1020, vR b1032, vR b1040, vR b1048, vR b1060, vR b1072, vR x1083, vR x1089, vR x1095, vR x1101, vI b1, vI b2, vI b3, vI b4, vU, vU, vU] [])) _
          refine XS.iload X1127.here hx rfl (hb hby at_257) rfl ?_
          refine XS.ifYes X1127.here hx rfl (pc0 := 259) (pc' := 271) rfl (hb hby at_259) rfl ((if0 _ _).trans (teq (hbb : b3 = (0 : Int32))).1) (by decide) (by decide) ?_
          exact h)
      exact ⟨_, _, _, _, X1127, k1129, (Keep.refl _ _), N1127, VA1127, VB1127, Or.inl ⟨hbb, rfl, rfl⟩⟩
    · have k1130 : Rch p e below S0 T1127 (mkF m 268 #[vI p1, vI p2, vI p3, vI cn, vI 1, vR b1020, vR b1032, vR b1040, vR b1048, vR b1060, vR b1072, vR x1083, vR x1089, vR x1095, vR x1101, vI b1, vI b2, vI b3, vI b4, vU, vU, vU] [(.ref x1095), (.ref b1040), (.ref b1072)]) := fun t h => k1127 t (by
          show Steps p.tables e below (T1127.setTop (mkF m 257 #[vI p1, vI p2, vI p3, vI cn, vI 1, vR b1020, vR b1032, vR b1040, vR b1048, vR b1060, vR b1072, vR x1083, vR x1089, vR x1095, vR x1101, vI b1, vI b2, vI b3, vI b4, vU, vU, vU] [])) _
          refine XS.iload X1127.here hx rfl (hb hby at_257) rfl ?_
          refine XS.ifNo X1127.here hx rfl (hb hby at_259) rfl ((if0 _ _).trans (feq ((by rw [hbb]; decide) : ¬ (b3 = (0 : Int32)))).1) ?_
          refine XS.aload X1127.here hx rfl (hb hby at_262) rfl rfl ?_
          refine XS.aload X1127.here hx rfl (hb hby at_264) rfl rfl ?_
          refine XS.aload X1127.here hx rfl (hb hby at_266) rfl rfl ?_
          exact h)
      obtain ⟨cq1131, kq1131, q1131a, q1131b, q1131c⟩ := isOf hZ rfl E_b1072
      obtain ⟨_, _, ⟨T1131, L1131, kk1131, n1131⟩, -, X1131, ⟨Lc1131, hQ1131, l1131, y1131, z1131⟩, st1131⟩ := X1127.virtualBack hx (y := (⟨"com/example/lumenplan/lumenplan/simulation/Wavelengths", "release", "([I[I)V"⟩ : MethodName)) (z := (⟨"com/example/lumenplan/lumenplan/simulation/Wavelengths", "release", "([I[I)V"⟩ : MethodName)) hown (mvT hZ (hw _ (gm 55 rfl))) (mvT hZ (hw _ (gm 56 rfl))) (notFace_of_selects (args := #[]) (mvT hZ (hw _ (gm 58 rfl)))) (mvT hZ (hw _ (gm 58 rfl))) (mvT hZ (hw _ (gm 57 rfl))) (by decide) (backOf (W := 0) (rmE_3 l Z a0 hw []  b1072 aH rA rB kH kL cn wd u1127 v1127 b1040 k1040 x1095 kx1095 T1127.heap n0 O1128 ge_rA ge_rB Fh1077 VH VA1127 VB1127 V_b1040 Vx1095 (fun q => ne_b1072_rA q) (fun q => ne_b1072_rB q) (fun q => ne_aH_rA q) (fun q => ne_aH_rB q) (fun q => ne_rA_rB q) (fun q => ne_b1040_rA q) (fun q => ne_b1040_rB q) (fun q => (Ne.symm ne_rA_x1095) q) (fun q => (Ne.symm ne_rB_x1095) q)) hZ (hw _ (gm 59 rfl)) (hw _ (gm 7 rfl)) (by decide) (by decide)) q1131a q1131c (g := (mkF m 268 #[vI p1, vI p2, vI p3, vI cn, vI 1, vR b1020, vR b1032, vR b1040, vR b1048, vR b1060, vR b1072, vR x1083, vR x1089, vR x1095, vR x1101, vI b1, vI b2, vI b3, vI b4, vU, vU, vU] [(.ref x1095), (.ref b1040), (.ref b1072)])) rfl (by rw [hml]; rfl) (Steps.refl _) (argsL := [(.ref b1040), (.ref x1095)]) (rest := []) (lenOf pd_9 rfl) rfl (by show 2 * 0 + _ ≤ _; exact Nat.le_of_eq rfl) (hb hby at_268) (fun _ _ => ⟨rfl, rfl, (by decide : 13 + 0 ≤ _), (by decide : 23 + 0 ≤ _)⟩)
      dsimp only [Pt.U, Pt.locs, Pt.cells, Pt.slots] at X1131 l1131 y1131 z1131 st1131 hQ1131
      subst l1131 y1131 z1131
      obtain ⟨rfl, Nq1131, K1131, VA1131, VB1131⟩ := hQ1131
      have N1131 := Fr.app N1127 Nq1131
      have k1132 : Rch p e below S0 T1131 (mkF m 271 #[vI p1, vI p2, vI p3, vI cn, vI 1, vR b1020, vR b1032, vR b1040, vR b1048, vR b1060, vR b1072, vR x1083, vR x1089, vR x1095, vR x1101, vI b1, vI b2, vI b3, vI b4, vU, vU, vU] []) := fun t h => k1130 t (st1131.trans h)
      exact ⟨_, _, _, _, X1131, k1132, K1131, N1131, VA1131, VB1131, Or.inr ⟨hbb, rfl, rfl⟩⟩
  replace X1133 := X1133.out
  have O1134 := O1128.keep K1133 (allS ge_rA (allS ge_rB all0))
  replace V_b1020 := V_b1020.keep K1133 (ninS ne_b1020_rA (ninS ne_b1020_rB nin0))
  replace V_b1032 := V_b1032.keep K1133 (ninS ne_b1032_rA (ninS ne_b1032_rB nin0))
  replace V_b1040 := V_b1040.keep K1133 (ninS ne_b1040_rA (ninS ne_b1040_rB nin0))
  replace V_b1048 := V_b1048.keep K1133 (ninS ne_b1048_rA (ninS ne_b1048_rB nin0))
  replace V_b1060 := V_b1060.keep K1133 (ninS ne_b1060_rA (ninS ne_b1060_rB nin0))
  replace E_b1072 := E_b1072.keep K1133
  replace Fc1077 := Fc1077.keep K1133 (ninS ne_b1072_rA (ninS ne_b1072_rB nin0))
  replace Fw1077 := Fw1077.keep K1133 (ninS ne_b1072_rA (ninS ne_b1072_rB nin0))
  replace Fh1077 := Fh1077.keep K1133 (ninS ne_b1072_rA (ninS ne_b1072_rB nin0))
  replace VH := VH.keep K1133 (ninS ne_aH_rA (ninS ne_aH_rB nin0))
  replace Vx1083 := Vx1083.keep K1133 (ninS (Ne.symm ne_rA_x1083) (ninS (Ne.symm ne_rB_x1083) nin0))
  replace Vx1089 := Vx1089.keep K1133 (ninS (Ne.symm ne_rA_x1089) (ninS (Ne.symm ne_rB_x1089) nin0))
  replace Vx1095 := Vx1095.keep K1133 (ninS (Ne.symm ne_rA_x1095) (ninS (Ne.symm ne_rB_x1095) nin0))
  replace Vx1101 := Vx1101.keep K1133 (ninS (Ne.symm ne_rA_x1101) (ninS (Ne.symm ne_rB_x1101) nin0))
  obtain ⟨T1139, L1139, u1139, v1139, X1139, k1139, K1139, N1139, VA1139, VB1139, hr4⟩ : ∃ (T' : State) (L' : List Loc) (u' v' : Int64), LikeL X1133 T' L' ∧ Rch p e below S0 T' (mkF m 285 #[vI p1, vI p2, vI p3, vI cn, vI 1, vR b1020, vR b1032, vR b1040, vR b1048, vR b1060, vR b1072, vR x1083, vR x1089, vR x1095, vR x1101, vI b1, vI b2, vI b3, vI b4, vU, vU, vU] []) ∧ Keep T1133.heap T'.heap [rA, rB] ∧ Fr n0 L' ∧ Arv Z T'.heap rA kL .long (1 : Int32) [(.long u')] (.long (0 : Int64)) ∧ Arv Z T'.heap rB kL .long (1 : Int32) [(.long v')] (.long (0 : Int64)) ∧ RL b4 u1133 v1133 u' v' (u1133 &&& (-5 : Int64)) (v1133 &&& (-5 : Int64)) := by
    rcases hb4 with hbb | hbb
    · have k1135 : Rch p e below S0 T1133 (mkF m 285 #[vI p1, vI p2, vI p3, vI cn, vI 1, vR b1020, vR b1032, vR b1040, vR b1048, vR b1060, vR b1072, vR x1083, vR x1089, vR x1095, vR x1101, vI b1, vI b2, vI b3, vI b4, vU, vU, vU] []) := fun t h => k1133 t (by
          show Steps p.tables e below (T1133.setTop (mkF m 271 #[vI p1, vI p2, vI p3, vI cn, vI 1, vR b1020, vR b1032, vR b1040, vR b1048, vR b1060, vR b1072, vR x1083, vR x1089, vR x1095, vR x1101, vI b1, vI b2, vI b3, vI b4, vU, vU, vU] [])) _
          refine XS.iload X1133.here hx rfl (hb hby at_271) rfl ?_
          refine XS.ifYes X1133.here hx rfl (pc0 := 273) (pc' := 285) rfl (hb hby at_273) rfl ((if0 _ _).trans (teq (hbb : b4 = (0 : Int32))).1) (by decide) (by decide) ?_
          exact h)
      exact ⟨_, _, _, _, X1133, k1135, (Keep.refl _ _), N1133, VA1133, VB1133, Or.inl ⟨hbb, rfl, rfl⟩⟩
    · have k1136 : Rch p e below S0 T1133 (mkF m 282 #[vI p1, vI p2, vI p3, vI cn, vI 1, vR b1020, vR b1032, vR b1040, vR b1048, vR b1060, vR b1072, vR x1083, vR x1089, vR x1095, vR x1101, vI b1, vI b2, vI b3, vI b4, vU, vU, vU] [(.ref x1101), (.ref b1048), (.ref b1072)]) := fun t h => k1133 t (by
          show Steps p.tables e below (T1133.setTop (mkF m 271 #[vI p1, vI p2, vI p3, vI cn, vI 1, vR b1020, vR b1032, vR b1040, vR b1048, vR b1060, vR b1072, vR x1083, vR x1089, vR x1095, vR x1101, vI b1, vI b2, vI b3, vI b4, vU, vU, vU] [])) _
          refine XS.iload X1133.here hx rfl (hb hby at_271) rfl ?_
          refine XS.ifNo X1133.here hx rfl (hb hby at_273) rfl ((if0 _ _).trans (feq ((by rw [hbb]; decide) : ¬ (b4 = (0 : Int32)))).1) ?_
          refine XS.aload X1133.here hx rfl (hb hby at_276) rfl rfl ?_
          refine XS.aload X1133.here hx rfl (hb hby at_278) rfl rfl ?_
          refine XS.aload X1133.here hx rfl (hb hby at_280) rfl rfl ?_
          exact h)
      obtain ⟨cq1137, kq1137, q1137a, q1137b, q1137c⟩ := isOf hZ rfl E_b1072
      obtain ⟨_, _, ⟨T1137, L1137, kk1137, n1137⟩, -, X1137, ⟨Lc1137, hQ1137, l1137, y1137, z1137⟩, st1137⟩ := X1133.virtualBack hx (y := (⟨"com/example/lumenplan/lumenplan/simulation/Wavelengths", "release", "([I[I)V"⟩ : MethodName)) (z := (⟨"com/example/lumenplan/lumenplan/simulation/Wavelengths", "release", "([I[I)V"⟩ : MethodName)) hown (mvT hZ (hw _ (gm 55 rfl))) (mvT hZ (hw _ (gm 56 rfl))) (notFace_of_selects (args := #[]) (mvT hZ (hw _ (gm 58 rfl)))) (mvT hZ (hw _ (gm 58 rfl))) (mvT hZ (hw _ (gm 57 rfl))) (by decide) (backOf (W := 0) (rmE_4f l Z a0 hw []  b1072 aH rA rB kH kL cn wd u1133 v1133 b1048 k1048 x1101 kx1101 T1133.heap n0 O1134 ge_rA ge_rB Fh1077 VH VA1133 VB1133 V_b1048 Vx1101 (fun q => ne_b1072_rA q) (fun q => ne_b1072_rB q) (fun q => ne_aH_rA q) (fun q => ne_aH_rB q) (fun q => ne_rA_rB q) (fun q => ne_b1048_rA q) (fun q => ne_b1048_rB q) (fun q => (Ne.symm ne_rA_x1101) q) (fun q => (Ne.symm ne_rB_x1101) q)) hZ (hw _ (gm 59 rfl)) (hw _ (gm 7 rfl)) (by decide) (by decide)) q1137a q1137c (g := (mkF m 282 #[vI p1, vI p2, vI p3, vI cn, vI 1, vR b1020, vR b1032, vR b1040, vR b1048, vR b1060, vR b1072, vR x1083, vR x1089, vR x1095, vR x1101, vI b1, vI b2, vI b3, vI b4, vU, vU, vU] [(.ref x1101), (.ref b1048), (.ref b1072)])) rfl (by rw [hml]; rfl) (Steps.refl _) (argsL := [(.ref b1048), (.ref x1101)]) (rest := []) (lenOf pd_9 rfl) rfl (by show 2 * 0 + _ ≤ _; exact Nat.le_of_eq rfl) (hb hby at_282) (fun _ _ => ⟨rfl, rfl, (by decide : 13 + 0 ≤ _), (by decide : 23 + 0 ≤ _)⟩)
      dsimp only [Pt.U, Pt.locs, Pt.cells, Pt.slots] at X1137 l1137 y1137 z1137 st1137 hQ1137
      subst l1137 y1137 z1137
      obtain ⟨rfl, Nq1137, K1137, VA1137, VB1137⟩ := hQ1137
      have N1137 := Fr.app N1133 Nq1137
      have k1138 : Rch p e below S0 T1137 (mkF m 285 #[vI p1, vI p2, vI p3, vI cn, vI 1, vR b1020, vR b1032, vR b1040, vR b1048, vR b1060, vR b1072, vR x1083, vR x1089, vR x1095, vR x1101, vI b1, vI b2, vI b3, vI b4, vU, vU, vU] []) := fun t h => k1136 t (st1137.trans h)
      exact ⟨_, _, _, _, X1137, k1138, K1137, N1137, VA1137, VB1137, Or.inr ⟨hbb, rfl, rfl⟩⟩
  replace X1139 := X1139.out
  have O1140 := O1134.keep K1139 (allS ge_rA (allS ge_rB all0))
  replace V_b1020 := V_b1020.keep K1139 (ninS ne_b1020_rA (ninS ne_b1020_rB nin0))
  replace V_b1032 := V_b1032.keep K1139 (ninS ne_b1032_rA (ninS ne_b1032_rB nin0))
  replace V_b1040 := V_b1040.keep K1139 (ninS ne_b1040_rA (ninS ne_b1040_rB nin0))
  replace V_b1048 := V_b1048.keep K1139 (ninS ne_b1048_rA (ninS ne_b1048_rB nin0))
  replace V_b1060 := V_b1060.keep K1139 (ninS ne_b1060_rA (ninS ne_b1060_rB nin0))
  replace E_b1072 := E_b1072.keep K1139
  replace Fc1077 := Fc1077.keep K1139 (ninS ne_b1072_rA (ninS ne_b1072_rB nin0))
  replace Fw1077 := Fw1077.keep K1139 (ninS ne_b1072_rA (ninS ne_b1072_rB nin0))
  replace Fh1077 := Fh1077.keep K1139 (ninS ne_b1072_rA (ninS ne_b1072_rB nin0))
  replace VH := VH.keep K1139 (ninS ne_aH_rA (ninS ne_aH_rB nin0))
  replace Vx1083 := Vx1083.keep K1139 (ninS (Ne.symm ne_rA_x1083) (ninS (Ne.symm ne_rB_x1083) nin0))
  replace Vx1089 := Vx1089.keep K1139 (ninS (Ne.symm ne_rA_x1089) (ninS (Ne.symm ne_rB_x1089) nin0))
  replace Vx1095 := Vx1095.keep K1139 (ninS (Ne.symm ne_rA_x1095) (ninS (Ne.symm ne_rB_x1095) nin0))
  replace Vx1101 := Vx1101.keep K1139 (ninS (Ne.symm ne_rA_x1101) (ninS (Ne.symm ne_rB_x1101) nin0))
  obtain ⟨r0, r1, hL0, hL1, hN0, hN1⟩ := own_fin hr1 hr2 hr3 hr4
  by_cases c0 : r0 < cn
  · by_cases c1 : r1 < cn
    · have k1154 : Rch p e below S0 T1139 (mkF m 292 #[vI p1, vI p2, vI p3, vI cn, vI 1, vR b1020, vR b1032, vR b1040, vR b1048, vR b1060, vR b1072, vR x1083, vR x1089, vR x1095, vR x1101, vI b1, vI b2, vI b3, vI b4, vU, vU, vU] [(.int cn), (.int b4), (.int b2), (.int b1)]) := fun t h => k1139 t (by
          show Steps p.tables e below (T1139.setTop (mkF m 285 #[vI p1, vI p2, vI p3, vI cn, vI 1, vR b1020, vR b1032, vR b1040, vR b1048, vR b1060, vR b1072, vR x1083, vR x1089, vR x1095, vR x1101, vI b1, vI b2, vI b3, vI b4, vU, vU, vU] [])) _
          refine XS.iload X1139.here hx rfl (hb hby at_285) rfl ?_
          refine XS.iload X1139.here hx rfl (hb hby at_287) rfl ?_
          refine XS.iload X1139.here hx rfl (hb hby at_289) rfl ?_
          refine XS.iloadN X1139.here hx rfl (hb hby at_291) rfl ?_
          exact h)
      obtain ⟨_, _, ⟨T1155, L1155, kk1155, n1155⟩, -, X1155, ⟨Lc1155, hQ1155, l1155, y1155, z1155⟩, st1155⟩ := Jvm.LawKit.callS X1139 hx (y := (⟨"com/example/lumenplan/lumenplan/simulation/WavelengthsReleasePinLaw", "lowest", "(ZZZI)I"⟩ : MethodName)) hown (mvT hZ (hw _ (gm 60 rfl))) (mvT hZ (hw _ (gm 61 rfl))) (mvT hZ (hw _ (gm 62 rfl))) (mvT hZ (hw _ (gm 63 rfl))) (by decide) (backOf (W := 0) (rmLW l Z a0 hw [] b1 b2 b4 cn r0 r0 T1139.heap n0 O1140 hL0 (Or.inl ⟨c0, rfl⟩)) hZ (hw _ (gm 63 rfl)) (hw _ (gm 62 rfl)) (by decide) (by decide)) (g := (mkF m 292 #[vI p1, vI p2, vI p3, vI cn, vI 1, vR b1020, vR b1032, vR b1040, vR b1048, vR b1060, vR b1072, vR x1083, vR x1089, vR x1095, vR x1101, vI b1, vI b2, vI b3, vI b4, vU, vU, vU] [(.int cn), (.int b4), (.int b2), (.int b1)])) rfl (by rw [hml]; rfl) (argsL := [(.int b1), (.int b2), (.int b4), (.int cn)]) (rest := []) (lenOf pd_10 rfl) rfl (by show 2 * 0 + _ ≤ _; exact Nat.le_of_eq rfl) (hb hby at_292) (fun _ _ => ⟨rfl, rfl, (by decide : 13 + 0 ≤ _), (by decide : 23 + 0 ≤ _)⟩)
      dsimp only [Pt.U, Pt.locs, Pt.cells, Pt.slots] at X1155 l1155 y1155 z1155 st1155 hQ1155
      subst l1155 y1155 z1155
      obtain ⟨rfl, Nq1155, hh1155⟩ := hQ1155
      have N1155 := Fr.app N1139 Nq1155
      have k1156 : Rch p e below S0 T1155 (mkF m 295 #[vI p1, vI p2, vI p3, vI cn, vI 1, vR b1020, vR b1032, vR b1040, vR b1048, vR b1060, vR b1072, vR x1083, vR x1089, vR x1095, vR x1101, vI b1, vI b2, vI b3, vI b4, vU, vU, vU] [(.int r0)]) := fun t h => k1154 t (st1155 t h)
      have k1157 : Rch p e below S0 T1155 (mkF m 304 #[vI p1, vI p2, vI p3, vI cn, vI 1, vR b1020, vR b1032, vR b1040, vR b1048, vR b1060, vR b1072, vR x1083, vR x1089, vR x1095, vR x1101, vI b1, vI b2, vI b3, vI b4, vI r0, vU, vU] [(.int cn), (.int b4), (.int b3), (.int b1)]) := fun t h => k1156 t (by
          show Steps p.tables e below (T1155.setTop (mkF m 295 #[vI p1, vI p2, vI p3, vI cn, vI 1, vR b1020, vR b1032, vR b1040, vR b1048, vR b1060, vR b1072, vR x1083, vR x1089, vR x1095, vR x1101, vI b1, vI b2, vI b3, vI b4, vU, vU, vU] [(.int r0)])) _
          refine XS.istore X1155.here hx rfl (hb hby at_295) rfl (l' := #[vI p1, vI p2, vI p3, vI cn, vI 1, vR b1020, vR b1032, vR b1040, vR b1048, vR b1060, vR b1072, vR x1083, vR x1089, vR x1095, vR x1101, vI b1, vI b2, vI b3, vI b4, vI r0, vU, vU]) rfl ?_
          refine XS.iload X1155.here hx rfl (hb hby at_297) rfl ?_
          refine XS.iload X1155.here hx rfl (hb hby at_299) rfl ?_
          refine XS.iload X1155.here hx rfl (hb hby at_301) rfl ?_
          refine XS.iloadN X1155.here hx rfl (hb hby at_303) rfl ?_
          exact h)
      obtain ⟨_, _, ⟨T1158, L1158, kk1158, n1158⟩, -, X1158, ⟨Lc1158, hQ1158, l1158, y1158, z1158⟩, st1158⟩ := Jvm.LawKit.callS X1155 hx (y := (⟨"com/example/lumenplan/lumenplan/simulation/WavelengthsReleasePinLaw", "lowest", "(ZZZI)I"⟩ : MethodName)) hown (mvT hZ (hw _ (gm 60 rfl))) (mvT hZ (hw _ (gm 61 rfl))) (mvT hZ (hw _ (gm 62 rfl))) (mvT hZ (hw _ (gm 63 rfl))) (by decide) (backOf (W := 0) (rmLW l Z a0 hw [] b1 b3 b4 cn r1 r1 T1139.heap n0 O1140 hL1 (Or.inl ⟨c1, rfl⟩)) hZ (hw _ (gm 63 rfl)) (hw _ (gm 62 rfl)) (by decide) (by decide)) (g := (mkF m 304 #[vI p1, vI p2, vI p3, vI cn, vI 1, vR b1020, vR b1032, vR b1040, vR b1048, vR b1060, vR b1072, vR x1083, vR x1089, vR x1095, vR x1101, vI b1, vI b2, vI b3, vI b4, vI r0, vU, vU] [(.int cn), (.int b4), (.int b3), (.int b1)])) rfl (by rw [hml]; rfl) (argsL := [(.int b1), (.int b3), (.int b4), (.int cn)]) (rest := []) (lenOf pd_10 rfl) rfl (by show 2 * 0 + _ ≤ _; exact Nat.le_of_eq rfl) (hb hby at_304) (fun _ _ => ⟨rfl, hh1155, (by decide : 13 + 0 ≤ _), (by decide : 23 + 0 ≤ _)⟩)
      dsimp only [Pt.U, Pt.locs, Pt.cells, Pt.slots] at X1158 l1158 y1158 z1158 st1158 hQ1158
      subst l1158 y1158 z1158
      obtain ⟨rfl, Nq1158, hh1158⟩ := hQ1158
      have N1158 := Fr.app N1155 Nq1158
      have k1159 : Rch p e below S0 T1158 (mkF m 307 #[vI p1, vI p2, vI p3, vI cn, vI 1, vR b1020, vR b1032, vR b1040, vR b1048, vR b1060, vR b1072, vR x1083, vR x1089, vR x1095, vR x1101, vI b1, vI b2, vI b3, vI b4, vI r0, vU, vU] [(.int r1)]) := fun t h => k1157 t (st1158 t h)
      have k1161 : Rch p e below S0 T1158 (mkF m 313 #[vI p1, vI p2, vI p3, vI cn, vI 1, vR b1020, vR b1032, vR b1040, vR b1048, vR b1060, vR b1072, vR x1083, vR x1089, vR x1095, vR x1101, vI b1, vI b2, vI b3, vI b4, vI r0, vI r1, vU] [(.ref b1060), (.ref b1072)]) := fun t h => k1159 t (by
          show Steps p.tables e below (T1158.setTop (mkF m 307 #[vI p1, vI p2, vI p3, vI cn, vI 1, vR b1020, vR b1032, vR b1040, vR b1048, vR b1060, vR b1072, vR x1083, vR x1089, vR x1095, vR x1101, vI b1, vI b2, vI b3, vI b4, vI r0, vU, vU] [(.int r1)])) _
          refine XS.istore X1158.here hx rfl (hb hby at_307) rfl (l' := #[vI p1, vI p2, vI p3, vI cn, vI 1, vR b1020, vR b1032, vR b1040, vR b1048, vR b1060, vR b1072, vR x1083, vR x1089, vR x1095, vR x1101, vI b1, vI b2, vI b3, vI b4, vI r0, vI r1, vU]) rfl ?_
          refine XS.aload X1158.here hx rfl (hb hby at_309) rfl rfl ?_
          refine XS.aload X1158.here hx rfl (hb hby at_311) rfl rfl ?_
          exact h)
      obtain ⟨T1160, X1160, e1160, st1160⟩ := getS2 X1158 hx hZ hown (host := "") (Or.inl (hw _ (gm 64 rfl))) Via.refl hh1158 (SF.ext O1140.2) (g := (mkF m 313 #[vI p1, vI p2, vI p3, vI cn, vI 1, vR b1020, vR b1032, vR b1040, vR b1048, vR b1060, vR b1072, vR x1083, vR x1089, vR x1095, vR x1101, vI b1, vI b2, vI b3, vI b4, vI r0, vI r1, vU] [(.ref b1060), (.ref b1072)])) rfl (hb hby at_313)
      have k1162 : Rch p e below S0 T1160 (mkF m 316 #[vI p1, vI p2, vI p3, vI cn, vI 1, vR b1020, vR b1032, vR b1040, vR b1048, vR b1060, vR b1072, vR x1083, vR x1089, vR x1095, vR x1101, vI b1, vI b2, vI b3, vI b4, vI r0, vI r1, vU] [(.ref wF), (.ref b1060), (.ref b1072)]) := fun t h => k1161 t (st1160 t h)
      obtain ⟨cq1163, kq1163, q1163a, q1163b, q1163c⟩ := isOf hZ e1160 E_b1072
      obtain ⟨_, _, ⟨T1163, L1163, kk1163, n1163⟩, -, X1163, ⟨Lc1163, hQ1163, l1163, y1163, z1163⟩, st1163⟩ := X1160.virtualBack hx (y := (⟨"com/example/lumenplan/lumenplan/simulation/Wavelengths", "take", "([ILcom/example/lumenplan/lumenplan/simulation/Conversion;)[I"⟩ : MethodName)) (z := (⟨"com/example/lumenplan/lumenplan/simulation/Wavelengths", "take", "([ILcom/example/lumenplan/lumenplan/simulation/Conversion;)[I"⟩ : MethodName)) hown (mvT hZ (hw _ (gm 27 rfl))) (mvT hZ (hw _ (gm 28 rfl))) (notFace_of_selects (args := #[]) (mvT hZ (hw _ (gm 30 rfl)))) (mvT hZ (hw _ (gm 30 rfl))) (mvT hZ (hw _ (gm 29 rfl))) (by decide) (backOf (W := 0) (rmT_OK l Z a0 hw []  b1072 aH rA rB kH kL cn wd u1139 v1139 b1060 k1060 r0 r1 wN wF T1139.heap n0 O1140 ge_rA ge_rB E_b1072 Fh1077 VH VA1139 VB1139 Fc1077 Fw1077 V_b1060 SN hne hN0 hN1 hw0 c0 c1 (fun q => ne_b1072_rA q) (fun q => ne_b1072_rB q) (fun q => ne_aH_rA q) (fun q => ne_aH_rB q) (fun q => ne_rA_rB q) (fun q => ne_b1060_rA q) (fun q => ne_b1060_rB q)) hZ (hw _ (gm 31 rfl)) (hw _ (gm 7 rfl)) (by decide) (by decide)) q1163a q1163c (g := (mkF m 316 #[vI p1, vI p2, vI p3, vI cn, vI 1, vR b1020, vR b1032, vR b1040, vR b1048, vR b1060, vR b1072, vR x1083, vR x1089, vR x1095, vR x1101, vI b1, vI b2, vI b3, vI b4, vI r0, vI r1, vU] [(.ref wF), (.ref b1060), (.ref b1072)])) rfl (by rw [hml]; rfl) (Steps.refl _) (argsL := [(.ref b1060), (.ref wF)]) (rest := []) (lenOf pd_3 rfl) rfl (by show 2 * 0 + _ ≤ _; exact Nat.le_of_eq rfl) (hb hby at_316) (fun _ _ => ⟨rfl, e1160, (by decide : 13 + 1 ≤ _), (by decide : 23 + 2 ≤ _)⟩)
      dsimp only [Pt.U, Pt.locs, Pt.cells, Pt.slots] at X1163 l1163 y1163 z1163 st1163 hQ1163
      subst l1163 y1163 z1163
      obtain ⟨x1163, kx1163, rfl, Nq1163, K1163, zx1163, Vx1163⟩ := hQ1163
      have N1163 := Fr.app N1158 Nq1163
      have k1164 : Rch p e below S0 T1163 (mkF m 319 #[vI p1, vI p2, vI p3, vI cn, vI 1, vR b1020, vR b1032, vR b1040, vR b1048, vR b1060, vR b1072, vR x1083, vR x1089, vR x1095, vR x1101, vI b1, vI b2, vI b3, vI b4, vI r0, vI r1, vU] [(.ref x1163)]) := fun t h => k1162 t (st1163.trans h)
      have ne_b1020_x1163 : b1020 ≠ x1163 := own_ne V_b1020.lt zx1163
      have ne_b1032_x1163 : b1032 ≠ x1163 := own_ne V_b1032.lt zx1163
      have ne_b1040_x1163 : b1040 ≠ x1163 := own_ne V_b1040.lt zx1163
      have ne_b1048_x1163 : b1048 ≠ x1163 := own_ne V_b1048.lt zx1163
      have ne_b1060_x1163 : b1060 ≠ x1163 := own_ne V_b1060.lt zx1163
      have ne_b1072_x1163 : b1072 ≠ x1163 := own_ne E_b1072.lt zx1163
      have ne_aH_x1163 : aH ≠ x1163 := own_ne VH.lt zx1163
      have ne_rA_x1163 : rA ≠ x1163 := own_ne VA1139.lt zx1163
      have ne_rB_x1163 : rB ≠ x1163 := own_ne VB1139.lt zx1163
      have ne_x1083_x1163 : x1083 ≠ x1163 := own_ne Vx1083.lt zx1163
      have ne_x1089_x1163 : x1089 ≠ x1163 := own_ne Vx1089.lt zx1163
      have ne_x1095_x1163 : x1095 ≠ x1163 := own_ne Vx1095.lt zx1163
      have ne_x1101_x1163 : x1101 ≠ x1163 := own_ne Vx1101.lt zx1163
      have ge_x1163 : n0 ≤ x1163 := own_ge O1140 zx1163
      have O1165 := O1140.keep K1163 (allS ge_rA (allS ge_rB all0))
      replace V_b1020 := V_b1020.keep K1163 (ninS ne_b1020_rA (ninS ne_b1020_rB nin0))
      replace V_b1032 := V_b1032.keep K1163 (ninS ne_b1032_rA (ninS ne_b1032_rB nin0))
      replace V_b1040 := V_b1040.keep K1163 (ninS ne_b1040_rA (ninS ne_b1040_rB nin0))
      replace V_b1048 := V_b1048.keep K1163 (ninS ne_b1048_rA (ninS ne_b1048_rB nin0))
      replace V_b1060 := V_b1060.keep K1163 (ninS ne_b1060_rA (ninS ne_b1060_rB nin0))
      replace E_b1072 := E_b1072.keep K1163
      replace Fc1077 := Fc1077.keep K1163 (ninS ne_b1072_rA (ninS ne_b1072_rB nin0))
      replace Fw1077 := Fw1077.keep K1163 (ninS ne_b1072_rA (ninS ne_b1072_rB nin0))
      replace Fh1077 := Fh1077.keep K1163 (ninS ne_b1072_rA (ninS ne_b1072_rB nin0))
      replace VH := VH.keep K1163 (ninS ne_aH_rA (ninS ne_aH_rB nin0))
      replace Vx1083 := Vx1083.keep K1163 (ninS (Ne.symm ne_rA_x1083) (ninS (Ne.symm ne_rB_x1083) nin0))
      replace Vx1089 := Vx1089.keep K1163 (ninS (Ne.symm ne_rA_x1089) (ninS (Ne.symm ne_rB_x1089) nin0))
      replace Vx1095 := Vx1095.keep K1163 (ninS (Ne.symm ne_rA_x1095) (ninS (Ne.symm ne_rB_x1095) nin0))
      replace Vx1101 := Vx1101.keep K1163 (ninS (Ne.symm ne_rA_x1101) (ninS (Ne.symm ne_rB_x1101) nin0))
      have k1167 : Rch p e below S0 T1163 (mkF m 349 #[vI p1, vI p2, vI p3, vI cn, vI 1, vR b1020, vR b1032, vR b1040, vR b1048, vR b1060, vR b1072, vR x1083, vR x1089, vR x1095, vR x1101, vI b1, vI b2, vI b3, vI b4, vI r0, vI r1, vR x1163] [(.ref x1163)]) := fun t h => k1164 t (by
          show Steps p.tables e below (T1163.setTop (mkF m 319 #[vI p1, vI p2, vI p3, vI cn, vI 1, vR b1020, vR b1032, vR b1040, vR b1048, vR b1060, vR b1072, vR x1083, vR x1089, vR x1095, vR x1101, vI b1, vI b2, vI b3, vI b4, vI r0, vI r1, vU] [(.ref x1163)])) _
          refine XS.astore X1163.here hx rfl (hb hby at_319) rfl rfl (l' := #[vI p1, vI p2, vI p3, vI cn, vI 1, vR b1020, vR b1032, vR b1040, vR b1048, vR b1060, vR b1072, vR x1083, vR x1089, vR x1095, vR x1101, vI b1, vI b2, vI b3, vI b4, vI r0, vI r1, vR x1163]) rfl ?_
          refine XS.iload X1163.here hx rfl (hb hby at_321) rfl ?_
          refine XS.ifNo X1163.here hx rfl (hb hby at_323) rfl ((if0 _ _).trans (flt ((own_nn hN0) : ¬ (r0 < (0 : Int32)))).1) ?_
          refine XS.iload X1163.here hx rfl (hb hby at_326) rfl ?_
          refine XS.ifYes X1163.here hx rfl (pc0 := 328) (pc' := 342) rfl (hb hby at_328) rfl ((if0 _ _).trans (flt ((own_nn hN1) : ¬ (r1 < (0 : Int32)))).2.1) (by decide) (by decide) ?_
          refine XS.aload X1163.here hx rfl (hb hby at_342) rfl rfl ?_
          refine XS.ifnullNo X1163.here hx rfl (hb hby at_344) rfl ?_
          refine XS.aload X1163.here hx rfl (hb hby at_347) rfl rfl ?_
          exact h)
      obtain ⟨cl1166, Ar1166, q1166, Sz1166, Ng1166, Hs1166, G1166⟩ := id Vx1163
      have k1169 : Rch p e below S0 T1163 (mkF m 357 #[vI p1, vI p2, vI p3, vI cn, vI 1, vR b1020, vR b1032, vR b1040, vR b1048, vR b1060, vR b1072, vR x1083, vR x1089, vR x1095, vR x1101, vI b1, vI b2, vI b3, vI b4, vI r0, vI r1, vR x1163] [(.int (0 : Int32)), (.ref x1163)]) := fun t h => k1167 t (by
          show Steps p.tables e below (T1163.setTop (mkF m 349 #[vI p1, vI p2, vI p3, vI cn, vI 1, vR b1020, vR b1032, vR b1040, vR b1048, vR b1060, vR b1072, vR x1083, vR x1089, vR x1095, vR x1101, vI b1, vI b2, vI b3, vI b4, vI r0, vI r1, vR x1163] [(.ref x1163)])) _
          refine X1163.arraylength hx (by exact Ar1166.1) (State.isArrayOf_alike hZ.alike Ar1166.2.1) (g := (mkF m 349 #[vI p1, vI p2, vI p3, vI cn, vI 1, vR b1020, vR b1032, vR b1040, vR b1048, vR b1060, vR b1072, vR x1083, vR x1089, vR x1095, vR x1101, vI b1, vI b2, vI b3, vI b4, vI r0, vI r1, vR x1163] [(.ref x1163)])) rfl rfl (hb hby at_349) _ ?_
          rw [len_of Sz1166 Ng1166]
          refine XS.iconst X1163.here hx rfl (hb hby at_350) ?_
          refine XS.icmpNo X1163.here hx rfl (hb hby at_351) rfl (teq (by decide : (2 : Int32) = (2 : Int32))).2 ?_
          refine XS.aload X1163.here hx rfl (hb hby at_354) rfl rfl ?_
          refine XS.iconst X1163.here hx rfl (hb hby at_356) ?_
          exact h)
      obtain ⟨cl1168, Ar1168, q1168, Sz1168, Ng1168, Hs1168, G1168⟩ := id Vx1163
      have hin1168 : ¬ ((0 : Int32) < 0 ∨ cl1168.slots.size ≤ ((0 : Int32)).toNatClampNeg) := inb_of Sz1168 ⟨by decide, by decide⟩
      have hat1168 : cl1168.slots[((0 : Int32)).toNatClampNeg]? = some (.int r0) := Hs1168.at hin1168 (rfl)
      have k1171 : Rch p e below S0 T1163 (mkF m 366 #[vI p1, vI p2, vI p3, vI cn, vI 1, vR b1020, vR b1032, vR b1040, vR b1048, vR b1060, vR b1072, vR x1083, vR x1089, vR x1095, vR x1101, vI b1, vI b2, vI b3, vI b4, vI r0, vI r1, vR x1163] [(.int (1 : Int32)), (.ref x1163)]) := fun t h => k1169 t (by
          show Steps p.tables e below (T1163.setTop (mkF m 357 #[vI p1, vI p2, vI p3, vI cn, vI 1, vR b1020, vR b1032, vR b1040, vR b1048, vR b1060, vR b1072, vR x1083, vR x1089, vR x1095, vR x1101, vI b1, vI b2, vI b3, vI b4, vI r0, vI r1, vR x1163] [(.int (0 : Int32)), (.ref x1163)])) _
          refine X1163.iaload hx (j := (0 : Int32)) (v := (.int r0)) (by exact Ar1168.1) (State.isArrayOf_alike hZ.alike Ar1168.2.1) Ar1168.2.2 hin1168 hat1168 (g := (mkF m 357 #[vI p1, vI p2, vI p3, vI cn, vI 1, vR b1020, vR b1032, vR b1040, vR b1048, vR b1060, vR b1072, vR x1083, vR x1089, vR x1095, vR x1101, vI b1, vI b2, vI b3, vI b4, vI r0, vI r1, vR x1163] [(.int (0 : Int32)), (.ref x1163)])) rfl rfl (hb hby at_357) _ ?_
          refine XS.iload X1163.here hx rfl (hb hby at_358) rfl ?_
          refine XS.icmpNo X1163.here hx rfl (hb hby at_360) rfl (teq (rfl : r0 = r0)).2 ?_
          refine XS.aload X1163.here hx rfl (hb hby at_363) rfl rfl ?_
          refine XS.iconst X1163.here hx rfl (hb hby at_365) ?_
          exact h)
      obtain ⟨cl1170, Ar1170, q1170, Sz1170, Ng1170, Hs1170, G1170⟩ := id Vx1163
      have hin1170 : ¬ ((1 : Int32) < 0 ∨ cl1170.slots.size ≤ ((1 : Int32)).toNatClampNeg) := inb_of Sz1170 ⟨by decide, by decide⟩
      have hat1170 : cl1170.slots[((1 : Int32)).toNatClampNeg]? = some (.int r1) := Hs1170.at hin1170 (rfl)
      have k1172 : Rch p e below S0 T1163 (mkF m 377 #[vI p1, vI p2, vI p3, vI cn, vI 1, vR b1020, vR b1032, vR b1040, vR b1048, vR b1060, vR b1072, vR x1083, vR x1089, vR x1095, vR x1101, vI b1, vI b2, vI b3, vI b4, vI r0, vI r1, vR x1163] [(.int (1 : Int32))]) := fun t h => k1171 t (by
          show Steps p.tables e below (T1163.setTop (mkF m 366 #[vI p1, vI p2, vI p3, vI cn, vI 1, vR b1020, vR b1032, vR b1040, vR b1048, vR b1060, vR b1072, vR x1083, vR x1089, vR x1095, vR x1101, vI b1, vI b2, vI b3, vI b4, vI r0, vI r1, vR x1163] [(.int (1 : Int32)), (.ref x1163)])) _
          refine X1163.iaload hx (j := (1 : Int32)) (v := (.int r1)) (by exact Ar1170.1) (State.isArrayOf_alike hZ.alike Ar1170.2.1) Ar1170.2.2 hin1170 hat1170 (g := (mkF m 366 #[vI p1, vI p2, vI p3, vI cn, vI 1, vR b1020, vR b1032, vR b1040, vR b1048, vR b1060, vR b1072, vR x1083, vR x1089, vR x1095, vR x1101, vI b1, vI b2, vI b3, vI b4, vI r0, vI r1, vR x1163] [(.int (1 : Int32)), (.ref x1163)])) rfl rfl (hb hby at_366) _ ?_
          refine XS.iload X1163.here hx rfl (hb hby at_367) rfl ?_
          refine XS.icmpNo X1163.here hx rfl (hb hby at_369) rfl (teq (rfl : r1 = r1)).2 ?_
          refine XS.iconst X1163.here hx rfl (hb hby at_372) ?_
          refine XS.goto X1163.here hx rfl (pc0 := 373) (pc' := 377) rfl (hb hby at_373) (by decide) (by decide) ?_
          exact h)
      obtain ⟨fs, hr, hrun, hended, hW, hsame⟩ := X1163.leave (v := (some (.int (1 : Int32)))) (fun h => by rw [Bd.returns] at h; cases h)
      refine ⟨_, _, ?_, hrun, hended, _, _, rfl, ?_, ⟨_, rfl⟩, hW, hsame.mono (by decide) (by decide)⟩
      · rw [← hS0]
        refine k1172 _ ?_
        show Steps p.tables e below (T1163.setTop (mkF m 377 #[vI p1, vI p2, vI p3, vI cn, vI 1, vR b1020, vR b1032, vR b1040, vR b1048, vR b1060, vR b1072, vR x1083, vR x1089, vR x1095, vR x1101, vI b1, vI b2, vI b3, vI b4, vI r0, vI r1, vR x1163] [(.int (1 : Int32))])) _
        exact retN X1163 hx (t := .boolean) Bd.returns (by simp) (hb hby at_377) hr
      · show Q_rm0_f Z  h0 n0 _ T1163.heap _
        exact ⟨rfl, N1163⟩
    · have k1173 : Rch p e below S0 T1139 (mkF m 292 #[vI p1, vI p2, vI p3, vI cn, vI 1, vR b1020, vR b1032, vR b1040, vR b1048, vR b1060, vR b1072, vR x1083, vR x1089, vR x1095, vR x1101, vI b1, vI b2, vI b3, vI b4, vU, vU, vU] [(.int cn), (.int b4), (.int b2), (.int b1)]) := fun t h => k1139 t (by
          show Steps p.tables e below (T1139.setTop (mkF m 285 #[vI p1, vI p2, vI p3, vI cn, vI 1, vR b1020, vR b1032, vR b1040, vR b1048, vR b1060, vR b1072, vR x1083, vR x1089, vR x1095, vR x1101, vI b1, vI b2, vI b3, vI b4, vU, vU, vU] [])) _
          refine XS.iload X1139.here hx rfl (hb hby at_285) rfl ?_
          refine XS.iload X1139.here hx rfl (hb hby at_287) rfl ?_
          refine XS.iload X1139.here hx rfl (hb hby at_289) rfl ?_
          refine XS.iloadN X1139.here hx rfl (hb hby at_291) rfl ?_
          exact h)
      obtain ⟨_, _, ⟨T1174, L1174, kk1174, n1174⟩, -, X1174, ⟨Lc1174, hQ1174, l1174, y1174, z1174⟩, st1174⟩ := Jvm.LawKit.callS X1139 hx (y := (⟨"com/example/lumenplan/lumenplan/simulation/WavelengthsReleasePinLaw", "lowest", "(ZZZI)I"⟩ : MethodName)) hown (mvT hZ (hw _ (gm 60 rfl))) (mvT hZ (hw _ (gm 61 rfl))) (mvT hZ (hw _ (gm 62 rfl))) (mvT hZ (hw _ (gm 63 rfl))) (by decide) (backOf (W := 0) (rmLW l Z a0 hw [] b1 b2 b4 cn r0 r0 T1139.heap n0 O1140 hL0 (Or.inl ⟨c0, rfl⟩)) hZ (hw _ (gm 63 rfl)) (hw _ (gm 62 rfl)) (by decide) (by decide)) (g := (mkF m 292 #[vI p1, vI p2, vI p3, vI cn, vI 1, vR b1020, vR b1032, vR b1040, vR b1048, vR b1060, vR b1072, vR x1083, vR x1089, vR x1095, vR x1101, vI b1, vI b2, vI b3, vI b4, vU, vU, vU] [(.int cn), (.int b4), (.int b2), (.int b1)])) rfl (by rw [hml]; rfl) (argsL := [(.int b1), (.int b2), (.int b4), (.int cn)]) (rest := []) (lenOf pd_10 rfl) rfl (by show 2 * 0 + _ ≤ _; exact Nat.le_of_eq rfl) (hb hby at_292) (fun _ _ => ⟨rfl, rfl, (by decide : 13 + 0 ≤ _), (by decide : 23 + 0 ≤ _)⟩)
      dsimp only [Pt.U, Pt.locs, Pt.cells, Pt.slots] at X1174 l1174 y1174 z1174 st1174 hQ1174
      subst l1174 y1174 z1174
      obtain ⟨rfl, Nq1174, hh1174⟩ := hQ1174
      have N1174 := Fr.app N1139 Nq1174
      have k1175 : Rch p e below S0 T1174 (mkF m 295 #[vI p1, vI p2, vI p3, vI cn, vI 1, vR b1020, vR b1032, vR b1040, vR b1048, vR b1060, vR b1072, vR x1083, vR x1089, vR x1095, vR x1101, vI b1, vI b2, vI b3, vI b4, vU, vU, vU] [(.int r0)]) := fun t h => k1173 t (st1174 t h)
      have k1176 : Rch p e below S0 T1174 (mkF m 304 #[vI p1, vI p2, vI p3, vI cn, vI 1, vR b1020, vR b1032, vR b1040, vR b1048, vR b1060, vR b1072, vR x1083, vR x1089, vR x1095, vR x1101, vI b1, vI b2, vI b3, vI b4, vI r0, vU, vU] [(.int cn), (.int b4), (.int b3), (.int b1)]) := fun t h => k1175 t (by
          show Steps p.tables e below (T1174.setTop (mkF m 295 #[vI p1, vI p2, vI p3, vI cn, vI 1, vR b1020, vR b1032, vR b1040, vR b1048, vR b1060, vR b1072, vR x1083, vR x1089, vR x1095, vR x1101, vI b1, vI b2, vI b3, vI b4, vU, vU, vU] [(.int r0)])) _
          refine XS.istore X1174.here hx rfl (hb hby at_295) rfl (l' := #[vI p1, vI p2, vI p3, vI cn, vI 1, vR b1020, vR b1032, vR b1040, vR b1048, vR b1060, vR b1072, vR x1083, vR x1089, vR x1095, vR x1101, vI b1, vI b2, vI b3, vI b4, vI r0, vU, vU]) rfl ?_
          refine XS.iload X1174.here hx rfl (hb hby at_297) rfl ?_
          refine XS.iload X1174.here hx rfl (hb hby at_299) rfl ?_
          refine XS.iload X1174.here hx rfl (hb hby at_301) rfl ?_
          refine XS.iloadN X1174.here hx rfl (hb hby at_303) rfl ?_
          exact h)
      obtain ⟨_, _, ⟨T1177, L1177, kk1177, n1177⟩, -, X1177, ⟨Lc1177, hQ1177, l1177, y1177, z1177⟩, st1177⟩ := Jvm.LawKit.callS X1174 hx (y := (⟨"com/example/lumenplan/lumenplan/simulation/WavelengthsReleasePinLaw", "lowest", "(ZZZI)I"⟩ : MethodName)) hown (mvT hZ (hw _ (gm 60 rfl))) (mvT hZ (hw _ (gm 61 rfl))) (mvT hZ (hw _ (gm 62 rfl))) (mvT hZ (hw _ (gm 63 rfl))) (by decide) (backOf (W := 0) (rmLW l Z a0 hw [] b1 b3 b4 cn r1 (-1 : Int32) T1139.heap n0 O1140 hL1 (Or.inr ⟨c1, rfl⟩)) hZ (hw _ (gm 63 rfl)) (hw _ (gm 62 rfl)) (by decide) (by decide)) (g := (mkF m 304 #[vI p1, vI p2, vI p3, vI cn, vI 1, vR b1020, vR b1032, vR b1040, vR b1048, vR b1060, vR b1072, vR x1083, vR x1089, vR x1095, vR x1101, vI b1, vI b2, vI b3, vI b4, vI r0, vU, vU] [(.int cn), (.int b4), (.int b3), (.int b1)])) rfl (by rw [hml]; rfl) (argsL := [(.int b1), (.int b3), (.int b4), (.int cn)]) (rest := []) (lenOf pd_10 rfl) rfl (by show 2 * 0 + _ ≤ _; exact Nat.le_of_eq rfl) (hb hby at_304) (fun _ _ => ⟨rfl, hh1174, (by decide : 13 + 0 ≤ _), (by decide : 23 + 0 ≤ _)⟩)
      dsimp only [Pt.U, Pt.locs, Pt.cells, Pt.slots] at X1177 l1177 y1177 z1177 st1177 hQ1177
      subst l1177 y1177 z1177
      obtain ⟨rfl, Nq1177, hh1177⟩ := hQ1177
      have N1177 := Fr.app N1174 Nq1177
      have k1178 : Rch p e below S0 T1177 (mkF m 307 #[vI p1, vI p2, vI p3, vI cn, vI 1, vR b1020, vR b1032, vR b1040, vR b1048, vR b1060, vR b1072, vR x1083, vR x1089, vR x1095, vR x1101, vI b1, vI b2, vI b3, vI b4, vI r0, vU, vU] [(.int (-1 : Int32))]) := fun t h => k1176 t (st1177 t h)
      have k1180 : Rch p e below S0 T1177 (mkF m 313 #[vI p1, vI p2, vI p3, vI cn, vI 1, vR b1020, vR b1032, vR b1040, vR b1048, vR b1060, vR b1072, vR x1083, vR x1089, vR x1095, vR x1101, vI b1, vI b2, vI b3, vI b4, vI r0, vI (-1), vU] [(.ref b1060), (.ref b1072)]) := fun t h => k1178 t (by
          show Steps p.tables e below (T1177.setTop (mkF m 307 #[vI p1, vI p2, vI p3, vI cn, vI 1, vR b1020, vR b1032, vR b1040, vR b1048, vR b1060, vR b1072, vR x1083, vR x1089, vR x1095, vR x1101, vI b1, vI b2, vI b3, vI b4, vI r0, vU, vU] [(.int (-1 : Int32))])) _
          refine XS.istore X1177.here hx rfl (hb hby at_307) rfl (l' := #[vI p1, vI p2, vI p3, vI cn, vI 1, vR b1020, vR b1032, vR b1040, vR b1048, vR b1060, vR b1072, vR x1083, vR x1089, vR x1095, vR x1101, vI b1, vI b2, vI b3, vI b4, vI r0, vI (-1), vU]) rfl ?_
          refine XS.aload X1177.here hx rfl (hb hby at_309) rfl rfl ?_
          refine XS.aload X1177.here hx rfl (hb hby at_311) rfl rfl ?_
          exact h)
      obtain ⟨T1179, X1179, e1179, st1179⟩ := getS2 X1177 hx hZ hown (host := "") (Or.inl (hw _ (gm 64 rfl))) Via.refl hh1177 (SF.ext O1140.2) (g := (mkF m 313 #[vI p1, vI p2, vI p3, vI cn, vI 1, vR b1020, vR b1032, vR b1040, vR b1048, vR b1060, vR b1072, vR x1083, vR x1089, vR x1095, vR x1101, vI b1, vI b2, vI b3, vI b4, vI r0, vI (-1), vU] [(.ref b1060), (.ref b1072)])) rfl (hb hby at_313)
      have k1181 : Rch p e below S0 T1179 (mkF m 316 #[vI p1, vI p2, vI p3, vI cn, vI 1, vR b1020, vR b1032, vR b1040, vR b1048, vR b1060, vR b1072, vR x1083, vR x1089, vR x1095, vR x1101, vI b1, vI b2, vI b3, vI b4, vI r0, vI (-1), vU] [(.ref wF), (.ref b1060), (.ref b1072)]) := fun t h => k1180 t (st1179 t h)
      obtain ⟨cq1182, kq1182, q1182a, q1182b, q1182c⟩ := isOf hZ e1179 E_b1072
      obtain ⟨_, _, ⟨T1182, L1182, kk1182, n1182⟩, -, X1182, ⟨Lc1182, hQ1182, l1182, y1182, z1182⟩, st1182⟩ := X1179.virtualBack hx (y := (⟨"com/example/lumenplan/lumenplan/simulation/Wavelengths", "take", "([ILcom/example/lumenplan/lumenplan/simulation/Conversion;)[I"⟩ : MethodName)) (z := (⟨"com/example/lumenplan/lumenplan/simulation/Wavelengths", "take", "([ILcom/example/lumenplan/lumenplan/simulation/Conversion;)[I"⟩ : MethodName)) hown (mvT hZ (hw _ (gm 27 rfl))) (mvT hZ (hw _ (gm 28 rfl))) (notFace_of_selects (args := #[]) (mvT hZ (hw _ (gm 30 rfl)))) (mvT hZ (hw _ (gm 30 rfl))) (mvT hZ (hw _ (gm 29 rfl))) (by decide) (backOf (W := 0) (rmT_N1 l Z a0 hw []  b1072 aH rA rB kH kL cn wd u1139 v1139 b1060 k1060 r0 r1 wN wF T1139.heap n0 O1140 ge_rA ge_rB E_b1072 Fh1077 VH VA1139 VB1139 Fc1077 Fw1077 V_b1060 SN hne hN0 hN1 hw0 c0 c1 (fun q => ne_b1072_rA q) (fun q => ne_b1072_rB q) (fun q => ne_aH_rA q) (fun q => ne_aH_rB q) (fun q => ne_rA_rB q) (fun q => ne_b1060_rA q) (fun q => ne_b1060_rB q)) hZ (hw _ (gm 31 rfl)) (hw _ (gm 7 rfl)) (by decide) (by decide)) q1182a q1182c (g := (mkF m 316 #[vI p1, vI p2, vI p3, vI cn, vI 1, vR b1020, vR b1032, vR b1040, vR b1048, vR b1060, vR b1072, vR x1083, vR x1089, vR x1095, vR x1101, vI b1, vI b2, vI b3, vI b4, vI r0, vI (-1), vU] [(.ref wF), (.ref b1060), (.ref b1072)])) rfl (by rw [hml]; rfl) (Steps.refl _) (argsL := [(.ref b1060), (.ref wF)]) (rest := []) (lenOf pd_3 rfl) rfl (by show 2 * 0 + _ ≤ _; exact Nat.le_of_eq rfl) (hb hby at_316) (fun _ _ => ⟨rfl, e1179, (by decide : 13 + 1 ≤ _), (by decide : 23 + 2 ≤ _)⟩)
      dsimp only [Pt.U, Pt.locs, Pt.cells, Pt.slots] at X1182 l1182 y1182 z1182 st1182 hQ1182
      subst l1182 y1182 z1182
      obtain ⟨rfl, Nq1182, K1182⟩ := hQ1182
      have N1182 := Fr.app N1177 Nq1182
      have k1183 : Rch p e below S0 T1182 (mkF m 319 #[vI p1, vI p2, vI p3, vI cn, vI 1, vR b1020, vR b1032, vR b1040, vR b1048, vR b1060, vR b1072, vR x1083, vR x1089, vR x1095, vR x1101, vI b1, vI b2, vI b3, vI b4, vI r0, vI (-1), vU] [.null]) := fun t h => k1181 t (st1182.trans h)
      have O1184 := O1140.keep K1182 (allS ge_rA (allS ge_rB all0))
      replace V_b1020 := V_b1020.keep K1182 (ninS ne_b1020_rA (ninS ne_b1020_rB nin0))
      replace V_b1032 := V_b1032.keep K1182 (ninS ne_b1032_rA (ninS ne_b1032_rB nin0))
      replace V_b1040 := V_b1040.keep K1182 (ninS ne_b1040_rA (ninS ne_b1040_rB nin0))
      replace V_b1048 := V_b1048.keep K1182 (ninS ne_b1048_rA (ninS ne_b1048_rB nin0))
      replace V_b1060 := V_b1060.keep K1182 (ninS ne_b1060_rA (ninS ne_b1060_rB nin0))
      replace E_b1072 := E_b1072.keep K1182
      replace Fc1077 := Fc1077.keep K1182 (ninS ne_b1072_rA (ninS ne_b1072_rB nin0))
      replace Fw1077 := Fw1077.keep K1182 (ninS ne_b1072_rA (ninS ne_b1072_rB nin0))
      replace Fh1077 := Fh1077.keep K1182 (ninS ne_b1072_rA (ninS ne_b1072_rB nin0))
      replace VH := VH.keep K1182 (ninS ne_aH_rA (ninS ne_aH_rB nin0))
      replace Vx1083 := Vx1083.keep K1182 (ninS (Ne.symm ne_rA_x1083) (ninS (Ne.symm ne_rB_x1083) nin0))
      replace Vx1089 := Vx1089.keep K1182 (ninS (Ne.symm ne_rA_x1089) (ninS (Ne.symm ne_rB_x1089) nin0))
      replace Vx1095 := Vx1095.keep K1182 (ninS (Ne.symm ne_rA_x1095) (ninS (Ne.symm ne_rB_x1095) nin0))
      replace Vx1101 := Vx1101.keep K1182 (ninS (Ne.symm ne_rA_x1101) (ninS (Ne.symm ne_rB_x1101) nin0))
      have k1185 : Rch p e below S0 T1182 (mkF m 341 #[vI p1, vI p2, vI p3, vI cn, vI 1, vR b1020, vR b1032, vR b1040, vR b1048, vR b1060, vR b1072, vR x1083, vR x1089, vR x1095, vR x1101, vI b1, vI b2, vI b3, vI b4, vI r0, vI (-1), .val .null] [(.int (1 : Int32))]) := fun t h => k1183 t (by
          show Steps p.tables e below (T1182.setTop (mkF m 319 #[vI p1, vI p2, vI p3, vI cn, vI 1, vR b1020, vR b1032, vR b1040, vR b1048, vR b1060, vR b1072, vR x1083, vR x1089, vR x1095, vR x1101, vI b1, vI b2, vI b3, vI b4, vI r0, vI (-1), vU] [.null])) _
          refine XS.astore X1182.here hx rfl (hb hby at_319) rfl rfl (l' := #[vI p1, vI p2, vI p3, vI cn, vI 1, vR b1020, vR b1032, vR b1040, vR b1048, vR b1060, vR b1072, vR x1083, vR x1089, vR x1095, vR x1101, vI b1, vI b2, vI b3, vI b4, vI r0, vI (-1), .val .null]) rfl ?_
          refine XS.iload X1182.here hx rfl (hb hby at_321) rfl ?_
          refine XS.ifNo X1182.here hx rfl (hb hby at_323) rfl ((if0 _ _).trans (flt ((own_nn hN0) : ¬ (r0 < (0 : Int32)))).1) ?_
          refine XS.iload X1182.here hx rfl (hb hby at_326) rfl ?_
          refine XS.ifNo X1182.here hx rfl (hb hby at_328) rfl ((if0 _ _).trans (tlt (by decide : (-1 : Int32) < (0 : Int32))).2.1) ?_
          refine XS.aload X1182.here hx rfl (hb hby at_331) rfl rfl ?_
          refine XS.ifnonnullNo X1182.here hx rfl (hb hby at_333) rfl ?_
          refine XS.iconst X1182.here hx rfl (hb hby at_336) ?_
          refine XS.goto X1182.here hx rfl (pc0 := 337) (pc' := 341) rfl (hb hby at_337) (by decide) (by decide) ?_
          exact h)
      obtain ⟨fs, hr, hrun, hended, hW, hsame⟩ := X1182.leave (v := (some (.int (1 : Int32)))) (fun h => by rw [Bd.returns] at h; cases h)
      refine ⟨_, _, ?_, hrun, hended, _, _, rfl, ?_, ⟨_, rfl⟩, hW, hsame.mono (by decide) (by decide)⟩
      · rw [← hS0]
        refine k1185 _ ?_
        show Steps p.tables e below (T1182.setTop (mkF m 341 #[vI p1, vI p2, vI p3, vI cn, vI 1, vR b1020, vR b1032, vR b1040, vR b1048, vR b1060, vR b1072, vR x1083, vR x1089, vR x1095, vR x1101, vI b1, vI b2, vI b3, vI b4, vI r0, vI (-1), .val .null] [(.int (1 : Int32))])) _
        exact retN X1182 hx (t := .boolean) Bd.returns (by simp) (hb hby at_341) hr
      · show Q_rm0_f Z  h0 n0 _ T1182.heap _
        exact ⟨rfl, N1182⟩
  · obtain ⟨l1, hl1⟩ := own_lo r1 cn
    have k1141 : Rch p e below S0 T1139 (mkF m 292 #[vI p1, vI p2, vI p3, vI cn, vI 1, vR b1020, vR b1032, vR b1040, vR b1048, vR b1060, vR b1072, vR x1083, vR x1089, vR x1095, vR x1101, vI b1, vI b2, vI b3, vI b4, vU, vU, vU] [(.int cn), (.int b4), (.int b2), (.int b1)]) := fun t h => k1139 t (by
        show Steps p.tables e below (T1139.setTop (mkF m 285 #[vI p1, vI p2, vI p3, vI cn, vI 1, vR b1020, vR b1032, vR b1040, vR b1048, vR b1060, vR b1072, vR x1083, vR x1089, vR x1095, vR x1101, vI b1, vI b2, vI b3, vI b4, vU, vU, vU] [])) _
        refine XS.iload X1139.here hx rfl (hb hby at_285) rfl ?_
        refine XS.iload X1139.here hx rfl (hb hby at_287) rfl ?_
        refine XS.iload X1139.here hx rfl (hb hby at_289) rfl ?_
        refine XS.iloadN X1139.here hx rfl (hb hby at_291) rfl ?_
        exact h)
    obtain ⟨_, _, ⟨T1142, L1142, kk1142, n1142⟩, -, X1142, ⟨Lc1142, hQ1142, l1142, y1142, z1142⟩, st1142⟩ := Jvm.LawKit.callS X1139 hx (y := (⟨"com/example/lumenplan/lumenplan/simulation/WavelengthsReleasePinLaw", "lowest", "(ZZZI)I"⟩ : MethodName)) hown (mvT hZ (hw _ (gm 60 rfl))) (mvT hZ (hw _ (gm 61 rfl))) (mvT hZ (hw _ (gm 62 rfl))) (mvT hZ (hw _ (gm 63 rfl))) (by decide) (backOf (W := 0) (rmLW l Z a0 hw [] b1 b2 b4 cn r0 (-1 : Int32) T1139.heap n0 O1140 hL0 (Or.inr ⟨c0, rfl⟩)) hZ (hw _ (gm 63 rfl)) (hw _ (gm 62 rfl)) (by decide) (by decide)) (g := (mkF m 292 #[vI p1, vI p2, vI p3, vI cn, vI 1, vR b1020, vR b1032, vR b1040, vR b1048, vR b1060, vR b1072, vR x1083, vR x1089, vR x1095, vR x1101, vI b1, vI b2, vI b3, vI b4, vU, vU, vU] [(.int cn), (.int b4), (.int b2), (.int b1)])) rfl (by rw [hml]; rfl) (argsL := [(.int b1), (.int b2), (.int b4), (.int cn)]) (rest := []) (lenOf pd_10 rfl) rfl (by show 2 * 0 + _ ≤ _; exact Nat.le_of_eq rfl) (hb hby at_292) (fun _ _ => ⟨rfl, rfl, (by decide : 13 + 0 ≤ _), (by decide : 23 + 0 ≤ _)⟩)
    dsimp only [Pt.U, Pt.locs, Pt.cells, Pt.slots] at X1142 l1142 y1142 z1142 st1142 hQ1142
    subst l1142 y1142 z1142
    obtain ⟨rfl, Nq1142, hh1142⟩ := hQ1142
    have N1142 := Fr.app N1139 Nq1142
    have k1143 : Rch p e below S0 T1142 (mkF m 295 #[vI p1, vI p2, vI p3, vI cn, vI 1, vR b1020, vR b1032, vR b1040, vR b1048, vR b1060, vR b1072, vR x1083, vR x1089, vR x1095, vR x1101, vI b1, vI b2, vI b3, vI b4, vU, vU, vU] [(.int (-1 : Int32))]) := fun t h => k1141 t (st1142 t h)
    have k1144 : Rch p e below S0 T1142 (mkF m 304 #[vI p1, vI p2, vI p3, vI cn, vI 1, vR b1020, vR b1032, vR b1040, vR b1048, vR b1060, vR b1072, vR x1083, vR x1089, vR x1095, vR x1101, vI b1, vI b2, vI b3, vI b4, vI (-1), vU, vU] [(.int cn), (.int b4), (.int b3), (.int b1)]) := fun t h => k1143 t (by
        show Steps p.tables e below (T1142.setTop (mkF m 295 #[vI p1, vI p2, vI p3, vI cn, vI 1, vR b1020, vR b1032, vR b1040, vR b1048, vR b1060, vR b1072, vR x1083, vR x1089, vR x1095, vR x1101, vI b1, vI b2, vI b3, vI b4, vU, vU, vU] [(.int (-1 : Int32))])) _
        refine XS.istore X1142.here hx rfl (hb hby at_295) rfl (l' := #[vI p1, vI p2, vI p3, vI cn, vI 1, vR b1020, vR b1032, vR b1040, vR b1048, vR b1060, vR b1072, vR x1083, vR x1089, vR x1095, vR x1101, vI b1, vI b2, vI b3, vI b4, vI (-1), vU, vU]) rfl ?_
        refine XS.iload X1142.here hx rfl (hb hby at_297) rfl ?_
        refine XS.iload X1142.here hx rfl (hb hby at_299) rfl ?_
        refine XS.iload X1142.here hx rfl (hb hby at_301) rfl ?_
        refine XS.iloadN X1142.here hx rfl (hb hby at_303) rfl ?_
        exact h)
    obtain ⟨_, _, ⟨T1145, L1145, kk1145, n1145⟩, -, X1145, ⟨Lc1145, hQ1145, l1145, y1145, z1145⟩, st1145⟩ := Jvm.LawKit.callS X1142 hx (y := (⟨"com/example/lumenplan/lumenplan/simulation/WavelengthsReleasePinLaw", "lowest", "(ZZZI)I"⟩ : MethodName)) hown (mvT hZ (hw _ (gm 60 rfl))) (mvT hZ (hw _ (gm 61 rfl))) (mvT hZ (hw _ (gm 62 rfl))) (mvT hZ (hw _ (gm 63 rfl))) (by decide) (backOf (W := 0) (rmLW l Z a0 hw [] b1 b3 b4 cn r1 l1 T1139.heap n0 O1140 hL1 hl1) hZ (hw _ (gm 63 rfl)) (hw _ (gm 62 rfl)) (by decide) (by decide)) (g := (mkF m 304 #[vI p1, vI p2, vI p3, vI cn, vI 1, vR b1020, vR b1032, vR b1040, vR b1048, vR b1060, vR b1072, vR x1083, vR x1089, vR x1095, vR x1101, vI b1, vI b2, vI b3, vI b4, vI (-1), vU, vU] [(.int cn), (.int b4), (.int b3), (.int b1)])) rfl (by rw [hml]; rfl) (argsL := [(.int b1), (.int b3), (.int b4), (.int cn)]) (rest := []) (lenOf pd_10 rfl) rfl (by show 2 * 0 + _ ≤ _; exact Nat.le_of_eq rfl) (hb hby at_304) (fun _ _ => ⟨rfl, hh1142, (by decide : 13 + 0 ≤ _), (by decide : 23 + 0 ≤ _)⟩)
    dsimp only [Pt.U, Pt.locs, Pt.cells, Pt.slots] at X1145 l1145 y1145 z1145 st1145 hQ1145
    subst l1145 y1145 z1145
    obtain ⟨rfl, Nq1145, hh1145⟩ := hQ1145
    have N1145 := Fr.app N1142 Nq1145
    have k1146 : Rch p e below S0 T1145 (mkF m 307 #[vI p1, vI p2, vI p3, vI cn, vI 1, vR b1020, vR b1032, vR b1040, vR b1048, vR b1060, vR b1072, vR x1083, vR x1089, vR x1095, vR x1101, vI b1, vI b2, vI b3, vI b4, vI (-1), vU, vU] [(.int l1)]) := fun t h => k1144 t (st1145 t h)
    have k1148 : Rch p e below S0 T1145 (mkF m 313 #[vI p1, vI p2, vI p3, vI cn, vI 1, vR b1020, vR b1032, vR b1040, vR b1048, vR b1060, vR b1072, vR x1083, vR x1089, vR x1095, vR x1101, vI b1, vI b2, vI b3, vI b4, vI (-1), vI l1, vU] [(.ref b1060), (.ref b1072)]) := fun t h => k1146 t (by
        show Steps p.tables e below (T1145.setTop (mkF m 307 #[vI p1, vI p2, vI p3, vI cn, vI 1, vR b1020, vR b1032, vR b1040, vR b1048, vR b1060, vR b1072, vR x1083, vR x1089, vR x1095, vR x1101, vI b1, vI b2, vI b3, vI b4, vI (-1), vU, vU] [(.int l1)])) _
        refine XS.istore X1145.here hx rfl (hb hby at_307) rfl (l' := #[vI p1, vI p2, vI p3, vI cn, vI 1, vR b1020, vR b1032, vR b1040, vR b1048, vR b1060, vR b1072, vR x1083, vR x1089, vR x1095, vR x1101, vI b1, vI b2, vI b3, vI b4, vI (-1), vI l1, vU]) rfl ?_
        refine XS.aload X1145.here hx rfl (hb hby at_309) rfl rfl ?_
        refine XS.aload X1145.here hx rfl (hb hby at_311) rfl rfl ?_
        exact h)
    obtain ⟨T1147, X1147, e1147, st1147⟩ := getS2 X1145 hx hZ hown (host := "") (Or.inl (hw _ (gm 64 rfl))) Via.refl hh1145 (SF.ext O1140.2) (g := (mkF m 313 #[vI p1, vI p2, vI p3, vI cn, vI 1, vR b1020, vR b1032, vR b1040, vR b1048, vR b1060, vR b1072, vR x1083, vR x1089, vR x1095, vR x1101, vI b1, vI b2, vI b3, vI b4, vI (-1), vI l1, vU] [(.ref b1060), (.ref b1072)])) rfl (hb hby at_313)
    have k1149 : Rch p e below S0 T1147 (mkF m 316 #[vI p1, vI p2, vI p3, vI cn, vI 1, vR b1020, vR b1032, vR b1040, vR b1048, vR b1060, vR b1072, vR x1083, vR x1089, vR x1095, vR x1101, vI b1, vI b2, vI b3, vI b4, vI (-1), vI l1, vU] [(.ref wF), (.ref b1060), (.ref b1072)]) := fun t h => k1148 t (st1147 t h)
    obtain ⟨cq1150, kq1150, q1150a, q1150b, q1150c⟩ := isOf hZ e1147 E_b1072
    obtain ⟨_, _, ⟨T1150, L1150, kk1150, n1150⟩, -, X1150, ⟨Lc1150, hQ1150, l1150, y1150, z1150⟩, st1150⟩ := X1147.virtualBack hx (y := (⟨"com/example/lumenplan/lumenplan/simulation/Wavelengths", "take", "([ILcom/example/lumenplan/lumenplan/simulation/Conversion;)[I"⟩ : MethodName)) (z := (⟨"com/example/lumenplan/lumenplan/simulation/Wavelengths", "take", "([ILcom/example/lumenplan/lumenplan/simulation/Conversion;)[I"⟩ : MethodName)) hown (mvT hZ (hw _ (gm 27 rfl))) (mvT hZ (hw _ (gm 28 rfl))) (notFace_of_selects (args := #[]) (mvT hZ (hw _ (gm 30 rfl)))) (mvT hZ (hw _ (gm 30 rfl))) (mvT hZ (hw _ (gm 29 rfl))) (by decide) (backOf (W := 0) (rmT_N0 l Z a0 hw []  b1072 aH rA rB kH kL cn wd u1139 v1139 b1060 k1060 r0 r1 l1 wN wF T1139.heap n0 O1140 ge_rA ge_rB E_b1072 Fh1077 VH VA1139 VB1139 Fc1077 Fw1077 V_b1060 SN hne hN0 hN1 hw0 c0 hl1 (fun q => ne_b1072_rA q) (fun q => ne_b1072_rB q) (fun q => ne_aH_rA q) (fun q => ne_aH_rB q) (fun q => ne_rA_rB q) (fun q => ne_b1060_rA q) (fun q => ne_b1060_rB q)) hZ (hw _ (gm 31 rfl)) (hw _ (gm 7 rfl)) (by decide) (by decide)) q1150a q1150c (g := (mkF m 316 #[vI p1, vI p2, vI p3, vI cn, vI 1, vR b1020, vR b1032, vR b1040, vR b1048, vR b1060, vR b1072, vR x1083, vR x1089, vR x1095, vR x1101, vI b1, vI b2, vI b3, vI b4, vI (-1), vI l1, vU] [(.ref wF), (.ref b1060), (.ref b1072)])) rfl (by rw [hml]; rfl) (Steps.refl _) (argsL := [(.ref b1060), (.ref wF)]) (rest := []) (lenOf pd_3 rfl) rfl (by show 2 * 0 + _ ≤ _; exact Nat.le_of_eq rfl) (hb hby at_316) (fun _ _ => ⟨rfl, e1147, (by decide : 13 + 1 ≤ _), (by decide : 23 + 2 ≤ _)⟩)
    dsimp only [Pt.U, Pt.locs, Pt.cells, Pt.slots] at X1150 l1150 y1150 z1150 st1150 hQ1150
    subst l1150 y1150 z1150
    obtain ⟨rfl, Nq1150, K1150⟩ := hQ1150
    have N1150 := Fr.app N1145 Nq1150
    have k1151 : Rch p e below S0 T1150 (mkF m 319 #[vI p1, vI p2, vI p3, vI cn, vI 1, vR b1020, vR b1032, vR b1040, vR b1048, vR b1060, vR b1072, vR x1083, vR x1089, vR x1095, vR x1101, vI b1, vI b2, vI b3, vI b4, vI (-1), vI l1, vU] [.null]) := fun t h => k1149 t (st1150.trans h)
    have O1152 := O1140.keep K1150 (allS ge_rA (allS ge_rB all0))
    replace V_b1020 := V_b1020.keep K1150 (ninS ne_b1020_rA (ninS ne_b1020_rB nin0))
    replace V_b1032 := V_b1032.keep K1150 (ninS ne_b1032_rA (ninS ne_b1032_rB nin0))
    replace V_b1040 := V_b1040.keep K1150 (ninS ne_b1040_rA (ninS ne_b1040_rB nin0))
    replace V_b1048 := V_b1048.keep K1150 (ninS ne_b1048_rA (ninS ne_b1048_rB nin0))
    replace V_b1060 := V_b1060.keep K1150 (ninS ne_b1060_rA (ninS ne_b1060_rB nin0))
    replace E_b1072 := E_b1072.keep K1150
    replace Fc1077 := Fc1077.keep K1150 (ninS ne_b1072_rA (ninS ne_b1072_rB nin0))
    replace Fw1077 := Fw1077.keep K1150 (ninS ne_b1072_rA (ninS ne_b1072_rB nin0))
    replace Fh1077 := Fh1077.keep K1150 (ninS ne_b1072_rA (ninS ne_b1072_rB nin0))
    replace VH := VH.keep K1150 (ninS ne_aH_rA (ninS ne_aH_rB nin0))
    replace Vx1083 := Vx1083.keep K1150 (ninS (Ne.symm ne_rA_x1083) (ninS (Ne.symm ne_rB_x1083) nin0))
    replace Vx1089 := Vx1089.keep K1150 (ninS (Ne.symm ne_rA_x1089) (ninS (Ne.symm ne_rB_x1089) nin0))
    replace Vx1095 := Vx1095.keep K1150 (ninS (Ne.symm ne_rA_x1095) (ninS (Ne.symm ne_rB_x1095) nin0))
    replace Vx1101 := Vx1101.keep K1150 (ninS (Ne.symm ne_rA_x1101) (ninS (Ne.symm ne_rB_x1101) nin0))
    have k1153 : Rch p e below S0 T1150 (mkF m 341 #[vI p1, vI p2, vI p3, vI cn, vI 1, vR b1020, vR b1032, vR b1040, vR b1048, vR b1060, vR b1072, vR x1083, vR x1089, vR x1095, vR x1101, vI b1, vI b2, vI b3, vI b4, vI (-1), vI l1, .val .null] [(.int (1 : Int32))]) := fun t h => k1151 t (by
        show Steps p.tables e below (T1150.setTop (mkF m 319 #[vI p1, vI p2, vI p3, vI cn, vI 1, vR b1020, vR b1032, vR b1040, vR b1048, vR b1060, vR b1072, vR x1083, vR x1089, vR x1095, vR x1101, vI b1, vI b2, vI b3, vI b4, vI (-1), vI l1, vU] [.null])) _
        refine XS.astore X1150.here hx rfl (hb hby at_319) rfl rfl (l' := #[vI p1, vI p2, vI p3, vI cn, vI 1, vR b1020, vR b1032, vR b1040, vR b1048, vR b1060, vR b1072, vR x1083, vR x1089, vR x1095, vR x1101, vI b1, vI b2, vI b3, vI b4, vI (-1), vI l1, .val .null]) rfl ?_
        refine XS.iload X1150.here hx rfl (hb hby at_321) rfl ?_
        refine XS.ifYes X1150.here hx rfl (pc0 := 323) (pc' := 331) rfl (hb hby at_323) rfl ((if0 _ _).trans (tlt (by decide : (-1 : Int32) < (0 : Int32))).1) (by decide) (by decide) ?_
        refine XS.aload X1150.here hx rfl (hb hby at_331) rfl rfl ?_
        refine XS.ifnonnullNo X1150.here hx rfl (hb hby at_333) rfl ?_
        refine XS.iconst X1150.here hx rfl (hb hby at_336) ?_
        refine XS.goto X1150.here hx rfl (pc0 := 337) (pc' := 341) rfl (hb hby at_337) (by decide) (by decide) ?_
        exact h)
    obtain ⟨fs, hr, hrun, hended, hW, hsame⟩ := X1150.leave (v := (some (.int (1 : Int32)))) (fun h => by rw [Bd.returns] at h; cases h)
    refine ⟨_, _, ?_, hrun, hended, _, _, rfl, ?_, ⟨_, rfl⟩, hW, hsame.mono (by decide) (by decide)⟩
    · rw [← hS0]
      refine k1153 _ ?_
      show Steps p.tables e below (T1150.setTop (mkF m 341 #[vI p1, vI p2, vI p3, vI cn, vI 1, vR b1020, vR b1032, vR b1040, vR b1048, vR b1060, vR b1072, vR x1083, vR x1089, vR x1095, vR x1101, vI b1, vI b2, vI b3, vI b4, vI (-1), vI l1, .val .null] [(.int (1 : Int32))])) _
      exact retN X1150 hx (t := .boolean) Bd.returns (by simp) (hb hby at_341) hr
    · show Q_rm0_f Z  h0 n0 _ T1150.heap _
      exact ⟨rfl, N1150⟩
theorem own_all (l : Launch) (Z : State) (a0 : Array Value) (hw : ∀ d ∈ tables_1, d.before a0 Z = true) (ws : List Jvm.Cond) (p1 p2 p3 : Int32) (wN wF : Addr) (h0 : Heap) (n0 : Nat) (O0 : Old Z n0 h0) (SN : Sta Z Z.heap "com/example/lumenplan/lumenplan/simulation/Conversion" "NONE" "Lcom/example/lumenplan/lumenplan/simulation/Conversion;" (.ref wN)) (SF : Sta Z Z.heap "com/example/lumenplan/lumenplan/simulation/Conversion" "FULL" "Lcom/example/lumenplan/lumenplan/simulation/Conversion;" (.ref wF)) (hne : wF ≠ wN) :
    MetFree l x (head1 (Jvm.Cond.code x code maxLocals ret :: ws) room_1) (fun a U => a = #[(.int p1), (.int p2), (.int p3)] ∧ Z.Warmed39 U.vm ∧ U.heap = h0) (fun _ _ _ _ _ => True) (fun _ U o U' => ∃ v L, o = .returned v ∧ Q_rm0_n Z h0 n0 v U'.heap L ∧ FrameEnd U o U' L room_1.cells room_1.slots) := by
  obtain ⟨cn, hmx, h3⟩ := own_max p1
  by_cases hf : p3 &&& 1 = 0
  · exact rm0_n l Z a0 hw ws p1 p2 p3 wN wF cn _ h0 n0 O0 SN SF hne hmx h3 rfl (own_words h3) hf
  · exact rm0_f l Z a0 hw ws p1 p2 p3 wN wF cn _ h0 n0 O0 SN SF hne hmx h3 rfl (own_words h3) hf
set_option maxRecDepth 65536 in
set_option maxHeartbeats 40000000 in
theorem comes_1 {Post : Tables → Env → Array Value → State → Outcome → State → Prop} (hpost : ∀ tb e args s v u, (limb_1_1.after args s (.returned v) u = true ∧ limb_1_2.after args s (.returned v) u = true ∧ True) → FrameEnd s (.returned v) u (Jvm.fieldLocs frame_1_writes args s ++ Jvm.arrayLocs frame_1_arrays args s ++ Jvm.staticLocs frame_1_statics s) 40 128 → Post tb e args s (.returned v) u) :
    ArmFor flags0 classFile x code maxLocals ret World_1 tables_1 room_1 Calls_1 rest_1 Pre_1 Post := by
  intro l hfl _ _ p e ha hc hk s m args below hf hA hF happ hP
  obtain ⟨hcalls, hrest, hpre⟩ := hP
  obtain ⟨-, -, -, hnamed, -, -, -, hat⟩ := (Spec.applies_iff hf).mp happ
  obtain ⟨hg, hn⟩ := and_e (Cond.before_iff.mp (show (Jvm.Cond.and given_1 narrow_1).before args s = true from hpre))
  obtain ⟨g_0, g_1⟩ := and_e hg
  obtain ⟨gi_0, gr_0⟩ := and_e g_1
  obtain ⟨gi_1, gr_1⟩ := and_e gr_0
  obtain ⟨w0, w1, w2, rfl⟩ : ∃ w0 w1 w2 : Value, args = #[w0, w1, w2] := by
    have hs : args.size = 3 := by simpa [Cond.value, given_1] using g_0
    obtain ⟨L⟩ := args
    match L, hs with
    | [w0, w1, w2], _ => exact ⟨w0, w1, w2, rfl⟩
  have hw := fun d (hd : d ∈ tables_1) => atoms_spec (ws := Jvm.Cond.code x code maxLocals ret :: tables_1) hat d (List.mem_cons_of_mem _ hd)
  have hfit : Fit s := fun {y c} hc i hi => by
    obtain ⟨ha, rfl⟩ := Array.getElem?_eq_some_iff.mp hc
    have q := List.all_eq_true.mp ((Array.all_eq_true_iff_forall_mem.mp hF) _ (Array.getElem_mem ha)) i (List.mem_range.mpr hi)
    simpa [Array.getElem?_eq_getElem hi] using q
  obtain ⟨i0, ei0⟩ := is_v gi_0
  obtain rfl : w0 = (.int i0) := Option.some.inj ei0
  obtain ⟨i1, ei1⟩ := is_v gi_1
  obtain rfl : w1 = (.int i1) := Option.some.inj ei1
  obtain ⟨i2, ei2⟩ := is_v gr_1
  obtain rfl : w2 = (.int i2) := Option.some.inj ei2
  obtain ⟨xN, hn⟩ := and_e hn
  obtain ⟨xF, hn⟩ := and_e hn
  obtain ⟨oF, oN⟩ := and_e hn
  obtain ⟨wN, vN⟩ := exa_v xN
  have SN := Sta.start vN (Or.inr ⟨(hw _ (gm 25 rfl)), (hw _ (gm 26 rfl))⟩)
  have FN := (fld_at vN).symm.trans (own_eqi oN)
  obtain ⟨wF, vF⟩ := exa_v xF
  have SF := Sta.start vF (Or.inr ⟨(hw _ (gm 25 rfl)), (hw _ (gm 65 rfl))⟩)
  have FF := (fld_at vF).symm.trans (own_eqi oF)
  have hne : wF ≠ wN := fun q => by
    rw [q] at FF
    have u := FF.symm.trans FN
    simp at u
  obtain ⟨n, o, h1, h2, h3, _, L, rfl, ⟨rfl, N⟩, hq⟩ := own_all l s _ hw tables_1 i0 i1 i2 wN wF s.heap s.heap.size (Old.start s) SN SF hne p e ha hc hk s m _ below hf ((Spec.applies_iff_loose hf).mp happ).1 ⟨rfl, State.Warmed39.refl s, rfl⟩ trivial
  refine ⟨n, _, h1, h2, h3, hpost _ _ _ _ _ _ ⟨Cond.after_iff.mpr rfl, Cond.after_iff.mpr (eq_i res_at (Term.int_eval (1)) rfl), trivial⟩ ⟨hq.1, hq.2.1, (hq.2.2.sift fun y hy => Or.inr (N y hy)).mono (by decide) (by decide)⟩⟩
theorem main_1_1 : Claimed_1_1 := comes_1 fun _ _ _ _ _ _ h hF => ⟨h.1, hF⟩
theorem main_1_2 : Claimed_1_2 := comes_1 fun _ _ _ _ _ _ h hF => ⟨h.2.1, hF⟩
end Jvm.Pilot.@@N@@
namespace Jvm.Pilot.@@N@@
open Jvm Jvm.ClassFile Sem Op Lib Jvm.Free Jvm.Stand Jvm.Pilot.@@N@@.Jvm.D
/-! MADE BY PROGRAM (witnessworld.py) out of the Statement's table words and the real class files: 21 classes; the members and pool entries that the words name. The judged class is class 1, her method 1. -/
namespace start1
open Jvm.ClassFile
def u (s : String) : CpInfo := .utf8 (stringToUtf16 s)
/-- a pool by its gaps: so many unusable entries, then the entry; so many at the end -/
def gap : Nat → List CpInfo → List CpInfo
  | 0, r => r
  | n + 1, r => .unusable :: gap n r
def poolList (es : List (Nat × CpInfo)) (last : Nat) : List CpInfo := es.foldr (fun e r => gap e.1 (e.2 :: r)) (gap last [])
def pool (es : List (Nat × CpInfo)) (last : Nat) : Array CpInfo := ⟨poolList es last⟩
def fileOf (pool : Array CpInfo) (this : Nat) (attrs : Array Attribute := #[]) (ms : Array MethodInfo := #[]) (fl : Nat := 33) (sup : Nat := 0) (ifs : Array Nat := #[]) (fds : Array FieldInfo := #[]) : ClassFile where
  minorVersion := 0
  majorVersion := 65
  constantPool := pool
  accessFlags := fl
  thisClass := this
  superClass := sup
  interfaces := ifs
  fields := fds
  methods := ms
  attributes := attrs
def plain (name : String) (sup : Option ClassId) : Class where
  name := name
  kind := .ordinary
  loader := none
  accessFlags := 33
  super := sup
  interfaces := #[]
  cf := none
  fields := #[]
  methods := #[]
  instanceTypes := #[]
  staticTypes := #[]
  resolved := #[]
  callSites := []
  init := .initialized
  statics := none
  mirror := none

def pool0 : Array CpInfo := pool [(5, u "<init>"), (0, u "()V"), (1, .class_ 10), (1, u "java/lang/Object")] 113

def k0c0 : Code := { maxStack := 0, maxLocals := 1, code := object_method_1_code, exceptionTable := #[], attributes := #[] }
def k0m0 : Method := { name := "<init>", desc := "()V", sig := { parameters := [], returnType := none }, accessFlags := 1, code := some k0c0 }
/-- java/lang/Object -/
def k0 : Class := { plain "java/lang/Object" none with
  accessFlags := 33
  interfaces := #[]
  cf := some (fileOf pool0 8 #[] #[{ accessFlags := 1, nameIndex := 5, descriptorIndex := 6, attributes := #[] }] 33 0 #[] #[])
  fields := #[]
  methods := #[k0m0]
  instanceTypes := #[]
  staticTypes := #[]
  resolved := Array.replicate 124 none
  statics := none }

def pool1 : Array CpInfo := pool [(2, .class_ 4), (1, u "java/lang/Object"), (0, u "<init>"), (0, u "()V"), (0, .methodref 8 9), (0, .class_ 10), (0, .nameAndType 11 12), (0, u "java/lang/Math"), (0, u "max"), (0, u "(II)I"), (0, .class_ 14), (0, u "com/example/lumenplan/lumenplan/simulation/Wavelengths"), (0, .methodref 13 16), (0, .nameAndType 5 17), (0, u "(II)V"), (0, .fieldref 19 20), (0, .class_ 21), (0, .nameAndType 22 23), (0, u "com/example/lumenplan/lumenplan/simulation/Conversion"), (0, u "NONE"), (0, u "Lcom/example/lumenplan/lumenplan/simulation/Conversion;"), (0, .methodref 13 25), (0, .nameAndType 26 27), (0, u "take"), (0, u "([ILcom/example/lumenplan/lumenplan/simulation/Conversion;)[I"), (0, .methodref 13 29), (0, .nameAndType 30 31), (0, u "release"), (0, u "([I[I)V"), (0, .methodref 33 34), (0, .class_ 35), (0, .nameAndType 36 37), (0, u "com/example/lumenplan/lumenplan/simulation/WavelengthsReleasePinLaw"), (0, u "lowest"), (0, u "(ZZZI)I"), (0, .fieldref 19 39), (0, .nameAndType 40 23), (0, u "FULL"), (2, u "law"), (0, u "(III)Z")] 5

def k1m0 : Method := { name := "<init>", desc := "()V", sig := { parameters := [], returnType := none }, accessFlags := 1, code := none }
def k1c1 : Code := { maxStack := 4, maxLocals := 22, code := code, exceptionTable := #[], attributes := #[] }
def k1m1 : Method := { name := "law", desc := "(III)Z", sig := { parameters := [.int, .int, .int], returnType := some .boolean }, accessFlags := 9, code := some k1c1 }
def k1c2 : Code := { maxStack := 2, maxLocals := 5, code := method_3_code, exceptionTable := #[], attributes := #[] }
def k1m2 : Method := { name := "lowest", desc := "(ZZZI)I", sig := { parameters := [.boolean, .boolean, .boolean, .int], returnType := some .int }, accessFlags := 10, code := some k1c2 }
/-- com/example/lumenplan/lumenplan/simulation/WavelengthsReleasePinLaw -/
def k1 : Class := { plain "com/example/lumenplan/lumenplan/simulation/WavelengthsReleasePinLaw" (some 0) with
  accessFlags := 49
  interfaces := #[]
  cf := some (fileOf pool1 33 #[] #[{ accessFlags := 1, nameIndex := 5, descriptorIndex := 6, attributes := #[] }, { accessFlags := 9, nameIndex := 43, descriptorIndex := 44, attributes := #[] }, { accessFlags := 10, nameIndex := 36, descriptorIndex := 37, attributes := #[] }] 49 2 #[] #[])
  fields := #[]
  methods := #[k1m0, k1m1, k1m2]
  instanceTypes := #[]
  staticTypes := #[]
  resolved := Array.replicate 50 none
  statics := none }

def pool2 : Array CpInfo := pool [(1, .class_ 2), (0, u "java/lang/Math"), (1, .class_ 6), (1, u "java/lang/Object"), (0, u "<init>"), (0, u "()V"), (89, .class_ 100), (1, u "java/lang/Math$RandomNumberGeneratorHolder"), (71, u "negativeZeroFloatBits"), (0, u "J"), (2, u "negativeZeroDoubleBits"), (21, u "max"), (46, u "$assertionsDisabled"), (0, u "Z"), (88, u "(II)I"), (2, u "twoToTheDoubleScaleDown"), (0, u "D"), (4, u "twoToTheDoubleScaleUp"), (9, u "E"), (3, u "PI"), (2, u "TAU"), (2, u "DEGREES_TO_RADIANS"), (0, u "RADIANS_TO_DEGREES")] 94

def k2m0 : Method := { name := "<init>", desc := "()V", sig := { parameters := [], returnType := none }, accessFlags := 2, code := none }
def k2c1 : Code := { maxStack := 2, maxLocals := 2, code := jdk_29_method_65_code, exceptionTable := #[], attributes := #[] }
def k2m1 : Method := { name := "max", desc := "(II)I", sig := { parameters := [.int, .int], returnType := some .int }, accessFlags := 9, code := some k2c1 }
/-- java/lang/Math -/
def k2 : Class := { plain "java/lang/Math" (some 0) with
  accessFlags := 49
  interfaces := #[]
  cf := some (fileOf pool2 1 #[.nestMembers #[98]] #[{ accessFlags := 2, nameIndex := 7, descriptorIndex := 8, attributes := #[] }, { accessFlags := 9, nameIndex := 198, descriptorIndex := 335, attributes := #[] }] 49 4 #[] #[{ accessFlags := 25, nameIndex := 354, descriptorIndex := 339, attributes := #[] }, { accessFlags := 25, nameIndex := 358, descriptorIndex := 339, attributes := #[] }, { accessFlags := 25, nameIndex := 361, descriptorIndex := 339, attributes := #[] }, { accessFlags := 26, nameIndex := 364, descriptorIndex := 339, attributes := #[] }, { accessFlags := 26, nameIndex := 365, descriptorIndex := 339, attributes := #[] }, { accessFlags := 26, nameIndex := 172, descriptorIndex := 173, attributes := #[] }, { accessFlags := 26, nameIndex := 176, descriptorIndex := 173, attributes := #[] }, { accessFlags := 8, nameIndex := 344, descriptorIndex := 339, attributes := #[] }, { accessFlags := 8, nameIndex := 338, descriptorIndex := 339, attributes := #[] }, { accessFlags := 4120, nameIndex := 245, descriptorIndex := 246, attributes := #[] }])
  fields := #[{ name := "E", type := .double, accessFlags := 25, slot := 0, constantValue := 0 }, { name := "PI", type := .double, accessFlags := 25, slot := 1, constantValue := 0 }, { name := "TAU", type := .double, accessFlags := 25, slot := 2, constantValue := 0 }, { name := "DEGREES_TO_RADIANS", type := .double, accessFlags := 26, slot := 3, constantValue := 0 }, { name := "RADIANS_TO_DEGREES", type := .double, accessFlags := 26, slot := 4, constantValue := 0 }, { name := "negativeZeroFloatBits", type := .long, accessFlags := 26, slot := 5, constantValue := 0 }, { name := "negativeZeroDoubleBits", type := .long, accessFlags := 26, slot := 6, constantValue := 0 }, { name := "twoToTheDoubleScaleUp", type := .double, accessFlags := 8, slot := 7, constantValue := 0 }, { name := "twoToTheDoubleScaleDown", type := .double, accessFlags := 8, slot := 8, constantValue := 0 }, { name := "$assertionsDisabled", type := .boolean, accessFlags := 4120, slot := 9, constantValue := 0 }]
  methods := #[k2m0, k2m1]
  instanceTypes := #[]
  staticTypes := #[.double, .double, .double, .double, .double, .long, .long, .double, .double, .boolean]
  resolved := Array.replicate 460 none
  statics := none }

def pool3 : Array CpInfo := pool [(1, .methodref 2 3), (0, .class_ 4), (0, .nameAndType 5 6), (0, u "java/lang/Object"), (0, u "<init>"), (0, u "()V"), (0, .fieldref 8 9), (0, .class_ 10), (0, .nameAndType 11 12), (0, u "com/example/lumenplan/lumenplan/simulation/Wavelengths"), (0, u "count"), (0, u "I"), (0, .class_ 14), (0, u "java/lang/Long"), (0, .long 64), (1, .fieldref 8 18), (0, .nameAndType 19 12), (0, u "words"), (0, .class_ 21), (0, u "[[J"), (0, .fieldref 8 23), (0, .nameAndType 24 21), (0, u "held"), (0, .fieldref 26 27), (0, .class_ 28), (0, .nameAndType 29 30), (0, u "com/example/lumenplan/lumenplan/simulation/Conversion"), (0, u "NONE"), (0, u "Lcom/example/lumenplan/lumenplan/simulation/Conversion;"), (0, .methodref 8 32), (0, .nameAndType 33 34), (0, u "lowestFree"), (0, u "([III)I"), (0, .methodref 36 37), (0, .class_ 38), (0, .nameAndType 39 40), (0, u "java/util/Arrays"), (0, u "fill"), (0, u "([II)V"), (0, .methodref 8 42), (0, .nameAndType 43 44), (0, u "reaching"), (0, u "(II)[J"), (0, .long 18446744073709551615), (1, .methodref 13 48), (0, .nameAndType 49 50), (0, u "numberOfTrailingZeros"), (0, u "(J)I"), (0, .long 2), (14, u "(II)V"), (2, u "take"), (0, u "([ILcom/example/lumenplan/lumenplan/simulation/Conversion;)[I"), (3, u "release"), (0, u "([I[I)V")] 4

def k3c0 : Code := { maxStack := 5, maxLocals := 3, code := prog_37_method_1_code, exceptionTable := #[], attributes := #[] }
def k3m0 : Method := { name := "<init>", desc := "(II)V", sig := { parameters := [.int, .int], returnType := none }, accessFlags := 0, code := some k3c0 }
def k3c1 : Code := { maxStack := 8, maxLocals := 8, code := prog_37_method_2_code, exceptionTable := #[], attributes := #[] }
def k3m1 : Method := { name := "take", desc := "([ILcom/example/lumenplan/lumenplan/simulation/Conversion;)[I", sig := { parameters := [(.array .int), (.object "com/example/lumenplan/lumenplan/simulation/Conversion")], returnType := some (.array .int) }, accessFlags := 0, code := some k3c1 }
def k3c2 : Code := { maxStack := 8, maxLocals := 4, code := prog_37_method_3_code, exceptionTable := #[], attributes := #[] }
def k3m2 : Method := { name := "release", desc := "([I[I)V", sig := { parameters := [(.array .int), (.array .int)], returnType := none }, accessFlags := 0, code := some k3c2 }
def k3c3 : Code := { maxStack := 5, maxLocals := 9, code := prog_37_method_4_code, exceptionTable := #[], attributes := #[] }
def k3m3 : Method := { name := "lowestFree", desc := "([III)I", sig := { parameters := [(.array .int), .int, .int], returnType := some .int }, accessFlags := 2, code := some k3c3 }
def k3c4 : Code := { maxStack := 8, maxLocals := 4, code := prog_37_method_5_code, exceptionTable := #[], attributes := #[] }
def k3m4 : Method := { name := "reaching", desc := "(II)[J", sig := { parameters := [.int, .int], returnType := some (.array .long) }, accessFlags := 2, code := some k3c4 }
/-- com/example/lumenplan/lumenplan/simulation/Wavelengths -/
def k3 : Class := { plain "com/example/lumenplan/lumenplan/simulation/Wavelengths" (some 0) with
  accessFlags := 48
  interfaces := #[]
  cf := some (fileOf pool3 8 #[] #[{ accessFlags := 0, nameIndex := 5, descriptorIndex := 66, attributes := #[] }, { accessFlags := 0, nameIndex := 69, descriptorIndex := 70, attributes := #[] }, { accessFlags := 0, nameIndex := 74, descriptorIndex := 75, attributes := #[] }, { accessFlags := 2, nameIndex := 33, descriptorIndex := 34, attributes := #[] }, { accessFlags := 2, nameIndex := 43, descriptorIndex := 44, attributes := #[] }] 48 2 #[] #[{ accessFlags := 18, nameIndex := 11, descriptorIndex := 12, attributes := #[] }, { accessFlags := 18, nameIndex := 19, descriptorIndex := 12, attributes := #[] }, { accessFlags := 18, nameIndex := 24, descriptorIndex := 21, attributes := #[] }])
  fields := #[{ name := "count", type := .int, accessFlags := 18, slot := 0, constantValue := 0 }, { name := "words", type := .int, accessFlags := 18, slot := 1, constantValue := 0 }, { name := "held", type := (.array (.array .long)), accessFlags := 18, slot := 2, constantValue := 0 }]
  methods := #[k3m0, k3m1, k3m2, k3m3, k3m4]
  instanceTypes := #[.int, .int, (.array (.array .long))]
  staticTypes := #[]
  resolved := Array.replicate 80 none
  statics := none }

def pool4 : Array CpInfo := pool [(1, .class_ 2), (0, u "java/lang/constant/Constable"), (0, .class_ 4), (0, u "java/lang/Object")] 6

/-- java/lang/constant/Constable -/
def k4 : Class := { plain "java/lang/constant/Constable" (some 0) with
  accessFlags := 1537
  interfaces := #[]
  cf := some (fileOf pool4 1 #[] #[] 1537 3 #[] #[])
  fields := #[]
  methods := #[]
  instanceTypes := #[]
  staticTypes := #[]
  resolved := Array.replicate 11 none
  statics := none }

def pool5 : Array CpInfo := pool [(1, .class_ 2), (0, u "java/lang/Comparable"), (0, .class_ 4), (0, u "java/lang/Object")] 7

/-- java/lang/Comparable -/
def k5 : Class := { plain "java/lang/Comparable" (some 0) with
  accessFlags := 1537
  interfaces := #[]
  cf := some (fileOf pool5 1 #[] #[] 1537 3 #[] #[])
  fields := #[]
  methods := #[]
  instanceTypes := #[]
  staticTypes := #[]
  resolved := Array.replicate 12 none
  statics := none }

def pool6 : Array CpInfo := pool [(1, .class_ 2), (0, u "java/io/Serializable"), (0, .class_ 4), (0, u "java/lang/Object")] 2

/-- java/io/Serializable -/
def k6 : Class := { plain "java/io/Serializable" (some 0) with
  accessFlags := 1537
  interfaces := #[]
  cf := some (fileOf pool6 1 #[] #[] 1537 3 #[] #[])
  fields := #[]
  methods := #[]
  instanceTypes := #[]
  staticTypes := #[]
  resolved := Array.replicate 7 none
  statics := none }

def pool7 : Array CpInfo := pool [(2, .class_ 4), (1, u "java/lang/Enum"), (0, u "name"), (0, u "Ljava/lang/String;"), (2, u "ordinal"), (0, u "I"), (1, .class_ 14), (1, u "java/lang/Object"), (4, u "hash"), (86, .class_ 108), (1, u "java/lang/Enum$EnumDesc"), (2, .class_ 112), (0, u "java/lang/constant/Constable"), (0, .class_ 114), (0, u "java/lang/Comparable"), (0, .class_ 116), (0, u "java/io/Serializable")] 87

/-- java/lang/Enum -/
def k7 : Class := { plain "java/lang/Enum" (some 0) with
  accessFlags := 1057
  interfaces := #[4, 5, 6]
  cf := some (fileOf pool7 2 #[.nestMembers #[106]] #[] 1057 12 #[111, 113, 115] #[{ accessFlags := 18, nameIndex := 5, descriptorIndex := 6, attributes := #[] }, { accessFlags := 18, nameIndex := 9, descriptorIndex := 10, attributes := #[] }, { accessFlags := 2, nameIndex := 19, descriptorIndex := 10, attributes := #[] }])
  fields := #[{ name := "name", type := (.object "java/lang/String"), accessFlags := 18, slot := 0, constantValue := 0 }, { name := "ordinal", type := .int, accessFlags := 18, slot := 1, constantValue := 0 }, { name := "hash", type := .int, accessFlags := 2, slot := 2, constantValue := 0 }]
  methods := #[]
  instanceTypes := #[(.object "java/lang/String"), .int, .int]
  staticTypes := #[]
  resolved := Array.replicate 204 none
  statics := none }

def pool8 : Array CpInfo := pool [(1, .class_ 2), (0, u "com/example/lumenplan/lumenplan/simulation/Conversion"), (2, u "NONE"), (0, u "Lcom/example/lumenplan/lumenplan/simulation/Conversion;"), (2, u "FULL"), (2, u "$VALUES"), (0, u "[Lcom/example/lumenplan/lumenplan/simulation/Conversion;"), (6, .class_ 22), (1, u "java/lang/Enum")] 24

/-- com/example/lumenplan/lumenplan/simulation/Conversion -/
def k8 : Class := { plain "com/example/lumenplan/lumenplan/simulation/Conversion" (some 7) with
  accessFlags := 16433
  interfaces := #[]
  cf := some (fileOf pool8 1 #[] #[] 16433 20 #[] #[{ accessFlags := 16409, nameIndex := 5, descriptorIndex := 6, attributes := #[] }, { accessFlags := 16409, nameIndex := 9, descriptorIndex := 6, attributes := #[] }, { accessFlags := 4122, nameIndex := 12, descriptorIndex := 13, attributes := #[] }])
  fields := #[{ name := "NONE", type := (.object "com/example/lumenplan/lumenplan/simulation/Conversion"), accessFlags := 16409, slot := 0, constantValue := 0 }, { name := "FULL", type := (.object "com/example/lumenplan/lumenplan/simulation/Conversion"), accessFlags := 16409, slot := 1, constantValue := 0 }, { name := "$VALUES", type := (.array (.object "com/example/lumenplan/lumenplan/simulation/Conversion")), accessFlags := 4122, slot := 2, constantValue := 0 }]
  methods := #[]
  instanceTypes := #[(.object "java/lang/String"), .int, .int]
  staticTypes := #[(.object "com/example/lumenplan/lumenplan/simulation/Conversion"), (.object "com/example/lumenplan/lumenplan/simulation/Conversion"), (.array (.object "com/example/lumenplan/lumenplan/simulation/Conversion"))]
  resolved := Array.replicate 47 none
  statics := some 0 }

def pool9 : Array CpInfo := pool [(2, .class_ 4), (1, u "java/lang/Object"), (0, u "<init>"), (0, u "()V"), (1, .class_ 10), (1, u "java/lang/Number"), (2, .class_ 14), (0, u "java/io/Serializable"), (0, u "serialVersionUID"), (0, u "J")] 20

def k9m0 : Method := { name := "<init>", desc := "()V", sig := { parameters := [], returnType := none }, accessFlags := 1, code := none }
/-- java/lang/Number -/
def k9 : Class := { plain "java/lang/Number" (some 0) with
  accessFlags := 1057
  interfaces := #[6]
  cf := some (fileOf pool9 8 #[] #[{ accessFlags := 1, nameIndex := 5, descriptorIndex := 6, attributes := #[] }] 1057 2 #[13] #[{ accessFlags := 26, nameIndex := 15, descriptorIndex := 16, attributes := #[] }])
  fields := #[{ name := "serialVersionUID", type := .long, accessFlags := 26, slot := 0, constantValue := 0 }]
  methods := #[k9m0]
  instanceTypes := #[]
  staticTypes := #[.long]
  resolved := Array.replicate 37 none
  statics := none }

def pool10 : Array CpInfo := pool [(1, .class_ 2), (0, u "java/lang/constant/ConstantDesc"), (0, .class_ 4), (0, u "java/lang/Object")] 32

/-- java/lang/constant/ConstantDesc -/
def k10 : Class := { plain "java/lang/constant/ConstantDesc" (some 0) with
  accessFlags := 1537
  interfaces := #[]
  cf := some (fileOf pool10 1 #[] #[] 1537 3 #[] #[])
  fields := #[]
  methods := #[]
  instanceTypes := #[]
  staticTypes := #[]
  resolved := Array.replicate 37 none
  statics := none }

def pool11 : Array CpInfo := pool [(1, .class_ 2), (0, u "java/lang/Long"), (15, .class_ 20), (1, u "java/lang/Integer"), (80, u "(J)I"), (133, .class_ 237), (1, u "java/lang/Long$LongCache"), (33, .class_ 272), (0, u "java/lang/Number"), (2, u "value"), (0, u "J"), (33, u "(I)I"), (0, .methodref 18 312), (0, .nameAndType 313 310), (0, u "numberOfTrailingZeros"), (47, u "TYPE"), (0, u "Ljava/lang/Class;"), (0, .class_ 364), (0, u "java/lang/Comparable"), (0, .class_ 366), (0, u "java/lang/constant/Constable"), (0, .class_ 368), (0, u "java/lang/constant/ConstantDesc"), (0, u "MIN_VALUE"), (1, u "MAX_VALUE"), (4, u "SIZE"), (0, u "I"), (1, u "BYTES"), (1, u "serialVersionUID")] 142

def k11c0 : Code := { maxStack := 4, maxLocals := 3, code := jdk_35_method_49_code, exceptionTable := #[], attributes := #[] }
def k11m0 : Method := { name := "numberOfTrailingZeros", desc := "(J)I", sig := { parameters := [.long], returnType := some .int }, accessFlags := 9, code := some k11c0 }
/-- java/lang/Long -/
def k11 : Class := { plain "java/lang/Long" (some 9) with
  accessFlags := 49
  interfaces := #[5, 4, 10]
  cf := some (fileOf pool11 1 #[.nestMembers #[235]] #[{ accessFlags := 9, nameIndex := 313, descriptorIndex := 101, attributes := #[] }] 49 271 #[363, 365, 367] #[{ accessFlags := 25, nameIndex := 369, descriptorIndex := 276, attributes := #[] }, { accessFlags := 25, nameIndex := 371, descriptorIndex := 276, attributes := #[] }, { accessFlags := 25, nameIndex := 361, descriptorIndex := 362, attributes := #[] }, { accessFlags := 18, nameIndex := 275, descriptorIndex := 276, attributes := #[] }, { accessFlags := 25, nameIndex := 376, descriptorIndex := 377, attributes := #[] }, { accessFlags := 25, nameIndex := 379, descriptorIndex := 377, attributes := #[] }, { accessFlags := 26, nameIndex := 381, descriptorIndex := 276, attributes := #[] }])
  fields := #[{ name := "MIN_VALUE", type := .long, accessFlags := 25, slot := 0, constantValue := 0 }, { name := "MAX_VALUE", type := .long, accessFlags := 25, slot := 1, constantValue := 0 }, { name := "TYPE", type := (.object "java/lang/Class"), accessFlags := 25, slot := 2, constantValue := 0 }, { name := "value", type := .long, accessFlags := 18, slot := 0, constantValue := 0 }, { name := "SIZE", type := .int, accessFlags := 25, slot := 3, constantValue := 0 }, { name := "BYTES", type := .int, accessFlags := 25, slot := 4, constantValue := 0 }, { name := "serialVersionUID", type := .long, accessFlags := 26, slot := 5, constantValue := 0 }]
  methods := #[k11m0]
  instanceTypes := #[.long]
  staticTypes := #[.long, .long, (.object "java/lang/Class"), .int, .int, .long]
  resolved := Array.replicate 524 none
  statics := none }

def pool12 : Array CpInfo := pool [(1, .class_ 2), (0, u "java/lang/Integer"), (16, u "digits"), (0, u "[C"), (33, u "(I)I"), (30, u "DigitOnes"), (0, u "[B"), (2, u "DigitTens"), (99, .class_ 190), (0, u "java/lang/Integer$IntegerCache"), (3, u "I"), (8, .class_ 204), (0, u "java/lang/Number"), (2, u "value"), (56, .integer 65536), (37, u "TYPE"), (0, u "Ljava/lang/Class;"), (0, .class_ 305), (0, u "java/lang/Comparable"), (0, .class_ 307), (0, u "java/lang/constant/Constable"), (0, .class_ 309), (0, u "java/lang/constant/ConstantDesc"), (0, u "MIN_VALUE"), (1, u "MAX_VALUE"), (3, u "SIZE"), (1, u "BYTES"), (1, u "serialVersionUID"), (0, u "J"), (84, u "numberOfTrailingZeros")] 46

def k12c0 : Code := { maxStack := 3, maxLocals := 2, code := jdk_33_method_48_code, exceptionTable := #[], attributes := #[] }
def k12m0 : Method := { name := "numberOfTrailingZeros", desc := "(I)I", sig := { parameters := [.int], returnType := some .int }, accessFlags := 9, code := some k12c0 }
/-- java/lang/Integer -/
def k12 : Class := { plain "java/lang/Integer" (some 9) with
  accessFlags := 49
  interfaces := #[5, 4, 10]
  cf := some (fileOf pool12 1 #[.nestMembers #[189]] #[{ accessFlags := 9, nameIndex := 406, descriptorIndex := 54, attributes := #[] }] 49 203 #[304, 306, 308] #[{ accessFlags := 25, nameIndex := 310, descriptorIndex := 194, attributes := #[] }, { accessFlags := 25, nameIndex := 312, descriptorIndex := 194, attributes := #[] }, { accessFlags := 25, nameIndex := 302, descriptorIndex := 303, attributes := #[] }, { accessFlags := 24, nameIndex := 19, descriptorIndex := 20, attributes := #[] }, { accessFlags := 24, nameIndex := 89, descriptorIndex := 86, attributes := #[] }, { accessFlags := 24, nameIndex := 85, descriptorIndex := 86, attributes := #[] }, { accessFlags := 18, nameIndex := 207, descriptorIndex := 194, attributes := #[] }, { accessFlags := 25, nameIndex := 316, descriptorIndex := 194, attributes := #[] }, { accessFlags := 25, nameIndex := 318, descriptorIndex := 194, attributes := #[] }, { accessFlags := 26, nameIndex := 320, descriptorIndex := 321, attributes := #[] }])
  fields := #[{ name := "MIN_VALUE", type := .int, accessFlags := 25, slot := 0, constantValue := 0 }, { name := "MAX_VALUE", type := .int, accessFlags := 25, slot := 1, constantValue := 0 }, { name := "TYPE", type := (.object "java/lang/Class"), accessFlags := 25, slot := 2, constantValue := 0 }, { name := "digits", type := (.array .char), accessFlags := 24, slot := 3, constantValue := 0 }, { name := "DigitTens", type := (.array .byte), accessFlags := 24, slot := 4, constantValue := 0 }, { name := "DigitOnes", type := (.array .byte), accessFlags := 24, slot := 5, constantValue := 0 }, { name := "value", type := .int, accessFlags := 18, slot := 0, constantValue := 0 }, { name := "SIZE", type := .int, accessFlags := 25, slot := 6, constantValue := 0 }, { name := "BYTES", type := .int, accessFlags := 25, slot := 7, constantValue := 0 }, { name := "serialVersionUID", type := .long, accessFlags := 26, slot := 8, constantValue := 0 }]
  methods := #[k12m0]
  instanceTypes := #[.int]
  staticTypes := #[.int, .int, (.object "java/lang/Class"), (.array .char), (.array .byte), (.array .byte), .int, .int, .long]
  resolved := Array.replicate 453 none
  statics := none }

def pool13 : Array CpInfo := pool [(2, .class_ 4), (1, u "java/lang/Object"), (0, u "<init>"), (0, u "()V"), (7, .class_ 16), (1, u "java/util/Arrays"), (57, .class_ 76), (1, u "java/util/Arrays$NaturalOrder"), (36, .class_ 115), (1, u "java/util/Arrays$LegacyMergeSort"), (1, u "Z"), (257, .class_ 376), (0, u "java/util/Arrays$ArrayList"), (68, u "$assertionsDisabled"), (269, u "MIN_ARRAY_SORT_GRAN"), (0, u "I"), (2, u "INSERTIONSORT_THRESHOLD"), (120, u "fill"), (4, u "([II)V"), (129, .class_ 976), (0, u "java/util/Arrays$ArrayItr")] 52

def k13m0 : Method := { name := "<init>", desc := "()V", sig := { parameters := [], returnType := none }, accessFlags := 2, code := none }
def k13c1 : Code := { maxStack := 3, maxLocals := 4, code := jdk_65_method_103_code, exceptionTable := #[], attributes := #[] }
def k13m1 : Method := { name := "fill", desc := "([II)V", sig := { parameters := [(.array .int), .int], returnType := none }, accessFlags := 9, code := some k13c1 }
/-- java/util/Arrays -/
def k13 : Class := { plain "java/util/Arrays" (some 0) with
  accessFlags := 49
  interfaces := #[]
  cf := some (fileOf pool13 14 #[.nestMembers #[975, 375, 113, 74]] #[{ accessFlags := 2, nameIndex := 5, descriptorIndex := 6, attributes := #[] }, { accessFlags := 9, nameIndex := 840, descriptorIndex := 845, attributes := #[] }] 49 2 #[] #[{ accessFlags := 26, nameIndex := 715, descriptorIndex := 716, attributes := #[] }, { accessFlags := 26, nameIndex := 719, descriptorIndex := 716, attributes := #[] }, { accessFlags := 4120, nameIndex := 445, descriptorIndex := 117, attributes := #[] }])
  fields := #[{ name := "MIN_ARRAY_SORT_GRAN", type := .int, accessFlags := 26, slot := 0, constantValue := 0 }, { name := "INSERTIONSORT_THRESHOLD", type := .int, accessFlags := 26, slot := 1, constantValue := 0 }, { name := "$assertionsDisabled", type := .boolean, accessFlags := 4120, slot := 2, constantValue := 0 }]
  methods := #[k13m0, k13m1]
  instanceTypes := #[]
  staticTypes := #[.int, .int, .boolean]
  resolved := Array.replicate 1029 none
  statics := none }

def pool14 : Array CpInfo := pool [(1, u "java/lang/Cloneable"), (0, .class_ 1), (0, u "java/lang/Object"), (0, .class_ 3)] 3

/-- java/lang/Cloneable -/
def k14 : Class := { plain "java/lang/Cloneable" (some 0) with
  accessFlags := 1537
  interfaces := #[]
  cf := some (fileOf pool14 2 #[] #[] 1537 4 #[] #[])
  fields := #[]
  methods := #[]
  instanceTypes := #[]
  staticTypes := #[]
  resolved := Array.replicate 8 none
  statics := none }

/-- the primitive byte -/
def k15 : Class := { plain "byte" none with kind := .primitive 'B', accessFlags := 0x411 }
/-- [B -/
def k16 : Class := { plain "[B" (some 0) with kind := .array 15 .byte, interfaces := #[14, 6], accessFlags := 1041 }

/-- the primitive int -/
def k17 : Class := { plain "int" none with kind := .primitive 'I', accessFlags := 0x411 }
/-- [I -/
def k18 : Class := { plain "[I" (some 0) with kind := .array 17 .int, interfaces := #[14, 6], accessFlags := 1041 }

/-- the primitive long -/
def k19 : Class := { plain "long" none with kind := .primitive 'J', accessFlags := 0x411 }
/-- [J -/
def k20 : Class := { plain "[J" (some 0) with kind := .array 19 .long, interfaces := #[14, 6], accessFlags := 1041 }

def heap : Heap := #[{ cls := 8, slots := #[.ref 1, .ref 2, .null], vm := .statics 8 },
  { cls := 8, slots := #[.null, .int 0, .int 0], vm := .none },
  { cls := 8, slots := #[.null, .int 1, .int 0], vm := .none }]
/-- [[J -/
def k21 : Class := { plain "[[J" (some 0) with kind := .array 20 (.array .long), interfaces := #[14, 6], accessFlags := 1041 }
def classes : Array Class := #[k0, k1, k2, k3, k4, k5, k6, k7, k8, k9, k10, k11, k12, k13, k14, k15, k16, k17, k18, k19, k20, k21]
def interned : List (Array UInt16 × Addr) := []
def slotsUsed : Nat := 9
def theMethod : MethodId := ⟨1, 1⟩
def args0 : Array Value := #[.int 5, .int 3, .int 1]
def aboutOver (below : List Frame) : State where
  vm := { classes := classes, interned := interned.toArray }
  heap := heap
  slotsUsed := slotsUsed
  threads := #[{ frames := .invoking theMethod args0 :: below }]
def below0 : List Frame := [.native { method := ⟨0, 0⟩, args := #[] }]
def about1 : State := aboutOver below0
def p0 : Program := .bare "" "" ""
def e0 : Env := launch0.env 0 0 0
theorem w_frames : about1.frames = Frame.invoking theMethod args0 :: below0 := rfl
set_option maxRecDepth 65536 in
theorem w_args : argsFit about1.vm theMethod args0 = true := by decide +kernel
set_option maxRecDepth 65536 in
theorem w_heap : heapFits about1 = true := by decide +kernel
set_option maxRecDepth 65536 in
theorem w_runnable : about1.curStatus? = some .runnable := by decide +kernel
set_option maxRecDepth 65536 in
theorem w_alone : about1.alone = true := by decide +kernel
set_option maxRecDepth 65536 in
theorem w_named : about1.methodNamed? x = some theMethod := by decide +kernel
set_option maxRecDepth 65536 in
theorem w_hears : about1.hears theMethod below0 = true := by decide +kernel
set_option maxRecDepth 65536 in
theorem w_ripe : about1.ripe theMethod args0 below0 = true := by decide +kernel
theorem w_running : about1.status = .running := rfl
set_option maxRecDepth 65536 in
theorem w_room : about1.hasRoom e0.platform room_1 = true :=
  launch0.hasRoom_least _ room_1 (by decide +kernel) (by decide +kernel) (by decide +kernel) (by decide +kernel) (by decide +kernel) (by decide +kernel)
theorem allAtoms_all (ts : List Jvm.Cond) (a : Array Jvm.Value) (st : Jvm.State) : (allAtoms ts).before a st = ts.all (fun c => c.before a st) := by
  induction ts with
  | nil => rfl
  | cons c t ih =>
    show (Jvm.Cond.and c (allAtoms t)).before a st = _
    rw [Jvm.Cond.before_and, ih, List.all_cons]
def words1 : List Jvm.Cond := Jvm.Cond.code x code maxLocals ret :: tables_1
/-- a 'code' word, met by the world's own term for the bytes: nothing is compared byte by byte -/
theorem code_word {y : MethodName} {bytes : ByteArray} {mx : Nat} {rt : Option FieldType} {a : Array Value} {s : State} {m : MethodId} {meth : Method} {c : Code} (h1 : s.methodNamed? y = some m) (h2 : s.vm.method? m = some meth) (h3 : meth.code = some c) (h4 : c.code = bytes)
    (h5 : (c.maxLocals == mx && c.exceptionTable.isEmpty && decide (c.maxStack ≤ mostOperands) && decide (meth.sig.returnType = rt) && !meth.locks && decide (parseMethodDescriptor y.desc = some meth.sig)) = true) : (Jvm.Cond.code y bytes mx rt).before a s = true := by
  simp only [Bool.and_eq_true, beq_iff_eq, Bool.not_eq_true', decide_eq_true_eq] at h5
  obtain ⟨⟨⟨⟨⟨g1, g2⟩, g3⟩, g4⟩, g5⟩, g6⟩ := h5
  simp [Cond.before, Cond.holds, Cond.value, h1, h2, h3, h4, g1, g2, g3, g4, g5, g6]
def isCode : Jvm.Cond → Bool
  | .code _ _ _ _ => true
  | _ => false
theorem all_split {L : List Jvm.Cond} {P : Jvm.Cond → Bool} (h1 : L.all (fun c => isCode c || P c) = true) (h2 : ∀ c ∈ L.filter isCode, P c = true) : L.all P = true := by
  refine List.all_eq_true.mpr fun c hc => ?_
  have h := List.all_eq_true.mp h1 c hc
  rcases Bool.eq_false_or_eq_true (isCode c) with hi | hi
  · exact h2 c (List.mem_filter.mpr ⟨hc, hi⟩)
  · simpa [hi] using h
set_option maxRecDepth 65536 in
theorem w_c0 : (Jvm.Cond.code x code maxLocals ret).before args0 about1 = true := code_word (m := ⟨1, 1⟩) (meth := k1m1) (c := k1c1) (by decide +kernel) rfl rfl rfl (by decide +kernel)
set_option maxRecDepth 65536 in
theorem w_c1 : (Jvm.Cond.code ({ cls := "java/lang/Math", name := "max", desc := "(II)I" } : Jvm.MethodName) jdk_29_method_65_code (2 : Nat) (Option.some Jvm.ClassFile.FieldType.int)).before args0 about1 = true := code_word (m := ⟨2, 1⟩) (meth := k2m1) (c := k2c1) (by decide +kernel) rfl rfl rfl (by decide +kernel)
set_option maxRecDepth 65536 in
theorem w_c2 : (Jvm.Cond.code ({ cls := "com/example/lumenplan/lumenplan/simulation/Wavelengths", name := "<init>", desc := "(II)V" } : Jvm.MethodName) prog_37_method_1_code (3 : Nat) (Option.none : Option Jvm.ClassFile.FieldType)).before args0 about1 = true := code_word (m := ⟨3, 0⟩) (meth := k3m0) (c := k3c0) (by decide +kernel) rfl rfl rfl (by decide +kernel)
set_option maxRecDepth 65536 in
theorem w_c3 : (Jvm.Cond.code ({ cls := "java/lang/Object", name := "<init>", desc := "()V" } : Jvm.MethodName) object_method_1_code (1 : Nat) (Option.none : Option Jvm.ClassFile.FieldType)).before args0 about1 = true := code_word (m := ⟨0, 0⟩) (meth := k0m0) (c := k0c0) (by decide +kernel) rfl rfl rfl (by decide +kernel)
set_option maxRecDepth 65536 in
theorem w_c4 : (Jvm.Cond.code ({ cls := "com/example/lumenplan/lumenplan/simulation/Wavelengths", name := "take", desc := "([ILcom/example/lumenplan/lumenplan/simulation/Conversion;)[I" } : Jvm.MethodName) prog_37_method_2_code (8 : Nat) (Option.some (Jvm.ClassFile.FieldType.array Jvm.ClassFile.FieldType.int))).before args0 about1 = true := code_word (m := ⟨3, 1⟩) (meth := k3m1) (c := k3c1) (by decide +kernel) rfl rfl rfl (by decide +kernel)
set_option maxRecDepth 65536 in
theorem w_c5 : (Jvm.Cond.code ({ cls := "com/example/lumenplan/lumenplan/simulation/Wavelengths", name := "lowestFree", desc := "([III)I" } : Jvm.MethodName) prog_37_method_4_code (9 : Nat) (Option.some Jvm.ClassFile.FieldType.int)).before args0 about1 = true := code_word (m := ⟨3, 3⟩) (meth := k3m3) (c := k3c3) (by decide +kernel) rfl rfl rfl (by decide +kernel)
set_option maxRecDepth 65536 in
theorem w_c6 : (Jvm.Cond.code ({ cls := "java/lang/Long", name := "numberOfTrailingZeros", desc := "(J)I" } : Jvm.MethodName) jdk_35_method_49_code (3 : Nat) (Option.some Jvm.ClassFile.FieldType.int)).before args0 about1 = true := code_word (m := ⟨11, 0⟩) (meth := k11m0) (c := k11c0) (by decide +kernel) rfl rfl rfl (by decide +kernel)
set_option maxRecDepth 65536 in
theorem w_c7 : (Jvm.Cond.code ({ cls := "java/lang/Integer", name := "numberOfTrailingZeros", desc := "(I)I" } : Jvm.MethodName) jdk_33_method_48_code (2 : Nat) (Option.some Jvm.ClassFile.FieldType.int)).before args0 about1 = true := code_word (m := ⟨12, 0⟩) (meth := k12m0) (c := k12c0) (by decide +kernel) rfl rfl rfl (by decide +kernel)
set_option maxRecDepth 65536 in
theorem w_c8 : (Jvm.Cond.code ({ cls := "java/util/Arrays", name := "fill", desc := "([II)V" } : Jvm.MethodName) jdk_65_method_103_code (4 : Nat) (Option.none : Option Jvm.ClassFile.FieldType)).before args0 about1 = true := code_word (m := ⟨13, 1⟩) (meth := k13m1) (c := k13c1) (by decide +kernel) rfl rfl rfl (by decide +kernel)
set_option maxRecDepth 65536 in
theorem w_c9 : (Jvm.Cond.code ({ cls := "com/example/lumenplan/lumenplan/simulation/Wavelengths", name := "reaching", desc := "(II)[J" } : Jvm.MethodName) prog_37_method_5_code (4 : Nat) (Option.some (Jvm.ClassFile.FieldType.array Jvm.ClassFile.FieldType.long))).before args0 about1 = true := code_word (m := ⟨3, 4⟩) (meth := k3m4) (c := k3c4) (by decide +kernel) rfl rfl rfl (by decide +kernel)
set_option maxRecDepth 65536 in
theorem w_c10 : (Jvm.Cond.code ({ cls := "com/example/lumenplan/lumenplan/simulation/Wavelengths", name := "release", desc := "([I[I)V" } : Jvm.MethodName) prog_37_method_3_code (4 : Nat) (Option.none : Option Jvm.ClassFile.FieldType)).before args0 about1 = true := code_word (m := ⟨3, 2⟩) (meth := k3m2) (c := k3c2) (by decide +kernel) rfl rfl rfl (by decide +kernel)
set_option maxRecDepth 65536 in
theorem w_c11 : (Jvm.Cond.code ({ cls := "com/example/lumenplan/lumenplan/simulation/WavelengthsReleasePinLaw", name := "lowest", desc := "(ZZZI)I" } : Jvm.MethodName) method_3_code (5 : Nat) (Option.some Jvm.ClassFile.FieldType.int)).before args0 about1 = true := code_word (m := ⟨1, 2⟩) (meth := k1m2) (c := k1c2) (by decide +kernel) rfl rfl rfl (by decide +kernel)
def codes1 : List Jvm.Cond := [Jvm.Cond.code x code maxLocals ret, Jvm.Cond.code ({ cls := "java/lang/Math", name := "max", desc := "(II)I" } : Jvm.MethodName) jdk_29_method_65_code (2 : Nat) (Option.some Jvm.ClassFile.FieldType.int), Jvm.Cond.code ({ cls := "com/example/lumenplan/lumenplan/simulation/Wavelengths", name := "<init>", desc := "(II)V" } : Jvm.MethodName) prog_37_method_1_code (3 : Nat) (Option.none : Option Jvm.ClassFile.FieldType), Jvm.Cond.code ({ cls := "java/lang/Object", name := "<init>", desc := "()V" } : Jvm.MethodName) object_method_1_code (1 : Nat) (Option.none : Option Jvm.ClassFile.FieldType), Jvm.Cond.code ({ cls := "com/example/lumenplan/lumenplan/simulation/Wavelengths", name := "take", desc := "([ILcom/example/lumenplan/lumenplan/simulation/Conversion;)[I" } : Jvm.MethodName) prog_37_method_2_code (8 : Nat) (Option.some (Jvm.ClassFile.FieldType.array Jvm.ClassFile.FieldType.int)), Jvm.Cond.code ({ cls := "com/example/lumenplan/lumenplan/simulation/Wavelengths", name := "lowestFree", desc := "([III)I" } : Jvm.MethodName) prog_37_method_4_code (9 : Nat) (Option.some Jvm.ClassFile.FieldType.int), Jvm.Cond.code ({ cls := "java/lang/Long", name := "numberOfTrailingZeros", desc := "(J)I" } : Jvm.MethodName) jdk_35_method_49_code (3 : Nat) (Option.some Jvm.ClassFile.FieldType.int), Jvm.Cond.code ({ cls := "java/lang/Integer", name := "numberOfTrailingZeros", desc := "(I)I" } : Jvm.MethodName) jdk_33_method_48_code (2 : Nat) (Option.some Jvm.ClassFile.FieldType.int), Jvm.Cond.code ({ cls := "java/util/Arrays", name := "fill", desc := "([II)V" } : Jvm.MethodName) jdk_65_method_103_code (4 : Nat) (Option.none : Option Jvm.ClassFile.FieldType), Jvm.Cond.code ({ cls := "com/example/lumenplan/lumenplan/simulation/Wavelengths", name := "reaching", desc := "(II)[J" } : Jvm.MethodName) prog_37_method_5_code (4 : Nat) (Option.some (Jvm.ClassFile.FieldType.array Jvm.ClassFile.FieldType.long)), Jvm.Cond.code ({ cls := "com/example/lumenplan/lumenplan/simulation/Wavelengths", name := "release", desc := "([I[I)V" } : Jvm.MethodName) prog_37_method_3_code (4 : Nat) (Option.none : Option Jvm.ClassFile.FieldType), Jvm.Cond.code ({ cls := "com/example/lumenplan/lumenplan/simulation/WavelengthsReleasePinLaw", name := "lowest", desc := "(ZZZI)I" } : Jvm.MethodName) method_3_code (5 : Nat) (Option.some Jvm.ClassFile.FieldType.int)]
set_option maxRecDepth 65536 in
theorem codes_eq : words1.filter isCode = codes1 := rfl
theorem w_codes : ∀ c ∈ words1.filter isCode, c.before args0 about1 = true := by
  rw [codes_eq]
  intro c hc
  simp only [codes1, List.mem_cons, List.not_mem_nil, or_false] at hc
  rcases hc with rfl | rfl | rfl | rfl | rfl | rfl | rfl | rfl | rfl | rfl | rfl | rfl
  · exact w_c0
  · exact w_c1
  · exact w_c2
  · exact w_c3
  · exact w_c4
  · exact w_c5
  · exact w_c6
  · exact w_c7
  · exact w_c8
  · exact w_c9
  · exact w_c10
  · exact w_c11
set_option maxRecDepth 65536 in
theorem w_t1 : (words1.take 24).all (fun c => isCode c || c.before args0 about1) = true := by decide +kernel
set_option maxRecDepth 65536 in
theorem w_t2 : ((words1.drop 24).take 24).all (fun c => isCode c || c.before args0 about1) = true := by decide +kernel
set_option maxRecDepth 65536 in
theorem w_t3 : ((words1.drop 24).drop 24).all (fun c => isCode c || c.before args0 about1) = true := by decide +kernel
theorem w_tables : (allAtoms (Jvm.Cond.code x code maxLocals ret :: tables_1)).before args0 about1 = true := by
  rw [allAtoms_all]
  show words1.all (fun c => c.before args0 about1) = true
  refine all_split ?_ w_codes
  rw [← List.take_append_drop 24 words1, List.all_append, w_t1, ← List.take_append_drop 24 (words1.drop 24), List.all_append, w_t2, w_t3]
  rfl
set_option maxRecDepth 65536 in
theorem w_case : (Jvm.Cond.and given_1 narrow_1).before args0 about1 = true := by decide +kernel
theorem w_applies : (headSpec (Jvm.Cond.code x code maxLocals ret :: tables_1) room_1).applies x e0.platform about1 = true :=
  (Spec.applies_iff w_frames).mpr ⟨w_running, w_runnable, w_alone, w_named, w_hears, w_ripe, w_room, w_tables⟩
theorem atStart : AtStart classFile x code maxLocals ret World_1 tables_1 room_1 Calls_1 rest_1 Pre_1 launch0 p0 e0 about1 theMethod args0 below0 :=
  ⟨lists_1, trivial, launch0.admits_env _ _ _, launch0.least_env, fairChoices_fair.cas, fairChoices_fair.clock, w_frames, w_args, w_heap, w_applies, trivial, trivial, w_case⟩
end start1
theorem witness_1 : WitnessClaimed_1 := ⟨start1.p0, start1.e0, start1.about1, start1.theMethod, start1.args0, start1.below0, start1.atStart⟩
end Jvm.Pilot.@@N@@
