import JvmDerived
import JvmDerived.Pilot.@@N@@Statement
import JvmDerived.Pilot.@@N@@Code
set_option linter.unusedVariables false
set_option linter.unusedSimpArgs false
namespace Jvm.RoadKit
open Sem ClassFile Op Lib Jvm.Stand Jvm.Free Jvm.LawKit
section New
variable {p : Program} {l : Launch} {e : Env} {R : Room} {s : State} {m : MethodId} {args : Array Value} {below : List Frame} {meth : Method} {c : Code} {T : State} {locs : List Loc} {cells slots : Nat}
/-- what a body hands back: the value r, and K of the heap and the places at its end -/
def own_Q (r : Option Value) (K : Heap → List Loc → Prop) (v : Option Value) (h : Heap) (L : List Loc) : Prop := v = r ∧ K h L
/-- nothing is written, nothing is made -/
def own_K0 (h0 : Heap) (h : Heap) (L : List Loc) : Prop := L = [] ∧ h = h0
/-- from F on the run returns r with K -/
def own_Go (p : Program) (e : Env) (below : List Frame) (s : State) (C N : Nat) (r : Option Value) (K : Heap → List Loc → Prop) (F : State) : Prop :=
  ∃ s₂ o, Steps p.tables e below F s₂ ∧ s₂.status = .running ∧ Ended s₂ below o ∧ ∃ v L, o = .returned v ∧ own_Q r K v s₂.heap L ∧ FrameEnd s o s₂ L C N
theorem own_pre {C N : Nat} {r : Option Value} {K : Heap → List Loc → Prop} {F F' : State} (h : ∀ t, Steps p.tables e below F' t → Steps p.tables e below F t) (g : own_Go p e below s C N r K F') : own_Go p e below s C N r K F := by
  obtain ⟨t, o, a, b⟩ := g
  exact ⟨t, o, h t a, b⟩
theorem own_iteI {C N : Nat} {K : Heap → List Loc → Prop} {F : State} {P : Prop} [Decidable P] {a b : Int32} (h1 : P → own_Go p e below s C N (some (.int a)) K F) (h2 : ¬ P → own_Go p e below s C N (some (.int b)) K F) : own_Go p e below s C N (some (.int (if P then a else b))) K F := by
  by_cases q : P
  · rw [if_pos q]; exact h1 q
  · rw [if_neg q]; exact h2 q
theorem own_iteJ {C N : Nat} {K : Heap → List Loc → Prop} {F : State} {P : Prop} [Decidable P] {a b : Int64} (h1 : P → own_Go p e below s C N (some (.long a)) K F) (h2 : ¬ P → own_Go p e below s C N (some (.long b)) K F) : own_Go p e below s C N (some (.long (if P then a else b))) K F := by
  by_cases q : P
  · rw [if_pos q]; exact h1 q
  · rw [if_neg q]; exact h2 q
theorem own_iteR {C N : Nat} {K : Heap → List Loc → Prop} {F : State} {P : Prop} [Decidable P] {a b : Addr} (h1 : P → own_Go p e below s C N (some (.ref a)) K F) (h2 : ¬ P → own_Go p e below s C N (some (.ref b)) K F) : own_Go p e below s C N (some (.ref (if P then a else b))) K F := by
  by_cases q : P
  · rw [if_pos q]; exact h1 q
  · rw [if_neg q]; exact h2 q
theorem own_iteV {C N : Nat} {K : Heap → List Loc → Prop} {F : State} {P : Prop} [Decidable P] {a b : Value} (h1 : P → own_Go p e below s C N (some a) K F) (h2 : ¬ P → own_Go p e below s C N (some b) K F) : own_Go p e below s C N (some (if P then a else b)) K F := by
  by_cases q : P
  · rw [if_pos q]; exact h1 q
  · rw [if_neg q]; exact h2 q
theorem own_ret (X : Stand p l e R s m args below meth c T locs cells slots) (hx : p.tables.exec = Jvm.exec) (hlocks : meth.locks = false) {pc : Nat} {Ls : Array Slot} {w : Value} {t : FieldType} {i : Instr} {rest : List Value} {C N : Nat} {K : Heap → List Loc → Prop} (hret : meth.sig.returnType = some t) (hn : narrow t w = w)
    (hi : (i = .ireturn ∧ (t = .int ∨ t = .boolean ∨ t = .byte ∨ t = .char ∨ t = .short) ∧ ∃ z, w = .int z) ∨ (i = .lreturn ∧ t = .long ∧ ∃ z, w = .long z) ∨ (i = .areturn ∧ t.isReference = true ∧ w.isRef = true))
    (hd : decode c.code pc = .ok (i, 1)) (hK : K T.heap locs) (hC : cells ≤ C) (hN : slots ≤ N) : own_Go p e below s C N (some w) K (T.setTop (mkF m pc Ls (w :: rest))) := by
  obtain ⟨fs, hr, hrun, hended, hW, hsame⟩ := X.leave (v := some w) (fun h => by rw [hret] at h; cases h)
  refine ⟨_, _, retOut X hx hret hn ?_ hd hr, hrun, hended, _, _, rfl, ⟨rfl, hK⟩, ⟨_, rfl⟩, hW, hsame.mono hC hN⟩
  rcases hi with h | h | h
  · exact Or.inl h
  · exact Or.inr (Or.inl h)
  · exact Or.inr (Or.inr (Or.inr (Or.inr h)))
theorem own_retN (X : Stand p l e R s m args below meth c T locs cells slots) (hx : p.tables.exec = Jvm.exec) (hlocks : meth.locks = false) {pc : Nat} {Ls : Array Slot} {z : Int32} {t : FieldType} {rest : List Value} {C N : Nat} {K : Heap → List Loc → Prop} (hret : meth.sig.returnType = some t) (ht : t = .boolean ∨ t = .byte ∨ t = .char ∨ t = .short)
    (hd : decode c.code pc = .ok (.ireturn, 1)) (hK : K T.heap locs) (hC : cells ≤ C) (hN : slots ≤ N) : own_Go p e below s C N (some (.int (nar t z))) K (T.setTop (mkF m pc Ls (.int z :: rest))) := by
  obtain ⟨fs, hr, hrun, hended, hW, hsame⟩ := X.leave (v := some (.int (nar t z))) (fun h => by rw [hret] at h; cases h)
  exact ⟨_, _, retN X hx hret ht hd hr, hrun, hended, _, _, rfl, ⟨rfl, hK⟩, ⟨_, rfl⟩, hW, hsame.mono hC hN⟩
theorem own_retV (X : Stand p l e R s m args below meth c T locs cells slots) (hx : p.tables.exec = Jvm.exec) (hlocks : meth.locks = false) {pc : Nat} {Ls : Array Slot} {C N : Nat} {K : Heap → List Loc → Prop} (hret : meth.sig.returnType = none)
    (hd : decode c.code pc = .ok (.return_, 1)) (hK : K T.heap locs) (hC : cells ≤ C) (hN : slots ≤ N) : own_Go p e below s C N none K (T.setTop (mkF m pc Ls [])) := by
  obtain ⟨fs, hr, hrun, hended, hW, hsame⟩ := X.leave (v := none) (fun _ => rfl)
  exact ⟨_, _, X.returnOut hx hret hd hr, hrun, hended, _, _, rfl, ⟨rfl, hK⟩, ⟨_, rfl⟩, hW, hsame.mono hC hN⟩
theorem own_lremM {g : JFrame} {target : State} (X : Stand p l e R s m args below meth c T locs cells slots) (hx : p.tables.exec = Jvm.exec) (hg : g.method = m) {x y : Int64} {rest : List Value} (hd : decode c.code g.pc = .ok (.lrem, 1)) (hs : g.stack = .long y :: .long x :: rest) (hy : y ≠ 0)
    (hr : Steps p.tables e below (T.setTop { g with pc := g.pc + 1, stack := .long (x % y) :: rest }) target) : Steps p.tables e below (T.setTop g) target :=
  XS.lrem X.here hx hg hd hs hy (by rw [lrem_mod]; exact hr)
theorem own_nar (z : Int32) : nar .boolean z = z &&& 1 := rfl
end New
end Jvm.RoadKit
namespace Jvm.Pilot.@@N@@
open Jvm Jvm.ClassFile Sem Op Lib Jvm.Free Jvm.Stand Jvm.LawKit Jvm.RoadKit Bundle Jvm.Pilot.@@N@@.Jvm.D
/-! body 1 -/
theorem d1_0 : decode method_2_code 0 = .ok (.iload 5, 2) := by decide +kernel
theorem d1_2 : decode method_2_code 2 = .ok (.iconst 3, 1) := by decide +kernel
theorem d1_3 : decode method_2_code 3 = .ok (.iand, 1) := by decide +kernel
theorem d1_4 : decode method_2_code 4 = .ok (.istore 6, 2) := by decide +kernel
theorem d1_6 : decode method_2_code 6 = .ok (.iload 6, 2) := by decide +kernel
theorem d1_8 : decode method_2_code 8 = .ok (.ifCond .ne 7, 3) := by decide +kernel
theorem d1_11 : decode method_2_code 11 = .ok (.lload_n 0, 1) := by decide +kernel
theorem d1_12 : decode method_2_code 12 = .ok (.lconst 1, 1) := by decide +kernel
theorem d1_13 : decode method_2_code 13 = .ok (.ladd, 1) := by decide +kernel
theorem d1_14 : decode method_2_code 14 = .ok (.lreturn, 1) := by decide +kernel
theorem d1_15 : decode method_2_code 15 = .ok (.iload 6, 2) := by decide +kernel
theorem d1_17 : decode method_2_code 17 = .ok (.iconst 1, 1) := by decide +kernel
theorem d1_18 : decode method_2_code 18 = .ok (.if_icmp .ne 14, 3) := by decide +kernel
theorem d1_21 : decode method_2_code 21 = .ok (.lload_n 2, 1) := by decide +kernel
theorem d1_22 : decode method_2_code 22 = .ok (.bipush 32, 2) := by decide +kernel
theorem d1_24 : decode method_2_code 24 = .ok (.lshl, 1) := by decide +kernel
theorem d1_25 : decode method_2_code 25 = .ok (.iload 4, 2) := by decide +kernel
theorem d1_27 : decode method_2_code 27 = .ok (.iconst 3, 1) := by decide +kernel
theorem d1_28 : decode method_2_code 28 = .ok (.iand, 1) := by decide +kernel
theorem d1_29 : decode method_2_code 29 = .ok (.i2l, 1) := by decide +kernel
theorem d1_30 : decode method_2_code 30 = .ok (.lor, 1) := by decide +kernel
theorem d1_31 : decode method_2_code 31 = .ok (.lreturn, 1) := by decide +kernel
theorem d1_32 : decode method_2_code 32 = .ok (.iload 6, 2) := by decide +kernel
theorem d1_34 : decode method_2_code 34 = .ok (.iconst 2, 1) := by decide +kernel
theorem d1_35 : decode method_2_code 35 = .ok (.if_icmp .ne 5, 3) := by decide +kernel
theorem d1_38 : decode method_2_code 38 = .ok (.lload_n 2, 1) := by decide +kernel
theorem d1_39 : decode method_2_code 39 = .ok (.lreturn, 1) := by decide +kernel
theorem d1_40 : decode method_2_code 40 = .ok (.iload 4, 2) := by decide +kernel
theorem d1_42 : decode method_2_code 42 = .ok (.iconst 3, 1) := by decide +kernel
theorem d1_43 : decode method_2_code 43 = .ok (.irem, 1) := by decide +kernel
theorem d1_44 : decode method_2_code 44 = .ok (.i2l, 1) := by decide +kernel
theorem d1_45 : decode method_2_code 45 = .ok (.lstore 7, 2) := by decide +kernel
theorem d1_47 : decode method_2_code 47 = .ok (.lload_n 0, 1) := by decide +kernel
theorem d1_48 : decode method_2_code 48 = .ok (.bipush 32, 2) := by decide +kernel
theorem d1_50 : decode method_2_code 50 = .ok (.lushr, 1) := by decide +kernel
theorem d1_51 : decode method_2_code 51 = .ok (.lload 7, 2) := by decide +kernel
theorem d1_53 : decode method_2_code 53 = .ok (.ladd, 1) := by decide +kernel
theorem d1_54 : decode method_2_code 54 = .ok (.bipush 32, 2) := by decide +kernel
theorem d1_56 : decode method_2_code 56 = .ok (.lshl, 1) := by decide +kernel
theorem d1_57 : decode method_2_code 57 = .ok (.lconst 1, 1) := by decide +kernel
theorem d1_58 : decode method_2_code 58 = .ok (.lor, 1) := by decide +kernel
theorem d1_59 : decode method_2_code 59 = .ok (.lreturn, 1) := by decide +kernel
theorem own_pn0 : plainName "com/example/ord3/ord3/ZxidFollowsPinLaw" = true := by first | (simp [plainName, overriddenIn]; done) | decide +kernel
def f1_0 (q0 : Int64) (q1 : Int64) (p2 : Int32) (p3 : Int32) : Int64 := (if (p3 &&& (3 : Int32)) = (0 : Int32) then (q0 + (1 : Int64)) else (if (p3 &&& (3 : Int32)) = (1 : Int32) then ((q1 <<< ((32 : Int32) &&& 0x3f).toInt64) ||| ((p2 &&& (3 : Int32)).toInt64)) else (if (p3 &&& (3 : Int32)) = (2 : Int32) then q1 else (((((q0.toUInt64 >>> ((32 : Int32) &&& 0x3f).toInt64.toUInt64).toInt64) + ((p2 % (3 : Int32)).toInt64)) <<< ((32 : Int32) &&& 0x3f).toInt64) ||| (1 : Int64)))))
set_option maxRecDepth 65536 in
set_option maxHeartbeats 40000000 in
theorem g1_0 {p : Program} {l : Launch} {e : Env} {s : State} {m : MethodId} {below : List Frame} {meth : Method} {c : Code} {s₁ : State} {ws : List Jvm.Cond} {Z : State} {aw : Array Value} (hw : ∀ d ∈ tables_1, d.before aw Z = true) {h0 : Heap} (q0 : Int64) (q1 : Int64) (p2 : Int32) (p3 : Int32)
    (Bd : BodyLoose p l (⟨"com/example/ord3/ord3/ZxidFollowsPinLaw", "pickNext", "(JJII)J"⟩ : MethodName) (head1 (Jvm.Cond.code (⟨"com/example/ord3/ord3/ZxidFollowsPinLaw", "pickNext", "(JJII)J"⟩ : MethodName) method_2_code 9 (some .long) :: ws) ({ frames := 0, cells := 0, slots := 0, locals := 0 } : Room)) method_2_code 9 (some .long) e s m #[(.long q0), (.long q1), (.int p2), (.int p3)] below meth c s₁) (hml : c.maxLocals = 9) (hZ : Z.Warmed39 s.vm) (T0 : State) (X0 : Stand p l e ({ frames := 0, cells := 0, slots := 0, locals := 0 } : Room) s m #[(.long q0), (.long q1), (.int p2), (.int p3)] below meth c T0 [] 0 0) (e0 : T0.heap = h0) :
    own_Go p e below s ({ frames := 0, cells := 0, slots := 0, locals := 0 } : Room).cells ({ frames := 0, cells := 0, slots := 0, locals := 0 } : Room).slots (some (.long (f1_0 q0 q1 p2 p3))) (own_K0 h0) (T0.setTop (mkF m 0 #[.val (.long q0), .second, .val (.long q1), .second, .val (.int p2), .val (.int p3), .unset, .unset, .unset] [])) := by
  have hx := Bd.exec
  have hby := Bd.bytes
  have hown : s.vm.findClass "com/example/ord3/ord3/ZxidFollowsPinLaw" = some m.cls := findClass_of_methodNamed Bd.named
  unfold f1_0
  refine own_pre (F' := T0.setTop (mkF m 2 #[.val (.long q0), .second, .val (.long q1), .second, .val (.int p2), .val (.int p3), .unset, .unset, .unset] [(.int p3)])) (fun _ k => XS.iload X0.here hx rfl (hb hby d1_0) rfl k) ?_
  refine own_pre (F' := T0.setTop (mkF m 3 #[.val (.long q0), .second, .val (.long q1), .second, .val (.int p2), .val (.int p3), .unset, .unset, .unset] [(.int (3 : Int32)), (.int p3)])) (fun _ k => XS.iconst X0.here hx rfl (hb hby d1_2) k) ?_
  refine own_pre (F' := T0.setTop (mkF m 4 #[.val (.long q0), .second, .val (.long q1), .second, .val (.int p2), .val (.int p3), .unset, .unset, .unset] [(.int (p3 &&& (3 : Int32)))])) (fun _ k => XS.iand X0.here hx rfl (hb hby d1_3) rfl k) ?_
  refine own_pre (F' := T0.setTop (mkF m 6 #[.val (.long q0), .second, .val (.long q1), .second, .val (.int p2), .val (.int p3), .val (.int (p3 &&& (3 : Int32))), .unset, .unset] [])) (fun _ k => XS.istore X0.here hx rfl (hb hby d1_4) rfl (l' := #[.val (.long q0), .second, .val (.long q1), .second, .val (.int p2), .val (.int p3), .val (.int (p3 &&& (3 : Int32))), .unset, .unset]) rfl k) ?_
  refine own_pre (F' := T0.setTop (mkF m 8 #[.val (.long q0), .second, .val (.long q1), .second, .val (.int p2), .val (.int p3), .val (.int (p3 &&& (3 : Int32))), .unset, .unset] [(.int (p3 &&& (3 : Int32)))])) (fun _ k => XS.iload X0.here hx rfl (hb hby d1_6) rfl k) ?_
  refine own_iteJ (fun hc8 => ?_) (fun hc8 => ?_)
  · skip
    refine own_pre (F' := T0.setTop (mkF m 11 #[.val (.long q0), .second, .val (.long q1), .second, .val (.int p2), .val (.int p3), .val (.int (p3 &&& (3 : Int32))), .unset, .unset] [])) (fun _ k => XS.ifNo X0.here hx rfl (hb hby d1_8) rfl ((if0 _ _).trans (teq hc8).2) k) ?_
    refine own_pre (F' := T0.setTop (mkF m 12 #[.val (.long q0), .second, .val (.long q1), .second, .val (.int p2), .val (.int p3), .val (.int (p3 &&& (3 : Int32))), .unset, .unset] [(.long q0)])) (fun _ k => XS.lloadN X0.here hx rfl (hb hby d1_11) rfl k) ?_
    refine own_pre (F' := T0.setTop (mkF m 13 #[.val (.long q0), .second, .val (.long q1), .second, .val (.int p2), .val (.int p3), .val (.int (p3 &&& (3 : Int32))), .unset, .unset] [(.long (1 : Int64)), (.long q0)])) (fun _ k => XS.lconst X0.here hx rfl (hb hby d1_12) k) ?_
    refine own_pre (F' := T0.setTop (mkF m 14 #[.val (.long q0), .second, .val (.long q1), .second, .val (.int p2), .val (.int p3), .val (.int (p3 &&& (3 : Int32))), .unset, .unset] [(.long (q0 + (1 : Int64)))])) (fun _ k => XS.ladd X0.here hx rfl (hb hby d1_13) rfl k) ?_
    exact own_ret X0 hx Bd.notSynchronized Bd.returns rfl (Or.inr (Or.inl ⟨rfl, rfl, _, rfl⟩)) (hb hby d1_14) ⟨rfl, e0⟩ (by decide) (by decide)
  · skip
    refine own_pre (F' := T0.setTop (mkF m 15 #[.val (.long q0), .second, .val (.long q1), .second, .val (.int p2), .val (.int p3), .val (.int (p3 &&& (3 : Int32))), .unset, .unset] [])) (fun _ k => XS.ifYes X0.here hx rfl (pc0 := 8) (pc' := 15) rfl (hb hby d1_8) rfl ((if0 _ _).trans (feq hc8).2) (by decide) (by decide) k) ?_
    refine own_pre (F' := T0.setTop (mkF m 17 #[.val (.long q0), .second, .val (.long q1), .second, .val (.int p2), .val (.int p3), .val (.int (p3 &&& (3 : Int32))), .unset, .unset] [(.int (p3 &&& (3 : Int32)))])) (fun _ k => XS.iload X0.here hx rfl (hb hby d1_15) rfl k) ?_
    refine own_pre (F' := T0.setTop (mkF m 18 #[.val (.long q0), .second, .val (.long q1), .second, .val (.int p2), .val (.int p3), .val (.int (p3 &&& (3 : Int32))), .unset, .unset] [(.int (1 : Int32)), (.int (p3 &&& (3 : Int32)))])) (fun _ k => XS.iconst X0.here hx rfl (hb hby d1_17) k) ?_
    refine own_iteJ (fun hc18 => ?_) (fun hc18 => ?_)
    · skip
      refine own_pre (F' := T0.setTop (mkF m 21 #[.val (.long q0), .second, .val (.long q1), .second, .val (.int p2), .val (.int p3), .val (.int (p3 &&& (3 : Int32))), .unset, .unset] [])) (fun _ k => XS.icmpNo X0.here hx rfl (hb hby d1_18) rfl (teq hc18).2 k) ?_
      refine own_pre (F' := T0.setTop (mkF m 22 #[.val (.long q0), .second, .val (.long q1), .second, .val (.int p2), .val (.int p3), .val (.int (p3 &&& (3 : Int32))), .unset, .unset] [(.long q1)])) (fun _ k => XS.lloadN X0.here hx rfl (hb hby d1_21) rfl k) ?_
      refine own_pre (F' := T0.setTop (mkF m 24 #[.val (.long q0), .second, .val (.long q1), .second, .val (.int p2), .val (.int p3), .val (.int (p3 &&& (3 : Int32))), .unset, .unset] [(.int (32 : Int32)), (.long q1)])) (fun _ k => XS.bipush X0.here hx rfl (hb hby d1_22) k) ?_
      refine own_pre (F' := T0.setTop (mkF m 25 #[.val (.long q0), .second, .val (.long q1), .second, .val (.int p2), .val (.int p3), .val (.int (p3 &&& (3 : Int32))), .unset, .unset] [(.long (q1 <<< ((32 : Int32) &&& 0x3f).toInt64))])) (fun _ k => XS.lshl X0.here hx rfl (hb hby d1_24) rfl k) ?_
      refine own_pre (F' := T0.setTop (mkF m 27 #[.val (.long q0), .second, .val (.long q1), .second, .val (.int p2), .val (.int p3), .val (.int (p3 &&& (3 : Int32))), .unset, .unset] [(.int p2), (.long (q1 <<< ((32 : Int32) &&& 0x3f).toInt64))])) (fun _ k => XS.iload X0.here hx rfl (hb hby d1_25) rfl k) ?_
      refine own_pre (F' := T0.setTop (mkF m 28 #[.val (.long q0), .second, .val (.long q1), .second, .val (.int p2), .val (.int p3), .val (.int (p3 &&& (3 : Int32))), .unset, .unset] [(.int (3 : Int32)), (.int p2), (.long (q1 <<< ((32 : Int32) &&& 0x3f).toInt64))])) (fun _ k => XS.iconst X0.here hx rfl (hb hby d1_27) k) ?_
      refine own_pre (F' := T0.setTop (mkF m 29 #[.val (.long q0), .second, .val (.long q1), .second, .val (.int p2), .val (.int p3), .val (.int (p3 &&& (3 : Int32))), .unset, .unset] [(.int (p2 &&& (3 : Int32))), (.long (q1 <<< ((32 : Int32) &&& 0x3f).toInt64))])) (fun _ k => XS.iand X0.here hx rfl (hb hby d1_28) rfl k) ?_
      refine own_pre (F' := T0.setTop (mkF m 30 #[.val (.long q0), .second, .val (.long q1), .second, .val (.int p2), .val (.int p3), .val (.int (p3 &&& (3 : Int32))), .unset, .unset] [(.long ((p2 &&& (3 : Int32)).toInt64)), (.long (q1 <<< ((32 : Int32) &&& 0x3f).toInt64))])) (fun _ k => XS.i2l X0.here hx rfl (hb hby d1_29) rfl k) ?_
      refine own_pre (F' := T0.setTop (mkF m 31 #[.val (.long q0), .second, .val (.long q1), .second, .val (.int p2), .val (.int p3), .val (.int (p3 &&& (3 : Int32))), .unset, .unset] [(.long ((q1 <<< ((32 : Int32) &&& 0x3f).toInt64) ||| ((p2 &&& (3 : Int32)).toInt64)))])) (fun _ k => XS.lor X0.here hx rfl (hb hby d1_30) rfl k) ?_
      exact own_ret X0 hx Bd.notSynchronized Bd.returns rfl (Or.inr (Or.inl ⟨rfl, rfl, _, rfl⟩)) (hb hby d1_31) ⟨rfl, e0⟩ (by decide) (by decide)
    · skip
      refine own_pre (F' := T0.setTop (mkF m 32 #[.val (.long q0), .second, .val (.long q1), .second, .val (.int p2), .val (.int p3), .val (.int (p3 &&& (3 : Int32))), .unset, .unset] [])) (fun _ k => XS.icmpYes X0.here hx rfl (pc0 := 18) (pc' := 32) rfl (hb hby d1_18) rfl (feq hc18).2 (by decide) (by decide) k) ?_
      refine own_pre (F' := T0.setTop (mkF m 34 #[.val (.long q0), .second, .val (.long q1), .second, .val (.int p2), .val (.int p3), .val (.int (p3 &&& (3 : Int32))), .unset, .unset] [(.int (p3 &&& (3 : Int32)))])) (fun _ k => XS.iload X0.here hx rfl (hb hby d1_32) rfl k) ?_
      refine own_pre (F' := T0.setTop (mkF m 35 #[.val (.long q0), .second, .val (.long q1), .second, .val (.int p2), .val (.int p3), .val (.int (p3 &&& (3 : Int32))), .unset, .unset] [(.int (2 : Int32)), (.int (p3 &&& (3 : Int32)))])) (fun _ k => XS.iconst X0.here hx rfl (hb hby d1_34) k) ?_
      refine own_iteJ (fun hc35 => ?_) (fun hc35 => ?_)
      · skip
        refine own_pre (F' := T0.setTop (mkF m 38 #[.val (.long q0), .second, .val (.long q1), .second, .val (.int p2), .val (.int p3), .val (.int (p3 &&& (3 : Int32))), .unset, .unset] [])) (fun _ k => XS.icmpNo X0.here hx rfl (hb hby d1_35) rfl (teq hc35).2 k) ?_
        refine own_pre (F' := T0.setTop (mkF m 39 #[.val (.long q0), .second, .val (.long q1), .second, .val (.int p2), .val (.int p3), .val (.int (p3 &&& (3 : Int32))), .unset, .unset] [(.long q1)])) (fun _ k => XS.lloadN X0.here hx rfl (hb hby d1_38) rfl k) ?_
        exact own_ret X0 hx Bd.notSynchronized Bd.returns rfl (Or.inr (Or.inl ⟨rfl, rfl, _, rfl⟩)) (hb hby d1_39) ⟨rfl, e0⟩ (by decide) (by decide)
      · skip
        refine own_pre (F' := T0.setTop (mkF m 40 #[.val (.long q0), .second, .val (.long q1), .second, .val (.int p2), .val (.int p3), .val (.int (p3 &&& (3 : Int32))), .unset, .unset] [])) (fun _ k => XS.icmpYes X0.here hx rfl (pc0 := 35) (pc' := 40) rfl (hb hby d1_35) rfl (feq hc35).2 (by decide) (by decide) k) ?_
        refine own_pre (F' := T0.setTop (mkF m 42 #[.val (.long q0), .second, .val (.long q1), .second, .val (.int p2), .val (.int p3), .val (.int (p3 &&& (3 : Int32))), .unset, .unset] [(.int p2)])) (fun _ k => XS.iload X0.here hx rfl (hb hby d1_40) rfl k) ?_
        refine own_pre (F' := T0.setTop (mkF m 43 #[.val (.long q0), .second, .val (.long q1), .second, .val (.int p2), .val (.int p3), .val (.int (p3 &&& (3 : Int32))), .unset, .unset] [(.int (3 : Int32)), (.int p2)])) (fun _ k => XS.iconst X0.here hx rfl (hb hby d1_42) k) ?_
        refine own_pre (F' := T0.setTop (mkF m 44 #[.val (.long q0), .second, .val (.long q1), .second, .val (.int p2), .val (.int p3), .val (.int (p3 &&& (3 : Int32))), .unset, .unset] [(.int (p2 % (3 : Int32)))])) (fun _ k => iremM X0 hx rfl (hb hby d1_43) rfl (by decide) k) ?_
        refine own_pre (F' := T0.setTop (mkF m 45 #[.val (.long q0), .second, .val (.long q1), .second, .val (.int p2), .val (.int p3), .val (.int (p3 &&& (3 : Int32))), .unset, .unset] [(.long ((p2 % (3 : Int32)).toInt64))])) (fun _ k => XS.i2l X0.here hx rfl (hb hby d1_44) rfl k) ?_
        refine own_pre (F' := T0.setTop (mkF m 47 #[.val (.long q0), .second, .val (.long q1), .second, .val (.int p2), .val (.int p3), .val (.int (p3 &&& (3 : Int32))), .val (.long ((p2 % (3 : Int32)).toInt64)), .second] [])) (fun _ k => XS.lstore X0.here hx rfl (hb hby d1_45) rfl (l' := #[.val (.long q0), .second, .val (.long q1), .second, .val (.int p2), .val (.int p3), .val (.int (p3 &&& (3 : Int32))), .val (.long ((p2 % (3 : Int32)).toInt64)), .second]) rfl k) ?_
        refine own_pre (F' := T0.setTop (mkF m 48 #[.val (.long q0), .second, .val (.long q1), .second, .val (.int p2), .val (.int p3), .val (.int (p3 &&& (3 : Int32))), .val (.long ((p2 % (3 : Int32)).toInt64)), .second] [(.long q0)])) (fun _ k => XS.lloadN X0.here hx rfl (hb hby d1_47) rfl k) ?_
        refine own_pre (F' := T0.setTop (mkF m 50 #[.val (.long q0), .second, .val (.long q1), .second, .val (.int p2), .val (.int p3), .val (.int (p3 &&& (3 : Int32))), .val (.long ((p2 % (3 : Int32)).toInt64)), .second] [(.int (32 : Int32)), (.long q0)])) (fun _ k => XS.bipush X0.here hx rfl (hb hby d1_48) k) ?_
        refine own_pre (F' := T0.setTop (mkF m 51 #[.val (.long q0), .second, .val (.long q1), .second, .val (.int p2), .val (.int p3), .val (.int (p3 &&& (3 : Int32))), .val (.long ((p2 % (3 : Int32)).toInt64)), .second] [(.long ((q0.toUInt64 >>> ((32 : Int32) &&& 0x3f).toInt64.toUInt64).toInt64))])) (fun _ k => XS.lushr X0.here hx rfl (hb hby d1_50) rfl k) ?_
        refine own_pre (F' := T0.setTop (mkF m 53 #[.val (.long q0), .second, .val (.long q1), .second, .val (.int p2), .val (.int p3), .val (.int (p3 &&& (3 : Int32))), .val (.long ((p2 % (3 : Int32)).toInt64)), .second] [(.long ((p2 % (3 : Int32)).toInt64)), (.long ((q0.toUInt64 >>> ((32 : Int32) &&& 0x3f).toInt64.toUInt64).toInt64))])) (fun _ k => XS.lload X0.here hx rfl (hb hby d1_51) rfl k) ?_
        refine own_pre (F' := T0.setTop (mkF m 54 #[.val (.long q0), .second, .val (.long q1), .second, .val (.int p2), .val (.int p3), .val (.int (p3 &&& (3 : Int32))), .val (.long ((p2 % (3 : Int32)).toInt64)), .second] [(.long (((q0.toUInt64 >>> ((32 : Int32) &&& 0x3f).toInt64.toUInt64).toInt64) + ((p2 % (3 : Int32)).toInt64)))])) (fun _ k => XS.ladd X0.here hx rfl (hb hby d1_53) rfl k) ?_
        refine own_pre (F' := T0.setTop (mkF m 56 #[.val (.long q0), .second, .val (.long q1), .second, .val (.int p2), .val (.int p3), .val (.int (p3 &&& (3 : Int32))), .val (.long ((p2 % (3 : Int32)).toInt64)), .second] [(.int (32 : Int32)), (.long (((q0.toUInt64 >>> ((32 : Int32) &&& 0x3f).toInt64.toUInt64).toInt64) + ((p2 % (3 : Int32)).toInt64)))])) (fun _ k => XS.bipush X0.here hx rfl (hb hby d1_54) k) ?_
        refine own_pre (F' := T0.setTop (mkF m 57 #[.val (.long q0), .second, .val (.long q1), .second, .val (.int p2), .val (.int p3), .val (.int (p3 &&& (3 : Int32))), .val (.long ((p2 % (3 : Int32)).toInt64)), .second] [(.long ((((q0.toUInt64 >>> ((32 : Int32) &&& 0x3f).toInt64.toUInt64).toInt64) + ((p2 % (3 : Int32)).toInt64)) <<< ((32 : Int32) &&& 0x3f).toInt64))])) (fun _ k => XS.lshl X0.here hx rfl (hb hby d1_56) rfl k) ?_
        refine own_pre (F' := T0.setTop (mkF m 58 #[.val (.long q0), .second, .val (.long q1), .second, .val (.int p2), .val (.int p3), .val (.int (p3 &&& (3 : Int32))), .val (.long ((p2 % (3 : Int32)).toInt64)), .second] [(.long (1 : Int64)), (.long ((((q0.toUInt64 >>> ((32 : Int32) &&& 0x3f).toInt64.toUInt64).toInt64) + ((p2 % (3 : Int32)).toInt64)) <<< ((32 : Int32) &&& 0x3f).toInt64))])) (fun _ k => XS.lconst X0.here hx rfl (hb hby d1_57) k) ?_
        refine own_pre (F' := T0.setTop (mkF m 59 #[.val (.long q0), .second, .val (.long q1), .second, .val (.int p2), .val (.int p3), .val (.int (p3 &&& (3 : Int32))), .val (.long ((p2 % (3 : Int32)).toInt64)), .second] [(.long (((((q0.toUInt64 >>> ((32 : Int32) &&& 0x3f).toInt64.toUInt64).toInt64) + ((p2 % (3 : Int32)).toInt64)) <<< ((32 : Int32) &&& 0x3f).toInt64) ||| (1 : Int64)))])) (fun _ k => XS.lor X0.here hx rfl (hb hby d1_58) rfl k) ?_
        exact own_ret X0 hx Bd.notSynchronized Bd.returns rfl (Or.inr (Or.inl ⟨rfl, rfl, _, rfl⟩)) (hb hby d1_59) ⟨rfl, e0⟩ (by decide) (by decide)
theorem ef_1 (m : MethodId) (q0 : Int64) (q1 : Int64) (p2 : Int32) (p3 : Int32) : entryFrame m #[(.long q0), (.long q1), (.int p2), (.int p3)] 9 = mkF m 0 #[.val (.long q0), .second, .val (.long q1), .second, .val (.int p2), .val (.int p3), .unset, .unset, .unset] [] := by first | (simp [entryFrame, mkF, argsToLocals, Value.category]; done) | rfl
set_option maxRecDepth 65536 in
set_option maxHeartbeats 40000000 in
theorem rm1 (l : Launch) (Z : State) (aw : Array Value) (hw : ∀ d ∈ tables_1, d.before aw Z = true) (ws : List Jvm.Cond) (q0 : Int64) (q1 : Int64) (p2 : Int32) (p3 : Int32) (h0 : Heap) :
    MetFree l (⟨"com/example/ord3/ord3/ZxidFollowsPinLaw", "pickNext", "(JJII)J"⟩ : MethodName) (head1 (Jvm.Cond.code (⟨"com/example/ord3/ord3/ZxidFollowsPinLaw", "pickNext", "(JJII)J"⟩ : MethodName) method_2_code 9 (some .long) :: ws) ({ frames := 0, cells := 0, slots := 0, locals := 0 } : Room)) (fun a U => a = #[(.long q0), (.long q1), (.int p2), (.int p3)] ∧ Z.Warmed39 U.vm ∧ U.heap = h0) (fun _ _ _ _ _ => True) (fun _ U o U' => ∃ v L, o = .returned v ∧ own_Q (some (.long (f1_0 q0 q1 p2 p3))) (own_K0 h0) v U'.heap L ∧ FrameEnd U o U' L ({ frames := 0, cells := 0, slots := 0, locals := 0 } : Room).cells ({ frames := 0, cells := 0, slots := 0, locals := 0 } : Room).slots) := by
  refine MetFree.of_bodySF (plainFor_of_name own_pn0) hisR ?_
  intro p e s m args below meth c s₁ Bd hml0 hP hK
  obtain ⟨rfl, hZ, hh⟩ := hP
  have hml : c.maxLocals = 9 := hml0
  have e0 : s₁.heap = h0 := by rw [← hh, Bd.state]; rfl
  exact own_pre (fun t k => castTop (ef_1 m q0 q1 p2 p3) k) (g1_0 hw q0 q1 p2 p3 Bd hml hZ s₁ (Stand.of_body Bd) e0)
/-! body 3 -/
theorem d3_0 : decode prog_11_method_2_code 0 = .ok (.lload_n 0, 1) := by decide +kernel
theorem d3_1 : decode prog_11_method_2_code 1 = .ok (.bipush 32, 2) := by decide +kernel
theorem d3_3 : decode prog_11_method_2_code 3 = .ok (.lushr, 1) := by decide +kernel
theorem d3_4 : decode prog_11_method_2_code 4 = .ok (.lreturn, 1) := by decide +kernel
theorem own_pn1 : plainName "com/example/ord3/ord3/Zxid" = true := by first | (simp [plainName, overriddenIn]; done) | decide +kernel
def f3_0 (q0 : Int64) : Int64 := ((q0.toUInt64 >>> ((32 : Int32) &&& 0x3f).toInt64.toUInt64).toInt64)
set_option maxRecDepth 65536 in
set_option maxHeartbeats 40000000 in
theorem g3_0 {p : Program} {l : Launch} {e : Env} {s : State} {m : MethodId} {below : List Frame} {meth : Method} {c : Code} {s₁ : State} {ws : List Jvm.Cond} {Z : State} {aw : Array Value} (hw : ∀ d ∈ tables_1, d.before aw Z = true) {h0 : Heap} (q0 : Int64)
    (Bd : BodyLoose p l (⟨"com/example/ord3/ord3/Zxid", "epoch", "(J)J"⟩ : MethodName) (head1 (Jvm.Cond.code (⟨"com/example/ord3/ord3/Zxid", "epoch", "(J)J"⟩ : MethodName) prog_11_method_2_code 2 (some .long) :: ws) ({ frames := 0, cells := 0, slots := 0, locals := 0 } : Room)) prog_11_method_2_code 2 (some .long) e s m #[(.long q0)] below meth c s₁) (hml : c.maxLocals = 2) (hZ : Z.Warmed39 s.vm) (T0 : State) (X0 : Stand p l e ({ frames := 0, cells := 0, slots := 0, locals := 0 } : Room) s m #[(.long q0)] below meth c T0 [] 0 0) (e0 : T0.heap = h0) :
    own_Go p e below s ({ frames := 0, cells := 0, slots := 0, locals := 0 } : Room).cells ({ frames := 0, cells := 0, slots := 0, locals := 0 } : Room).slots (some (.long (f3_0 q0))) (own_K0 h0) (T0.setTop (mkF m 0 #[.val (.long q0), .second] [])) := by
  have hx := Bd.exec
  have hby := Bd.bytes
  have hown : s.vm.findClass "com/example/ord3/ord3/Zxid" = some m.cls := findClass_of_methodNamed Bd.named
  unfold f3_0
  refine own_pre (F' := T0.setTop (mkF m 1 #[.val (.long q0), .second] [(.long q0)])) (fun _ k => XS.lloadN X0.here hx rfl (hb hby d3_0) rfl k) ?_
  refine own_pre (F' := T0.setTop (mkF m 3 #[.val (.long q0), .second] [(.int (32 : Int32)), (.long q0)])) (fun _ k => XS.bipush X0.here hx rfl (hb hby d3_1) k) ?_
  refine own_pre (F' := T0.setTop (mkF m 4 #[.val (.long q0), .second] [(.long ((q0.toUInt64 >>> ((32 : Int32) &&& 0x3f).toInt64.toUInt64).toInt64))])) (fun _ k => XS.lushr X0.here hx rfl (hb hby d3_3) rfl k) ?_
  exact own_ret X0 hx Bd.notSynchronized Bd.returns rfl (Or.inr (Or.inl ⟨rfl, rfl, _, rfl⟩)) (hb hby d3_4) ⟨rfl, e0⟩ (by decide) (by decide)
theorem ef_3 (m : MethodId) (q0 : Int64) : entryFrame m #[(.long q0)] 2 = mkF m 0 #[.val (.long q0), .second] [] := by first | (simp [entryFrame, mkF, argsToLocals, Value.category]; done) | rfl
set_option maxRecDepth 65536 in
set_option maxHeartbeats 40000000 in
theorem rm3 (l : Launch) (Z : State) (aw : Array Value) (hw : ∀ d ∈ tables_1, d.before aw Z = true) (ws : List Jvm.Cond) (q0 : Int64) (h0 : Heap) :
    MetFree l (⟨"com/example/ord3/ord3/Zxid", "epoch", "(J)J"⟩ : MethodName) (head1 (Jvm.Cond.code (⟨"com/example/ord3/ord3/Zxid", "epoch", "(J)J"⟩ : MethodName) prog_11_method_2_code 2 (some .long) :: ws) ({ frames := 0, cells := 0, slots := 0, locals := 0 } : Room)) (fun a U => a = #[(.long q0)] ∧ Z.Warmed39 U.vm ∧ U.heap = h0) (fun _ _ _ _ _ => True) (fun _ U o U' => ∃ v L, o = .returned v ∧ own_Q (some (.long (f3_0 q0))) (own_K0 h0) v U'.heap L ∧ FrameEnd U o U' L ({ frames := 0, cells := 0, slots := 0, locals := 0 } : Room).cells ({ frames := 0, cells := 0, slots := 0, locals := 0 } : Room).slots) := by
  refine MetFree.of_bodySF (plainFor_of_name own_pn1) hisR ?_
  intro p e s m args below meth c s₁ Bd hml0 hP hK
  obtain ⟨rfl, hZ, hh⟩ := hP
  have hml : c.maxLocals = 2 := hml0
  have e0 : s₁.heap = h0 := by rw [← hh, Bd.state]; rfl
  exact own_pre (fun t k => castTop (ef_3 m q0) k) (g3_0 hw q0 Bd hml hZ s₁ (Stand.of_body Bd) e0)
/-! body 4 -/
theorem d4_0 : decode prog_11_method_3_code 0 = .ok (.lload_n 0, 1) := by decide +kernel
theorem d4_1 : decode prog_11_method_3_code 1 = .ok (.ldc2_w 7, 3) := by decide +kernel
theorem d4_4 : decode prog_11_method_3_code 4 = .ok (.land, 1) := by decide +kernel
theorem d4_5 : decode prog_11_method_3_code 5 = .ok (.lreturn, 1) := by decide +kernel
def f4_0 (q0 : Int64) : Int64 := (q0 &&& (4294967295 : Int64))
set_option maxRecDepth 65536 in
set_option maxHeartbeats 40000000 in
theorem g4_0 {p : Program} {l : Launch} {e : Env} {s : State} {m : MethodId} {below : List Frame} {meth : Method} {c : Code} {s₁ : State} {ws : List Jvm.Cond} {Z : State} {aw : Array Value} (hw : ∀ d ∈ tables_1, d.before aw Z = true) {h0 : Heap} (q0 : Int64)
    (Bd : BodyLoose p l (⟨"com/example/ord3/ord3/Zxid", "counter", "(J)J"⟩ : MethodName) (head1 (Jvm.Cond.code (⟨"com/example/ord3/ord3/Zxid", "counter", "(J)J"⟩ : MethodName) prog_11_method_3_code 2 (some .long) :: ws) ({ frames := 0, cells := 0, slots := 0, locals := 0 } : Room)) prog_11_method_3_code 2 (some .long) e s m #[(.long q0)] below meth c s₁) (hml : c.maxLocals = 2) (hZ : Z.Warmed39 s.vm) (T0 : State) (X0 : Stand p l e ({ frames := 0, cells := 0, slots := 0, locals := 0 } : Room) s m #[(.long q0)] below meth c T0 [] 0 0) (e0 : T0.heap = h0) :
    own_Go p e below s ({ frames := 0, cells := 0, slots := 0, locals := 0 } : Room).cells ({ frames := 0, cells := 0, slots := 0, locals := 0 } : Room).slots (some (.long (f4_0 q0))) (own_K0 h0) (T0.setTop (mkF m 0 #[.val (.long q0), .second] [])) := by
  have hx := Bd.exec
  have hby := Bd.bytes
  have hown : s.vm.findClass "com/example/ord3/ord3/Zxid" = some m.cls := findClass_of_methodNamed Bd.named
  unfold f4_0
  refine own_pre (F' := T0.setTop (mkF m 1 #[.val (.long q0), .second] [(.long q0)])) (fun _ k => XS.lloadN X0.here hx rfl (hb hby d4_0) rfl k) ?_
  refine own_pre (F' := T0.setTop (mkF m 4 #[.val (.long q0), .second] [(.long (4294967295 : Int64)), (.long q0)])) (fun _ k => X0.ldc2Long hx hown (mvT hZ (hw _ (List.mem_of_getElem? (i := 15) rfl))) (g := (mkF m 1 #[.val (.long q0), .second] [(.long q0)])) rfl (hb hby d4_1) _ k) ?_
  refine own_pre (F' := T0.setTop (mkF m 5 #[.val (.long q0), .second] [(.long (q0 &&& (4294967295 : Int64)))])) (fun _ k => XS.land X0.here hx rfl (hb hby d4_4) rfl k) ?_
  exact own_ret X0 hx Bd.notSynchronized Bd.returns rfl (Or.inr (Or.inl ⟨rfl, rfl, _, rfl⟩)) (hb hby d4_5) ⟨rfl, e0⟩ (by decide) (by decide)
theorem ef_4 (m : MethodId) (q0 : Int64) : entryFrame m #[(.long q0)] 2 = mkF m 0 #[.val (.long q0), .second] [] := by first | (simp [entryFrame, mkF, argsToLocals, Value.category]; done) | rfl
set_option maxRecDepth 65536 in
set_option maxHeartbeats 40000000 in
theorem rm4 (l : Launch) (Z : State) (aw : Array Value) (hw : ∀ d ∈ tables_1, d.before aw Z = true) (ws : List Jvm.Cond) (q0 : Int64) (h0 : Heap) :
    MetFree l (⟨"com/example/ord3/ord3/Zxid", "counter", "(J)J"⟩ : MethodName) (head1 (Jvm.Cond.code (⟨"com/example/ord3/ord3/Zxid", "counter", "(J)J"⟩ : MethodName) prog_11_method_3_code 2 (some .long) :: ws) ({ frames := 0, cells := 0, slots := 0, locals := 0 } : Room)) (fun a U => a = #[(.long q0)] ∧ Z.Warmed39 U.vm ∧ U.heap = h0) (fun _ _ _ _ _ => True) (fun _ U o U' => ∃ v L, o = .returned v ∧ own_Q (some (.long (f4_0 q0))) (own_K0 h0) v U'.heap L ∧ FrameEnd U o U' L ({ frames := 0, cells := 0, slots := 0, locals := 0 } : Room).cells ({ frames := 0, cells := 0, slots := 0, locals := 0 } : Room).slots) := by
  refine MetFree.of_bodySF (plainFor_of_name own_pn1) hisR ?_
  intro p e s m args below meth c s₁ Bd hml0 hP hK
  obtain ⟨rfl, hZ, hh⟩ := hP
  have hml : c.maxLocals = 2 := hml0
  have e0 : s₁.heap = h0 := by rw [← hh, Bd.state]; rfl
  exact own_pre (fun t k => castTop (ef_4 m q0) k) (g4_0 hw q0 Bd hml hZ s₁ (Stand.of_body Bd) e0)
theorem own_pd0 : parseMethodDescriptor "(J)J" = some ⟨[.long], some .long⟩ := by decide +kernel
/-! body 2 -/
theorem d2_0 : decode prog_11_method_5_code 0 = .ok (.lload_n 0, 1) := by decide +kernel
theorem d2_1 : decode prog_11_method_5_code 1 = .ok (.lload_n 2, 1) := by decide +kernel
theorem d2_2 : decode prog_11_method_5_code 2 = .ok (.lconst 1, 1) := by decide +kernel
theorem d2_3 : decode prog_11_method_5_code 3 = .ok (.ladd, 1) := by decide +kernel
theorem d2_4 : decode prog_11_method_5_code 4 = .ok (.lcmp, 1) := by decide +kernel
theorem d2_5 : decode prog_11_method_5_code 5 = .ok (.ifCond .eq 24, 3) := by decide +kernel
theorem d2_8 : decode prog_11_method_5_code 8 = .ok (.lload_n 0, 1) := by decide +kernel
theorem d2_9 : decode prog_11_method_5_code 9 = .ok (.invokestatic 9, 3) := by decide +kernel
theorem d2_12 : decode prog_11_method_5_code 12 = .ok (.lload_n 2, 1) := by decide +kernel
theorem d2_13 : decode prog_11_method_5_code 13 = .ok (.invokestatic 9, 3) := by decide +kernel
theorem d2_16 : decode prog_11_method_5_code 16 = .ok (.lcmp, 1) := by decide +kernel
theorem d2_17 : decode prog_11_method_5_code 17 = .ok (.ifCond .le 16, 3) := by decide +kernel
theorem d2_20 : decode prog_11_method_5_code 20 = .ok (.lload_n 0, 1) := by decide +kernel
theorem d2_21 : decode prog_11_method_5_code 21 = .ok (.invokestatic 15, 3) := by decide +kernel
theorem d2_24 : decode prog_11_method_5_code 24 = .ok (.lconst 1, 1) := by decide +kernel
theorem d2_25 : decode prog_11_method_5_code 25 = .ok (.lcmp, 1) := by decide +kernel
theorem d2_26 : decode prog_11_method_5_code 26 = .ok (.ifCond .ne 7, 3) := by decide +kernel
theorem d2_29 : decode prog_11_method_5_code 29 = .ok (.iconst 1, 1) := by decide +kernel
theorem d2_30 : decode prog_11_method_5_code 30 = .ok (.goto 4, 3) := by decide +kernel
theorem d2_33 : decode prog_11_method_5_code 33 = .ok (.iconst 0, 1) := by decide +kernel
theorem d2_34 : decode prog_11_method_5_code 34 = .ok (.ireturn, 1) := by decide +kernel
def f2_33 (q0 : Int64) (q1 : Int64) : Int32 := (0 : Int32)
set_option maxRecDepth 65536 in
set_option maxHeartbeats 40000000 in
theorem g2_33 {p : Program} {l : Launch} {e : Env} {s : State} {m : MethodId} {below : List Frame} {meth : Method} {c : Code} {s₁ : State} {ws : List Jvm.Cond} {Z : State} {aw : Array Value} (hw : ∀ d ∈ tables_1, d.before aw Z = true) {h0 : Heap} (q0 : Int64) (q1 : Int64)
    (Bd : BodyLoose p l (⟨"com/example/ord3/ord3/Zxid", "follows", "(JJ)Z"⟩ : MethodName) (head1 (Jvm.Cond.code (⟨"com/example/ord3/ord3/Zxid", "follows", "(JJ)Z"⟩ : MethodName) prog_11_method_5_code 4 (some .boolean) :: ws) ({ frames := 1, cells := 0, slots := 0, locals := 21 } : Room)) prog_11_method_5_code 4 (some .boolean) e s m #[(.long q0), (.long q1)] below meth c s₁) (hml : c.maxLocals = 4) (hZ : Z.Warmed39 s.vm) (T0 : State) (X0 : Stand p l e ({ frames := 1, cells := 0, slots := 0, locals := 21 } : Room) s m #[(.long q0), (.long q1)] below meth c T0 [] 0 0) (e0 : T0.heap = h0) :
    own_Go p e below s ({ frames := 1, cells := 0, slots := 0, locals := 21 } : Room).cells ({ frames := 1, cells := 0, slots := 0, locals := 21 } : Room).slots (some (.int (f2_33 q0 q1))) (own_K0 h0) (T0.setTop (mkF m 33 #[.val (.long q0), .second, .val (.long q1), .second] [])) := by
  have hx := Bd.exec
  have hby := Bd.bytes
  have hown : s.vm.findClass "com/example/ord3/ord3/Zxid" = some m.cls := findClass_of_methodNamed Bd.named
  unfold f2_33
  refine own_pre (F' := T0.setTop (mkF m 34 #[.val (.long q0), .second, .val (.long q1), .second] [(.int (0 : Int32))])) (fun _ k => XS.iconst X0.here hx rfl (hb hby d2_33) k) ?_
  exact own_ret X0 hx Bd.notSynchronized Bd.returns rfl (Or.inl ⟨rfl, by simp, _, rfl⟩) (hb hby d2_34) ⟨rfl, e0⟩ (by decide) (by decide)
def f2_29 (q0 : Int64) (q1 : Int64) : Int32 := (1 : Int32)
set_option maxRecDepth 65536 in
set_option maxHeartbeats 40000000 in
theorem g2_29 {p : Program} {l : Launch} {e : Env} {s : State} {m : MethodId} {below : List Frame} {meth : Method} {c : Code} {s₁ : State} {ws : List Jvm.Cond} {Z : State} {aw : Array Value} (hw : ∀ d ∈ tables_1, d.before aw Z = true) {h0 : Heap} (q0 : Int64) (q1 : Int64)
    (Bd : BodyLoose p l (⟨"com/example/ord3/ord3/Zxid", "follows", "(JJ)Z"⟩ : MethodName) (head1 (Jvm.Cond.code (⟨"com/example/ord3/ord3/Zxid", "follows", "(JJ)Z"⟩ : MethodName) prog_11_method_5_code 4 (some .boolean) :: ws) ({ frames := 1, cells := 0, slots := 0, locals := 21 } : Room)) prog_11_method_5_code 4 (some .boolean) e s m #[(.long q0), (.long q1)] below meth c s₁) (hml : c.maxLocals = 4) (hZ : Z.Warmed39 s.vm) (T0 : State) (X0 : Stand p l e ({ frames := 1, cells := 0, slots := 0, locals := 21 } : Room) s m #[(.long q0), (.long q1)] below meth c T0 [] 0 0) (e0 : T0.heap = h0) :
    own_Go p e below s ({ frames := 1, cells := 0, slots := 0, locals := 21 } : Room).cells ({ frames := 1, cells := 0, slots := 0, locals := 21 } : Room).slots (some (.int (f2_29 q0 q1))) (own_K0 h0) (T0.setTop (mkF m 29 #[.val (.long q0), .second, .val (.long q1), .second] [])) := by
  have hx := Bd.exec
  have hby := Bd.bytes
  have hown : s.vm.findClass "com/example/ord3/ord3/Zxid" = some m.cls := findClass_of_methodNamed Bd.named
  unfold f2_29
  refine own_pre (F' := T0.setTop (mkF m 30 #[.val (.long q0), .second, .val (.long q1), .second] [(.int (1 : Int32))])) (fun _ k => XS.iconst X0.here hx rfl (hb hby d2_29) k) ?_
  refine own_pre (F' := T0.setTop (mkF m 34 #[.val (.long q0), .second, .val (.long q1), .second] [(.int (1 : Int32))])) (fun _ k => XS.goto X0.here hx rfl (pc0 := 30) (pc' := 34) rfl (hb hby d2_30) (by decide) (by decide) k) ?_
  exact own_ret X0 hx Bd.notSynchronized Bd.returns rfl (Or.inl ⟨rfl, by simp, _, rfl⟩) (hb hby d2_34) ⟨rfl, e0⟩ (by decide) (by decide)
def f2_0 (q0 : Int64) (q1 : Int64) : Int32 := (if q0 = (q1 + (1 : Int64)) then (f2_29 q0 q1) else (if (f3_0 q1) < (f3_0 q0) then (if (f4_0 q0) = (1 : Int64) then (f2_29 q0 q1) else (f2_33 q0 q1)) else (f2_33 q0 q1)))
set_option maxRecDepth 65536 in
set_option maxHeartbeats 40000000 in
theorem g2_0 {p : Program} {l : Launch} {e : Env} {s : State} {m : MethodId} {below : List Frame} {meth : Method} {c : Code} {s₁ : State} {ws : List Jvm.Cond} {Z : State} {aw : Array Value} (hw : ∀ d ∈ tables_1, d.before aw Z = true) {h0 : Heap} (q0 : Int64) (q1 : Int64)
    (Bd : BodyLoose p l (⟨"com/example/ord3/ord3/Zxid", "follows", "(JJ)Z"⟩ : MethodName) (head1 (Jvm.Cond.code (⟨"com/example/ord3/ord3/Zxid", "follows", "(JJ)Z"⟩ : MethodName) prog_11_method_5_code 4 (some .boolean) :: ws) ({ frames := 1, cells := 0, slots := 0, locals := 21 } : Room)) prog_11_method_5_code 4 (some .boolean) e s m #[(.long q0), (.long q1)] below meth c s₁) (hml : c.maxLocals = 4) (hZ : Z.Warmed39 s.vm) (T0 : State) (X0 : Stand p l e ({ frames := 1, cells := 0, slots := 0, locals := 21 } : Room) s m #[(.long q0), (.long q1)] below meth c T0 [] 0 0) (e0 : T0.heap = h0) :
    own_Go p e below s ({ frames := 1, cells := 0, slots := 0, locals := 21 } : Room).cells ({ frames := 1, cells := 0, slots := 0, locals := 21 } : Room).slots (some (.int (f2_0 q0 q1))) (own_K0 h0) (T0.setTop (mkF m 0 #[.val (.long q0), .second, .val (.long q1), .second] [])) := by
  have hx := Bd.exec
  have hby := Bd.bytes
  have hown : s.vm.findClass "com/example/ord3/ord3/Zxid" = some m.cls := findClass_of_methodNamed Bd.named
  unfold f2_0
  refine own_pre (F' := T0.setTop (mkF m 1 #[.val (.long q0), .second, .val (.long q1), .second] [(.long q0)])) (fun _ k => XS.lloadN X0.here hx rfl (hb hby d2_0) rfl k) ?_
  refine own_pre (F' := T0.setTop (mkF m 2 #[.val (.long q0), .second, .val (.long q1), .second] [(.long q1), (.long q0)])) (fun _ k => XS.lloadN X0.here hx rfl (hb hby d2_1) rfl k) ?_
  refine own_pre (F' := T0.setTop (mkF m 3 #[.val (.long q0), .second, .val (.long q1), .second] [(.long (1 : Int64)), (.long q1), (.long q0)])) (fun _ k => XS.lconst X0.here hx rfl (hb hby d2_2) k) ?_
  refine own_pre (F' := T0.setTop (mkF m 4 #[.val (.long q0), .second, .val (.long q1), .second] [(.long (q1 + (1 : Int64))), (.long q0)])) (fun _ k => XS.ladd X0.here hx rfl (hb hby d2_3) rfl k) ?_
  refine own_pre (F' := T0.setTop (mkF m 5 #[.val (.long q0), .second, .val (.long q1), .second] [(.int (lcmpW q0 (q1 + (1 : Int64))))])) (fun _ k => XS.lcmp X0.here hx rfl (hb hby d2_4) rfl k) ?_
  refine own_iteI (fun hc5 => ?_) (fun hc5 => ?_)
  · skip
    refine own_pre (F' := T0.setTop (mkF m 29 #[.val (.long q0), .second, .val (.long q1), .second] [])) (fun _ k => XS.ifYes X0.here hx rfl (pc0 := 5) (pc' := 29) rfl (hb hby d2_5) rfl ((if0 _ _).trans (teq ((lw_eq _ _).mpr hc5)).1) (by decide) (by decide) k) ?_
    exact g2_29 hw q0 q1 Bd hml hZ T0 X0 e0
  · skip
    refine own_pre (F' := T0.setTop (mkF m 8 #[.val (.long q0), .second, .val (.long q1), .second] [])) (fun _ k => XS.ifNo X0.here hx rfl (hb hby d2_5) rfl ((if0 _ _).trans (feq (fun q => hc5 ((lw_eq _ _).mp q))).1) k) ?_
    refine own_pre (F' := T0.setTop (mkF m 9 #[.val (.long q0), .second, .val (.long q1), .second] [(.long q0)])) (fun _ k => XS.lloadN X0.here hx rfl (hb hby d2_8) rfl k) ?_
    obtain ⟨_, _, ⟨T1, L', k', n'⟩, -, X'', ⟨Lc', hQ', l', y', z'⟩, st'⟩ := Jvm.LawKit.callS X0 hx (y := (⟨"com/example/ord3/ord3/Zxid", "epoch", "(J)J"⟩ : MethodName)) hown (mvT hZ (hw _ (List.mem_of_getElem? (i := 9) rfl))) (mvT hZ (hw _ (List.mem_of_getElem? (i := 10) rfl))) (mvT hZ (hw _ (List.mem_of_getElem? (i := 7) rfl))) (mvT hZ (hw _ (List.mem_of_getElem? (i := 11) rfl))) (by decide) (backOf (W := 0) (rm3 l Z aw hw [] q0 h0) hZ (hw _ (List.mem_of_getElem? (i := 11) rfl)) (hw _ (List.mem_of_getElem? (i := 7) rfl)) (by decide) (by decide)) (g := (mkF m 9 #[.val (.long q0), .second, .val (.long q1), .second] [(.long q0)])) rfl (by rw [hml]; rfl) (argsL := [(.long q0)]) (rest := []) (lenOf own_pd0 rfl) rfl (by show 2 * 0 + _ ≤ _; exact Nat.le_of_eq rfl) (hb hby d2_9) (fun _ _ => ⟨rfl, e0, (by decide : 0 + 0 ≤ _), (by decide : 0 + 0 ≤ _)⟩)
    dsimp only [Pt.U, Pt.locs, Pt.cells, Pt.slots] at X'' l' y' z' st' hQ'
    subst l' y' z'
    obtain ⟨rfl, rfl, e1⟩ := hQ'
    have X1 : Stand p l e ({ frames := 1, cells := 0, slots := 0, locals := 21 } : Room) s m #[(.long q0), (.long q1)] below meth c T1 [] 0 0 := X''
    refine own_pre (F' := T1.setTop (mkF m 12 #[.val (.long q0), .second, .val (.long q1), .second] [(.long (f3_0 q0))])) (fun t k => st' t k) ?_
    refine own_pre (F' := T1.setTop (mkF m 13 #[.val (.long q0), .second, .val (.long q1), .second] [(.long q1), (.long (f3_0 q0))])) (fun _ k => XS.lloadN X1.here hx rfl (hb hby d2_12) rfl k) ?_
    obtain ⟨_, _, ⟨T2, L', k', n'⟩, -, X'', ⟨Lc', hQ', l', y', z'⟩, st'⟩ := Jvm.LawKit.callS X1 hx (y := (⟨"com/example/ord3/ord3/Zxid", "epoch", "(J)J"⟩ : MethodName)) hown (mvT hZ (hw _ (List.mem_of_getElem? (i := 9) rfl))) (mvT hZ (hw _ (List.mem_of_getElem? (i := 10) rfl))) (mvT hZ (hw _ (List.mem_of_getElem? (i := 7) rfl))) (mvT hZ (hw _ (List.mem_of_getElem? (i := 11) rfl))) (by decide) (backOf (W := 2) (rm3 l Z aw hw [] q1 h0) hZ (hw _ (List.mem_of_getElem? (i := 11) rfl)) (hw _ (List.mem_of_getElem? (i := 7) rfl)) (by decide) (by decide)) (g := (mkF m 13 #[.val (.long q0), .second, .val (.long q1), .second] [(.long q1), (.long (f3_0 q0))])) rfl (by rw [hml]; rfl) (argsL := [(.long q1)]) (rest := [(.long (f3_0 q0))]) (lenOf own_pd0 rfl) rfl (by show 2 * 0 + _ ≤ _; exact Nat.le_of_eq rfl) (hb hby d2_13) (fun _ _ => ⟨rfl, e1, (by decide : 0 + 0 ≤ _), (by decide : 0 + 0 ≤ _)⟩)
    dsimp only [Pt.U, Pt.locs, Pt.cells, Pt.slots] at X'' l' y' z' st' hQ'
    subst l' y' z'
    obtain ⟨rfl, rfl, e2⟩ := hQ'
    have X2 : Stand p l e ({ frames := 1, cells := 0, slots := 0, locals := 21 } : Room) s m #[(.long q0), (.long q1)] below meth c T2 [] 0 0 := X''
    refine own_pre (F' := T2.setTop (mkF m 16 #[.val (.long q0), .second, .val (.long q1), .second] [(.long (f3_0 q1)), (.long (f3_0 q0))])) (fun t k => st' t k) ?_
    refine own_pre (F' := T2.setTop (mkF m 17 #[.val (.long q0), .second, .val (.long q1), .second] [(.int (lcmpW (f3_0 q0) (f3_0 q1)))])) (fun _ k => XS.lcmp X2.here hx rfl (hb hby d2_16) rfl k) ?_
    refine own_iteI (fun hc17 => ?_) (fun hc17 => ?_)
    · skip
      refine own_pre (F' := T2.setTop (mkF m 20 #[.val (.long q0), .second, .val (.long q1), .second] [])) (fun _ k => XS.ifNo X2.here hx rfl (hb hby d2_17) rfl ((if0 _ _).trans (tlt ((lw_gt _ _).mpr hc17)).2.2.2) k) ?_
      refine own_pre (F' := T2.setTop (mkF m 21 #[.val (.long q0), .second, .val (.long q1), .second] [(.long q0)])) (fun _ k => XS.lloadN X2.here hx rfl (hb hby d2_20) rfl k) ?_
      obtain ⟨_, _, ⟨T3, L', k', n'⟩, -, X'', ⟨Lc', hQ', l', y', z'⟩, st'⟩ := Jvm.LawKit.callS X2 hx (y := (⟨"com/example/ord3/ord3/Zxid", "counter", "(J)J"⟩ : MethodName)) hown (mvT hZ (hw _ (List.mem_of_getElem? (i := 12) rfl))) (mvT hZ (hw _ (List.mem_of_getElem? (i := 13) rfl))) (mvT hZ (hw _ (List.mem_of_getElem? (i := 7) rfl))) (mvT hZ (hw _ (List.mem_of_getElem? (i := 14) rfl))) (by decide) (backOf (W := 0) (rm4 l Z aw hw [] q0 h0) hZ (hw _ (List.mem_of_getElem? (i := 14) rfl)) (hw _ (List.mem_of_getElem? (i := 7) rfl)) (by decide) (by decide)) (g := (mkF m 21 #[.val (.long q0), .second, .val (.long q1), .second] [(.long q0)])) rfl (by rw [hml]; rfl) (argsL := [(.long q0)]) (rest := []) (lenOf own_pd0 rfl) rfl (by show 2 * 0 + _ ≤ _; exact Nat.le_of_eq rfl) (hb hby d2_21) (fun _ _ => ⟨rfl, e2, (by decide : 0 + 0 ≤ _), (by decide : 0 + 0 ≤ _)⟩)
      dsimp only [Pt.U, Pt.locs, Pt.cells, Pt.slots] at X'' l' y' z' st' hQ'
      subst l' y' z'
      obtain ⟨rfl, rfl, e3⟩ := hQ'
      have X3 : Stand p l e ({ frames := 1, cells := 0, slots := 0, locals := 21 } : Room) s m #[(.long q0), (.long q1)] below meth c T3 [] 0 0 := X''
      refine own_pre (F' := T3.setTop (mkF m 24 #[.val (.long q0), .second, .val (.long q1), .second] [(.long (f4_0 q0))])) (fun t k => st' t k) ?_
      refine own_pre (F' := T3.setTop (mkF m 25 #[.val (.long q0), .second, .val (.long q1), .second] [(.long (1 : Int64)), (.long (f4_0 q0))])) (fun _ k => XS.lconst X3.here hx rfl (hb hby d2_24) k) ?_
      refine own_pre (F' := T3.setTop (mkF m 26 #[.val (.long q0), .second, .val (.long q1), .second] [(.int (lcmpW (f4_0 q0) (1 : Int64)))])) (fun _ k => XS.lcmp X3.here hx rfl (hb hby d2_25) rfl k) ?_
      refine own_iteI (fun hc26 => ?_) (fun hc26 => ?_)
      · skip
        refine own_pre (F' := T3.setTop (mkF m 29 #[.val (.long q0), .second, .val (.long q1), .second] [])) (fun _ k => XS.ifNo X3.here hx rfl (hb hby d2_26) rfl ((if0 _ _).trans (teq ((lw_eq _ _).mpr hc26)).2) k) ?_
        exact g2_29 hw q0 q1 Bd hml hZ T3 X3 e3
      · skip
        refine own_pre (F' := T3.setTop (mkF m 33 #[.val (.long q0), .second, .val (.long q1), .second] [])) (fun _ k => XS.ifYes X3.here hx rfl (pc0 := 26) (pc' := 33) rfl (hb hby d2_26) rfl ((if0 _ _).trans (feq (fun q => hc26 ((lw_eq _ _).mp q))).2) (by decide) (by decide) k) ?_
        exact g2_33 hw q0 q1 Bd hml hZ T3 X3 e3
    · skip
      refine own_pre (F' := T2.setTop (mkF m 33 #[.val (.long q0), .second, .val (.long q1), .second] [])) (fun _ k => XS.ifYes X2.here hx rfl (pc0 := 17) (pc' := 33) rfl (hb hby d2_17) rfl ((if0 _ _).trans (flt (fun q => hc17 ((lw_gt _ _).mp q))).2.2.2) (by decide) (by decide) k) ?_
      exact g2_33 hw q0 q1 Bd hml hZ T2 X2 e2
theorem ef_2 (m : MethodId) (q0 : Int64) (q1 : Int64) : entryFrame m #[(.long q0), (.long q1)] 4 = mkF m 0 #[.val (.long q0), .second, .val (.long q1), .second] [] := by first | (simp [entryFrame, mkF, argsToLocals, Value.category]; done) | rfl
set_option maxRecDepth 65536 in
set_option maxHeartbeats 40000000 in
theorem rm2 (l : Launch) (Z : State) (aw : Array Value) (hw : ∀ d ∈ tables_1, d.before aw Z = true) (ws : List Jvm.Cond) (q0 : Int64) (q1 : Int64) (h0 : Heap) :
    MetFree l (⟨"com/example/ord3/ord3/Zxid", "follows", "(JJ)Z"⟩ : MethodName) (head1 (Jvm.Cond.code (⟨"com/example/ord3/ord3/Zxid", "follows", "(JJ)Z"⟩ : MethodName) prog_11_method_5_code 4 (some .boolean) :: ws) ({ frames := 1, cells := 0, slots := 0, locals := 21 } : Room)) (fun a U => a = #[(.long q0), (.long q1)] ∧ Z.Warmed39 U.vm ∧ U.heap = h0) (fun _ _ _ _ _ => True) (fun _ U o U' => ∃ v L, o = .returned v ∧ own_Q (some (.int (f2_0 q0 q1))) (own_K0 h0) v U'.heap L ∧ FrameEnd U o U' L ({ frames := 1, cells := 0, slots := 0, locals := 21 } : Room).cells ({ frames := 1, cells := 0, slots := 0, locals := 21 } : Room).slots) := by
  refine MetFree.of_bodySF (plainFor_of_name own_pn1) hisR ?_
  intro p e s m args below meth c s₁ Bd hml0 hP hK
  obtain ⟨rfl, hZ, hh⟩ := hP
  have hml : c.maxLocals = 4 := hml0
  have e0 : s₁.heap = h0 := by rw [← hh, Bd.state]; rfl
  exact own_pre (fun t k => castTop (ef_2 m q0 q1) k) (g2_0 hw q0 q1 Bd hml hZ s₁ (Stand.of_body Bd) e0)
theorem own_pd1 : parseMethodDescriptor "(JJII)J" = some ⟨[.long, .long, .int, .int], some .long⟩ := by decide +kernel
theorem own_pd2 : parseMethodDescriptor "(JJ)Z" = some ⟨[.long, .long], some .boolean⟩ := by decide +kernel
/-! body 0 -/
def f0_96 (q0 : Int64) (q1 : Int64) (p2 : Int32) (p3 : Int32) (x6 : Int64) (y0 : Int32) : Int32 := (if (f2_0 x6 q0) = y0 then (1 : Int32) else (0 : Int32))
set_option maxRecDepth 65536 in
set_option maxHeartbeats 40000000 in
theorem g0_96 {p : Program} {l : Launch} {e : Env} {s : State} {m : MethodId} {below : List Frame} {meth : Method} {c : Code} {s₁ : State} {ws : List Jvm.Cond} {Z : State} {aw : Array Value} (hw : ∀ d ∈ tables_1, d.before aw Z = true) {h0 : Heap} (q0 : Int64) (q1 : Int64) (p2 : Int32) (p3 : Int32) (x6 : Int64) (x8 : Int32) (x9 : Int32) (x10 : Int32) (x11 : Int32) (x12 : Int32) (y0 : Int32)
    (Bd : BodyLoose p l x (head1 (Jvm.Cond.code x code maxLocals ret :: ws) room_1) code maxLocals ret e s m #[(.long q0), (.long q1), (.int p2), (.int p3)] below meth c s₁) (hml : c.maxLocals = 14) (hZ : Z.Warmed39 s.vm) (T0 : State) (X0 : Stand p l e room_1 s m #[(.long q0), (.long q1), (.int p2), (.int p3)] below meth c T0 [] 0 0) (e0 : T0.heap = h0) :
    own_Go p e below s room_1.cells room_1.slots (some (.int (f0_96 q0 q1 p2 p3 x6 y0))) (own_K0 h0) (T0.setTop (mkF m 96 #[.val (.long q0), .second, .val (.long q1), .second, .val (.int p2), .val (.int p3), .val (.long x6), .second, .val (.int x8), .val (.int x9), .val (.int x10), .val (.int x11), .val (.int x12), .unset] [(.int y0)])) := by
  have hx := Bd.exec
  have hby := Bd.bytes
  have hown : s.vm.findClass "com/example/ord3/ord3/ZxidFollowsPinLaw" = some m.cls := findClass_of_methodNamed Bd.named
  unfold f0_96
  refine own_pre (F' := T0.setTop (mkF m 98 #[.val (.long q0), .second, .val (.long q1), .second, .val (.int p2), .val (.int p3), .val (.long x6), .second, .val (.int x8), .val (.int x9), .val (.int x10), .val (.int x11), .val (.int x12), .val (.int y0)] [])) (fun _ k => XS.istore X0.here hx rfl (hb hby at_96) rfl (l' := #[.val (.long q0), .second, .val (.long q1), .second, .val (.int p2), .val (.int p3), .val (.long x6), .second, .val (.int x8), .val (.int x9), .val (.int x10), .val (.int x11), .val (.int x12), .val (.int y0)]) rfl k) ?_
  refine own_pre (F' := T0.setTop (mkF m 100 #[.val (.long q0), .second, .val (.long q1), .second, .val (.int p2), .val (.int p3), .val (.long x6), .second, .val (.int x8), .val (.int x9), .val (.int x10), .val (.int x11), .val (.int x12), .val (.int y0)] [(.long x6)])) (fun _ k => XS.lload X0.here hx rfl (hb hby at_98) rfl k) ?_
  refine own_pre (F' := T0.setTop (mkF m 101 #[.val (.long q0), .second, .val (.long q1), .second, .val (.int p2), .val (.int p3), .val (.long x6), .second, .val (.int x8), .val (.int x9), .val (.int x10), .val (.int x11), .val (.int x12), .val (.int y0)] [(.long q0), (.long x6)])) (fun _ k => XS.lloadN X0.here hx rfl (hb hby at_100) rfl k) ?_
  obtain ⟨_, _, ⟨T1, L', k', n'⟩, -, X'', ⟨Lc', hQ', l', y', z'⟩, st'⟩ := Jvm.LawKit.callS X0 hx (y := (⟨"com/example/ord3/ord3/Zxid", "follows", "(JJ)Z"⟩ : MethodName)) hown (mvT hZ (hw _ (List.mem_of_getElem? (i := 5) rfl))) (mvT hZ (hw _ (List.mem_of_getElem? (i := 6) rfl))) (mvT hZ (hw _ (List.mem_of_getElem? (i := 7) rfl))) (mvT hZ (hw _ (List.mem_of_getElem? (i := 8) rfl))) (by decide) (backOf (W := 0) (rm2 l Z aw hw [] x6 q0 h0) hZ (hw _ (List.mem_of_getElem? (i := 8) rfl)) (hw _ (List.mem_of_getElem? (i := 7) rfl)) (by decide) (by decide)) (g := (mkF m 101 #[.val (.long q0), .second, .val (.long q1), .second, .val (.int p2), .val (.int p3), .val (.long x6), .second, .val (.int x8), .val (.int x9), .val (.int x10), .val (.int x11), .val (.int x12), .val (.int y0)] [(.long q0), (.long x6)])) rfl (by rw [hml]; rfl) (argsL := [(.long x6), (.long q0)]) (rest := []) (lenOf own_pd2 rfl) rfl (by show 2 * 0 + _ ≤ _; exact Nat.le_of_eq rfl) (hb hby at_101) (fun _ _ => ⟨rfl, e0, (by decide : 0 + 0 ≤ _), (by decide : 0 + 0 ≤ _)⟩)
  dsimp only [Pt.U, Pt.locs, Pt.cells, Pt.slots] at X'' l' y' z' st' hQ'
  subst l' y' z'
  obtain ⟨rfl, rfl, e1⟩ := hQ'
  have X1 : Stand p l e room_1 s m #[(.long q0), (.long q1), (.int p2), (.int p3)] below meth c T1 [] 0 0 := X''
  refine own_pre (F' := T1.setTop (mkF m 104 #[.val (.long q0), .second, .val (.long q1), .second, .val (.int p2), .val (.int p3), .val (.long x6), .second, .val (.int x8), .val (.int x9), .val (.int x10), .val (.int x11), .val (.int x12), .val (.int y0)] [(.int (f2_0 x6 q0))])) (fun t k => st' t k) ?_
  refine own_pre (F' := T1.setTop (mkF m 106 #[.val (.long q0), .second, .val (.long q1), .second, .val (.int p2), .val (.int p3), .val (.long x6), .second, .val (.int x8), .val (.int x9), .val (.int x10), .val (.int x11), .val (.int x12), .val (.int y0)] [(.int y0), (.int (f2_0 x6 q0))])) (fun _ k => XS.iload X1.here hx rfl (hb hby at_104) rfl k) ?_
  refine own_iteI (fun hc106 => ?_) (fun hc106 => ?_)
  · skip
    refine own_pre (F' := T1.setTop (mkF m 109 #[.val (.long q0), .second, .val (.long q1), .second, .val (.int p2), .val (.int p3), .val (.long x6), .second, .val (.int x8), .val (.int x9), .val (.int x10), .val (.int x11), .val (.int x12), .val (.int y0)] [])) (fun _ k => XS.icmpNo X1.here hx rfl (hb hby at_106) rfl (teq hc106).2 k) ?_
    refine own_pre (F' := T1.setTop (mkF m 110 #[.val (.long q0), .second, .val (.long q1), .second, .val (.int p2), .val (.int p3), .val (.long x6), .second, .val (.int x8), .val (.int x9), .val (.int x10), .val (.int x11), .val (.int x12), .val (.int y0)] [(.int (1 : Int32))])) (fun _ k => XS.iconst X1.here hx rfl (hb hby at_109) k) ?_
    refine own_pre (F' := T1.setTop (mkF m 114 #[.val (.long q0), .second, .val (.long q1), .second, .val (.int p2), .val (.int p3), .val (.long x6), .second, .val (.int x8), .val (.int x9), .val (.int x10), .val (.int x11), .val (.int x12), .val (.int y0)] [(.int (1 : Int32))])) (fun _ k => XS.goto X1.here hx rfl (pc0 := 110) (pc' := 114) rfl (hb hby at_110) (by decide) (by decide) k) ?_
    exact own_ret X1 hx Bd.notSynchronized Bd.returns rfl (Or.inl ⟨rfl, by simp, _, rfl⟩) (hb hby at_114) ⟨rfl, e1⟩ (by decide) (by decide)
  · skip
    refine own_pre (F' := T1.setTop (mkF m 113 #[.val (.long q0), .second, .val (.long q1), .second, .val (.int p2), .val (.int p3), .val (.long x6), .second, .val (.int x8), .val (.int x9), .val (.int x10), .val (.int x11), .val (.int x12), .val (.int y0)] [])) (fun _ k => XS.icmpYes X1.here hx rfl (pc0 := 106) (pc' := 113) rfl (hb hby at_106) rfl (feq hc106).2 (by decide) (by decide) k) ?_
    refine own_pre (F' := T1.setTop (mkF m 114 #[.val (.long q0), .second, .val (.long q1), .second, .val (.int p2), .val (.int p3), .val (.long x6), .second, .val (.int x8), .val (.int x9), .val (.int x10), .val (.int x11), .val (.int x12), .val (.int y0)] [(.int (0 : Int32))])) (fun _ k => XS.iconst X1.here hx rfl (hb hby at_113) k) ?_
    exact own_ret X1 hx Bd.notSynchronized Bd.returns rfl (Or.inl ⟨rfl, by simp, _, rfl⟩) (hb hby at_114) ⟨rfl, e1⟩ (by decide) (by decide)
def f0_95 (q0 : Int64) (q1 : Int64) (p2 : Int32) (p3 : Int32) (x6 : Int64) : Int32 := (f0_96 q0 q1 p2 p3 x6 (0 : Int32))
set_option maxRecDepth 65536 in
set_option maxHeartbeats 40000000 in
theorem g0_95 {p : Program} {l : Launch} {e : Env} {s : State} {m : MethodId} {below : List Frame} {meth : Method} {c : Code} {s₁ : State} {ws : List Jvm.Cond} {Z : State} {aw : Array Value} (hw : ∀ d ∈ tables_1, d.before aw Z = true) {h0 : Heap} (q0 : Int64) (q1 : Int64) (p2 : Int32) (p3 : Int32) (x6 : Int64) (x8 : Int32) (x9 : Int32) (x10 : Int32) (x11 : Int32) (x12 : Int32)
    (Bd : BodyLoose p l x (head1 (Jvm.Cond.code x code maxLocals ret :: ws) room_1) code maxLocals ret e s m #[(.long q0), (.long q1), (.int p2), (.int p3)] below meth c s₁) (hml : c.maxLocals = 14) (hZ : Z.Warmed39 s.vm) (T0 : State) (X0 : Stand p l e room_1 s m #[(.long q0), (.long q1), (.int p2), (.int p3)] below meth c T0 [] 0 0) (e0 : T0.heap = h0) :
    own_Go p e below s room_1.cells room_1.slots (some (.int (f0_95 q0 q1 p2 p3 x6))) (own_K0 h0) (T0.setTop (mkF m 95 #[.val (.long q0), .second, .val (.long q1), .second, .val (.int p2), .val (.int p3), .val (.long x6), .second, .val (.int x8), .val (.int x9), .val (.int x10), .val (.int x11), .val (.int x12), .unset] [])) := by
  have hx := Bd.exec
  have hby := Bd.bytes
  have hown : s.vm.findClass "com/example/ord3/ord3/ZxidFollowsPinLaw" = some m.cls := findClass_of_methodNamed Bd.named
  unfold f0_95
  refine own_pre (F' := T0.setTop (mkF m 96 #[.val (.long q0), .second, .val (.long q1), .second, .val (.int p2), .val (.int p3), .val (.long x6), .second, .val (.int x8), .val (.int x9), .val (.int x10), .val (.int x11), .val (.int x12), .unset] [(.int (0 : Int32))])) (fun _ k => XS.iconst X0.here hx rfl (hb hby at_95) k) ?_
  exact g0_96 hw q0 q1 p2 p3 x6 x8 x9 x10 x11 x12 (0 : Int32) Bd hml hZ T0 X0 e0
def f0_91 (q0 : Int64) (q1 : Int64) (p2 : Int32) (p3 : Int32) (x6 : Int64) : Int32 := (f0_96 q0 q1 p2 p3 x6 (1 : Int32))
set_option maxRecDepth 65536 in
set_option maxHeartbeats 40000000 in
theorem g0_91 {p : Program} {l : Launch} {e : Env} {s : State} {m : MethodId} {below : List Frame} {meth : Method} {c : Code} {s₁ : State} {ws : List Jvm.Cond} {Z : State} {aw : Array Value} (hw : ∀ d ∈ tables_1, d.before aw Z = true) {h0 : Heap} (q0 : Int64) (q1 : Int64) (p2 : Int32) (p3 : Int32) (x6 : Int64) (x8 : Int32) (x9 : Int32) (x10 : Int32) (x11 : Int32) (x12 : Int32)
    (Bd : BodyLoose p l x (head1 (Jvm.Cond.code x code maxLocals ret :: ws) room_1) code maxLocals ret e s m #[(.long q0), (.long q1), (.int p2), (.int p3)] below meth c s₁) (hml : c.maxLocals = 14) (hZ : Z.Warmed39 s.vm) (T0 : State) (X0 : Stand p l e room_1 s m #[(.long q0), (.long q1), (.int p2), (.int p3)] below meth c T0 [] 0 0) (e0 : T0.heap = h0) :
    own_Go p e below s room_1.cells room_1.slots (some (.int (f0_91 q0 q1 p2 p3 x6))) (own_K0 h0) (T0.setTop (mkF m 91 #[.val (.long q0), .second, .val (.long q1), .second, .val (.int p2), .val (.int p3), .val (.long x6), .second, .val (.int x8), .val (.int x9), .val (.int x10), .val (.int x11), .val (.int x12), .unset] [])) := by
  have hx := Bd.exec
  have hby := Bd.bytes
  have hown : s.vm.findClass "com/example/ord3/ord3/ZxidFollowsPinLaw" = some m.cls := findClass_of_methodNamed Bd.named
  unfold f0_91
  refine own_pre (F' := T0.setTop (mkF m 92 #[.val (.long q0), .second, .val (.long q1), .second, .val (.int p2), .val (.int p3), .val (.long x6), .second, .val (.int x8), .val (.int x9), .val (.int x10), .val (.int x11), .val (.int x12), .unset] [(.int (1 : Int32))])) (fun _ k => XS.iconst X0.here hx rfl (hb hby at_91) k) ?_
  refine own_pre (F' := T0.setTop (mkF m 96 #[.val (.long q0), .second, .val (.long q1), .second, .val (.int p2), .val (.int p3), .val (.long x6), .second, .val (.int x8), .val (.int x9), .val (.int x10), .val (.int x11), .val (.int x12), .unset] [(.int (1 : Int32))])) (fun _ k => XS.goto X0.here hx rfl (pc0 := 92) (pc' := 96) rfl (hb hby at_92) (by decide) (by decide) k) ?_
  exact g0_96 hw q0 q1 p2 p3 x6 x8 x9 x10 x11 x12 (1 : Int32) Bd hml hZ T0 X0 e0
def f0_74 (q0 : Int64) (q1 : Int64) (p2 : Int32) (p3 : Int32) (x6 : Int64) (x8 : Int32) (x11 : Int32) (y0 : Int32) : Int32 := (if x8 = (0 : Int32) then (if x11 = (0 : Int32) then (f0_95 q0 q1 p2 p3 x6) else (if y0 = (0 : Int32) then (f0_95 q0 q1 p2 p3 x6) else (f0_91 q0 q1 p2 p3 x6))) else (f0_91 q0 q1 p2 p3 x6))
set_option maxRecDepth 65536 in
set_option maxHeartbeats 40000000 in
theorem g0_74 {p : Program} {l : Launch} {e : Env} {s : State} {m : MethodId} {below : List Frame} {meth : Method} {c : Code} {s₁ : State} {ws : List Jvm.Cond} {Z : State} {aw : Array Value} (hw : ∀ d ∈ tables_1, d.before aw Z = true) {h0 : Heap} (q0 : Int64) (q1 : Int64) (p2 : Int32) (p3 : Int32) (x6 : Int64) (x8 : Int32) (x9 : Int32) (x10 : Int32) (x11 : Int32) (y0 : Int32)
    (Bd : BodyLoose p l x (head1 (Jvm.Cond.code x code maxLocals ret :: ws) room_1) code maxLocals ret e s m #[(.long q0), (.long q1), (.int p2), (.int p3)] below meth c s₁) (hml : c.maxLocals = 14) (hZ : Z.Warmed39 s.vm) (T0 : State) (X0 : Stand p l e room_1 s m #[(.long q0), (.long q1), (.int p2), (.int p3)] below meth c T0 [] 0 0) (e0 : T0.heap = h0) :
    own_Go p e below s room_1.cells room_1.slots (some (.int (f0_74 q0 q1 p2 p3 x6 x8 x11 y0))) (own_K0 h0) (T0.setTop (mkF m 74 #[.val (.long q0), .second, .val (.long q1), .second, .val (.int p2), .val (.int p3), .val (.long x6), .second, .val (.int x8), .val (.int x9), .val (.int x10), .val (.int x11), .unset, .unset] [(.int y0)])) := by
  have hx := Bd.exec
  have hby := Bd.bytes
  have hown : s.vm.findClass "com/example/ord3/ord3/ZxidFollowsPinLaw" = some m.cls := findClass_of_methodNamed Bd.named
  unfold f0_74
  refine own_pre (F' := T0.setTop (mkF m 76 #[.val (.long q0), .second, .val (.long q1), .second, .val (.int p2), .val (.int p3), .val (.long x6), .second, .val (.int x8), .val (.int x9), .val (.int x10), .val (.int x11), .val (.int y0), .unset] [])) (fun _ k => XS.istore X0.here hx rfl (hb hby at_74) rfl (l' := #[.val (.long q0), .second, .val (.long q1), .second, .val (.int p2), .val (.int p3), .val (.long x6), .second, .val (.int x8), .val (.int x9), .val (.int x10), .val (.int x11), .val (.int y0), .unset]) rfl k) ?_
  refine own_pre (F' := T0.setTop (mkF m 78 #[.val (.long q0), .second, .val (.long q1), .second, .val (.int p2), .val (.int p3), .val (.long x6), .second, .val (.int x8), .val (.int x9), .val (.int x10), .val (.int x11), .val (.int y0), .unset] [(.int x8)])) (fun _ k => XS.iload X0.here hx rfl (hb hby at_76) rfl k) ?_
  refine own_iteI (fun hc78 => ?_) (fun hc78 => ?_)
  · skip
    refine own_pre (F' := T0.setTop (mkF m 81 #[.val (.long q0), .second, .val (.long q1), .second, .val (.int p2), .val (.int p3), .val (.long x6), .second, .val (.int x8), .val (.int x9), .val (.int x10), .val (.int x11), .val (.int y0), .unset] [])) (fun _ k => XS.ifNo X0.here hx rfl (hb hby at_78) rfl ((if0 _ _).trans (teq hc78).2) k) ?_
    refine own_pre (F' := T0.setTop (mkF m 83 #[.val (.long q0), .second, .val (.long q1), .second, .val (.int p2), .val (.int p3), .val (.long x6), .second, .val (.int x8), .val (.int x9), .val (.int x10), .val (.int x11), .val (.int y0), .unset] [(.int x11)])) (fun _ k => XS.iload X0.here hx rfl (hb hby at_81) rfl k) ?_
    refine own_iteI (fun hc83 => ?_) (fun hc83 => ?_)
    · skip
      refine own_pre (F' := T0.setTop (mkF m 95 #[.val (.long q0), .second, .val (.long q1), .second, .val (.int p2), .val (.int p3), .val (.long x6), .second, .val (.int x8), .val (.int x9), .val (.int x10), .val (.int x11), .val (.int y0), .unset] [])) (fun _ k => XS.ifYes X0.here hx rfl (pc0 := 83) (pc' := 95) rfl (hb hby at_83) rfl ((if0 _ _).trans (teq hc83).1) (by decide) (by decide) k) ?_
      exact g0_95 hw q0 q1 p2 p3 x6 x8 x9 x10 x11 y0 Bd hml hZ T0 X0 e0
    · skip
      refine own_pre (F' := T0.setTop (mkF m 86 #[.val (.long q0), .second, .val (.long q1), .second, .val (.int p2), .val (.int p3), .val (.long x6), .second, .val (.int x8), .val (.int x9), .val (.int x10), .val (.int x11), .val (.int y0), .unset] [])) (fun _ k => XS.ifNo X0.here hx rfl (hb hby at_83) rfl ((if0 _ _).trans (feq hc83).1) k) ?_
      refine own_pre (F' := T0.setTop (mkF m 88 #[.val (.long q0), .second, .val (.long q1), .second, .val (.int p2), .val (.int p3), .val (.long x6), .second, .val (.int x8), .val (.int x9), .val (.int x10), .val (.int x11), .val (.int y0), .unset] [(.int y0)])) (fun _ k => XS.iload X0.here hx rfl (hb hby at_86) rfl k) ?_
      refine own_iteI (fun hc88 => ?_) (fun hc88 => ?_)
      · skip
        refine own_pre (F' := T0.setTop (mkF m 95 #[.val (.long q0), .second, .val (.long q1), .second, .val (.int p2), .val (.int p3), .val (.long x6), .second, .val (.int x8), .val (.int x9), .val (.int x10), .val (.int x11), .val (.int y0), .unset] [])) (fun _ k => XS.ifYes X0.here hx rfl (pc0 := 88) (pc' := 95) rfl (hb hby at_88) rfl ((if0 _ _).trans (teq hc88).1) (by decide) (by decide) k) ?_
        exact g0_95 hw q0 q1 p2 p3 x6 x8 x9 x10 x11 y0 Bd hml hZ T0 X0 e0
      · skip
        refine own_pre (F' := T0.setTop (mkF m 91 #[.val (.long q0), .second, .val (.long q1), .second, .val (.int p2), .val (.int p3), .val (.long x6), .second, .val (.int x8), .val (.int x9), .val (.int x10), .val (.int x11), .val (.int y0), .unset] [])) (fun _ k => XS.ifNo X0.here hx rfl (hb hby at_88) rfl ((if0 _ _).trans (feq hc88).1) k) ?_
        exact g0_91 hw q0 q1 p2 p3 x6 x8 x9 x10 x11 y0 Bd hml hZ T0 X0 e0
  · skip
    refine own_pre (F' := T0.setTop (mkF m 91 #[.val (.long q0), .second, .val (.long q1), .second, .val (.int p2), .val (.int p3), .val (.long x6), .second, .val (.int x8), .val (.int x9), .val (.int x10), .val (.int x11), .val (.int y0), .unset] [])) (fun _ k => XS.ifYes X0.here hx rfl (pc0 := 78) (pc' := 91) rfl (hb hby at_78) rfl ((if0 _ _).trans (feq hc78).2) (by decide) (by decide) k) ?_
    exact g0_91 hw q0 q1 p2 p3 x6 x8 x9 x10 x11 y0 Bd hml hZ T0 X0 e0
def f0_60 (q0 : Int64) (q1 : Int64) (p2 : Int32) (p3 : Int32) (x6 : Int64) (x8 : Int32) (y0 : Int32) : Int32 := (if (x6.toInt32) = (1 : Int32) then (f0_74 q0 q1 p2 p3 x6 x8 y0 (1 : Int32)) else (f0_74 q0 q1 p2 p3 x6 x8 y0 (0 : Int32)))
set_option maxRecDepth 65536 in
set_option maxHeartbeats 40000000 in
theorem g0_60 {p : Program} {l : Launch} {e : Env} {s : State} {m : MethodId} {below : List Frame} {meth : Method} {c : Code} {s₁ : State} {ws : List Jvm.Cond} {Z : State} {aw : Array Value} (hw : ∀ d ∈ tables_1, d.before aw Z = true) {h0 : Heap} (q0 : Int64) (q1 : Int64) (p2 : Int32) (p3 : Int32) (x6 : Int64) (x8 : Int32) (x9 : Int32) (x10 : Int32) (y0 : Int32)
    (Bd : BodyLoose p l x (head1 (Jvm.Cond.code x code maxLocals ret :: ws) room_1) code maxLocals ret e s m #[(.long q0), (.long q1), (.int p2), (.int p3)] below meth c s₁) (hml : c.maxLocals = 14) (hZ : Z.Warmed39 s.vm) (T0 : State) (X0 : Stand p l e room_1 s m #[(.long q0), (.long q1), (.int p2), (.int p3)] below meth c T0 [] 0 0) (e0 : T0.heap = h0) :
    own_Go p e below s room_1.cells room_1.slots (some (.int (f0_60 q0 q1 p2 p3 x6 x8 y0))) (own_K0 h0) (T0.setTop (mkF m 60 #[.val (.long q0), .second, .val (.long q1), .second, .val (.int p2), .val (.int p3), .val (.long x6), .second, .val (.int x8), .val (.int x9), .val (.int x10), .unset, .unset, .unset] [(.int y0)])) := by
  have hx := Bd.exec
  have hby := Bd.bytes
  have hown : s.vm.findClass "com/example/ord3/ord3/ZxidFollowsPinLaw" = some m.cls := findClass_of_methodNamed Bd.named
  unfold f0_60
  refine own_pre (F' := T0.setTop (mkF m 62 #[.val (.long q0), .second, .val (.long q1), .second, .val (.int p2), .val (.int p3), .val (.long x6), .second, .val (.int x8), .val (.int x9), .val (.int x10), .val (.int y0), .unset, .unset] [])) (fun _ k => XS.istore X0.here hx rfl (hb hby at_60) rfl (l' := #[.val (.long q0), .second, .val (.long q1), .second, .val (.int p2), .val (.int p3), .val (.long x6), .second, .val (.int x8), .val (.int x9), .val (.int x10), .val (.int y0), .unset, .unset]) rfl k) ?_
  refine own_pre (F' := T0.setTop (mkF m 64 #[.val (.long q0), .second, .val (.long q1), .second, .val (.int p2), .val (.int p3), .val (.long x6), .second, .val (.int x8), .val (.int x9), .val (.int x10), .val (.int y0), .unset, .unset] [(.long x6)])) (fun _ k => XS.lload X0.here hx rfl (hb hby at_62) rfl k) ?_
  refine own_pre (F' := T0.setTop (mkF m 65 #[.val (.long q0), .second, .val (.long q1), .second, .val (.int p2), .val (.int p3), .val (.long x6), .second, .val (.int x8), .val (.int x9), .val (.int x10), .val (.int y0), .unset, .unset] [(.int (x6.toInt32))])) (fun _ k => XS.l2i X0.here hx rfl (hb hby at_64) rfl k) ?_
  refine own_pre (F' := T0.setTop (mkF m 66 #[.val (.long q0), .second, .val (.long q1), .second, .val (.int p2), .val (.int p3), .val (.long x6), .second, .val (.int x8), .val (.int x9), .val (.int x10), .val (.int y0), .unset, .unset] [(.int (1 : Int32)), (.int (x6.toInt32))])) (fun _ k => XS.iconst X0.here hx rfl (hb hby at_65) k) ?_
  refine own_iteI (fun hc66 => ?_) (fun hc66 => ?_)
  · skip
    refine own_pre (F' := T0.setTop (mkF m 69 #[.val (.long q0), .second, .val (.long q1), .second, .val (.int p2), .val (.int p3), .val (.long x6), .second, .val (.int x8), .val (.int x9), .val (.int x10), .val (.int y0), .unset, .unset] [])) (fun _ k => XS.icmpNo X0.here hx rfl (hb hby at_66) rfl (teq hc66).2 k) ?_
    refine own_pre (F' := T0.setTop (mkF m 70 #[.val (.long q0), .second, .val (.long q1), .second, .val (.int p2), .val (.int p3), .val (.long x6), .second, .val (.int x8), .val (.int x9), .val (.int x10), .val (.int y0), .unset, .unset] [(.int (1 : Int32))])) (fun _ k => XS.iconst X0.here hx rfl (hb hby at_69) k) ?_
    refine own_pre (F' := T0.setTop (mkF m 74 #[.val (.long q0), .second, .val (.long q1), .second, .val (.int p2), .val (.int p3), .val (.long x6), .second, .val (.int x8), .val (.int x9), .val (.int x10), .val (.int y0), .unset, .unset] [(.int (1 : Int32))])) (fun _ k => XS.goto X0.here hx rfl (pc0 := 70) (pc' := 74) rfl (hb hby at_70) (by decide) (by decide) k) ?_
    exact g0_74 hw q0 q1 p2 p3 x6 x8 x9 x10 y0 (1 : Int32) Bd hml hZ T0 X0 e0
  · skip
    refine own_pre (F' := T0.setTop (mkF m 73 #[.val (.long q0), .second, .val (.long q1), .second, .val (.int p2), .val (.int p3), .val (.long x6), .second, .val (.int x8), .val (.int x9), .val (.int x10), .val (.int y0), .unset, .unset] [])) (fun _ k => XS.icmpYes X0.here hx rfl (pc0 := 66) (pc' := 73) rfl (hb hby at_66) rfl (feq hc66).2 (by decide) (by decide) k) ?_
    refine own_pre (F' := T0.setTop (mkF m 74 #[.val (.long q0), .second, .val (.long q1), .second, .val (.int p2), .val (.int p3), .val (.long x6), .second, .val (.int x8), .val (.int x9), .val (.int x10), .val (.int y0), .unset, .unset] [(.int (0 : Int32))])) (fun _ k => XS.iconst X0.here hx rfl (hb hby at_73) k) ?_
    exact g0_74 hw q0 q1 p2 p3 x6 x8 x9 x10 y0 (0 : Int32) Bd hml hZ T0 X0 e0
def f0_25 (q0 : Int64) (q1 : Int64) (p2 : Int32) (p3 : Int32) (x6 : Int64) (y0 : Int32) : Int32 := (if (((q0 >>> ((32 : Int32) &&& 0x3f).toInt64).toInt32) ^^^ (-2147483648 : Int32)) < (((x6 >>> ((32 : Int32) &&& 0x3f).toInt64).toInt32) ^^^ (-2147483648 : Int32)) then (f0_60 q0 q1 p2 p3 x6 y0 (1 : Int32)) else (f0_60 q0 q1 p2 p3 x6 y0 (0 : Int32)))
set_option maxRecDepth 65536 in
set_option maxHeartbeats 40000000 in
theorem g0_25 {p : Program} {l : Launch} {e : Env} {s : State} {m : MethodId} {below : List Frame} {meth : Method} {c : Code} {s₁ : State} {ws : List Jvm.Cond} {Z : State} {aw : Array Value} (hw : ∀ d ∈ tables_1, d.before aw Z = true) {h0 : Heap} (q0 : Int64) (q1 : Int64) (p2 : Int32) (p3 : Int32) (x6 : Int64) (y0 : Int32)
    (Bd : BodyLoose p l x (head1 (Jvm.Cond.code x code maxLocals ret :: ws) room_1) code maxLocals ret e s m #[(.long q0), (.long q1), (.int p2), (.int p3)] below meth c s₁) (hml : c.maxLocals = 14) (hZ : Z.Warmed39 s.vm) (T0 : State) (X0 : Stand p l e room_1 s m #[(.long q0), (.long q1), (.int p2), (.int p3)] below meth c T0 [] 0 0) (e0 : T0.heap = h0) :
    own_Go p e below s room_1.cells room_1.slots (some (.int (f0_25 q0 q1 p2 p3 x6 y0))) (own_K0 h0) (T0.setTop (mkF m 25 #[.val (.long q0), .second, .val (.long q1), .second, .val (.int p2), .val (.int p3), .val (.long x6), .second, .unset, .unset, .unset, .unset, .unset, .unset] [(.int y0)])) := by
  have hx := Bd.exec
  have hby := Bd.bytes
  have hown : s.vm.findClass "com/example/ord3/ord3/ZxidFollowsPinLaw" = some m.cls := findClass_of_methodNamed Bd.named
  unfold f0_25
  refine own_pre (F' := T0.setTop (mkF m 27 #[.val (.long q0), .second, .val (.long q1), .second, .val (.int p2), .val (.int p3), .val (.long x6), .second, .val (.int y0), .unset, .unset, .unset, .unset, .unset] [])) (fun _ k => XS.istore X0.here hx rfl (hb hby at_25) rfl (l' := #[.val (.long q0), .second, .val (.long q1), .second, .val (.int p2), .val (.int p3), .val (.long x6), .second, .val (.int y0), .unset, .unset, .unset, .unset, .unset]) rfl k) ?_
  refine own_pre (F' := T0.setTop (mkF m 29 #[.val (.long q0), .second, .val (.long q1), .second, .val (.int p2), .val (.int p3), .val (.long x6), .second, .val (.int y0), .unset, .unset, .unset, .unset, .unset] [(.long x6)])) (fun _ k => XS.lload X0.here hx rfl (hb hby at_27) rfl k) ?_
  refine own_pre (F' := T0.setTop (mkF m 31 #[.val (.long q0), .second, .val (.long q1), .second, .val (.int p2), .val (.int p3), .val (.long x6), .second, .val (.int y0), .unset, .unset, .unset, .unset, .unset] [(.int (32 : Int32)), (.long x6)])) (fun _ k => XS.bipush X0.here hx rfl (hb hby at_29) k) ?_
  refine own_pre (F' := T0.setTop (mkF m 32 #[.val (.long q0), .second, .val (.long q1), .second, .val (.int p2), .val (.int p3), .val (.long x6), .second, .val (.int y0), .unset, .unset, .unset, .unset, .unset] [(.long (x6 >>> ((32 : Int32) &&& 0x3f).toInt64))])) (fun _ k => XS.lshr X0.here hx rfl (hb hby at_31) rfl k) ?_
  refine own_pre (F' := T0.setTop (mkF m 33 #[.val (.long q0), .second, .val (.long q1), .second, .val (.int p2), .val (.int p3), .val (.long x6), .second, .val (.int y0), .unset, .unset, .unset, .unset, .unset] [(.int ((x6 >>> ((32 : Int32) &&& 0x3f).toInt64).toInt32))])) (fun _ k => XS.l2i X0.here hx rfl (hb hby at_32) rfl k) ?_
  refine own_pre (F' := T0.setTop (mkF m 35 #[.val (.long q0), .second, .val (.long q1), .second, .val (.int p2), .val (.int p3), .val (.long x6), .second, .val (.int y0), .val (.int ((x6 >>> ((32 : Int32) &&& 0x3f).toInt64).toInt32)), .unset, .unset, .unset, .unset] [])) (fun _ k => XS.istore X0.here hx rfl (hb hby at_33) rfl (l' := #[.val (.long q0), .second, .val (.long q1), .second, .val (.int p2), .val (.int p3), .val (.long x6), .second, .val (.int y0), .val (.int ((x6 >>> ((32 : Int32) &&& 0x3f).toInt64).toInt32)), .unset, .unset, .unset, .unset]) rfl k) ?_
  refine own_pre (F' := T0.setTop (mkF m 36 #[.val (.long q0), .second, .val (.long q1), .second, .val (.int p2), .val (.int p3), .val (.long x6), .second, .val (.int y0), .val (.int ((x6 >>> ((32 : Int32) &&& 0x3f).toInt64).toInt32)), .unset, .unset, .unset, .unset] [(.long q0)])) (fun _ k => XS.lloadN X0.here hx rfl (hb hby at_35) rfl k) ?_
  refine own_pre (F' := T0.setTop (mkF m 38 #[.val (.long q0), .second, .val (.long q1), .second, .val (.int p2), .val (.int p3), .val (.long x6), .second, .val (.int y0), .val (.int ((x6 >>> ((32 : Int32) &&& 0x3f).toInt64).toInt32)), .unset, .unset, .unset, .unset] [(.int (32 : Int32)), (.long q0)])) (fun _ k => XS.bipush X0.here hx rfl (hb hby at_36) k) ?_
  refine own_pre (F' := T0.setTop (mkF m 39 #[.val (.long q0), .second, .val (.long q1), .second, .val (.int p2), .val (.int p3), .val (.long x6), .second, .val (.int y0), .val (.int ((x6 >>> ((32 : Int32) &&& 0x3f).toInt64).toInt32)), .unset, .unset, .unset, .unset] [(.long (q0 >>> ((32 : Int32) &&& 0x3f).toInt64))])) (fun _ k => XS.lshr X0.here hx rfl (hb hby at_38) rfl k) ?_
  refine own_pre (F' := T0.setTop (mkF m 40 #[.val (.long q0), .second, .val (.long q1), .second, .val (.int p2), .val (.int p3), .val (.long x6), .second, .val (.int y0), .val (.int ((x6 >>> ((32 : Int32) &&& 0x3f).toInt64).toInt32)), .unset, .unset, .unset, .unset] [(.int ((q0 >>> ((32 : Int32) &&& 0x3f).toInt64).toInt32))])) (fun _ k => XS.l2i X0.here hx rfl (hb hby at_39) rfl k) ?_
  refine own_pre (F' := T0.setTop (mkF m 42 #[.val (.long q0), .second, .val (.long q1), .second, .val (.int p2), .val (.int p3), .val (.long x6), .second, .val (.int y0), .val (.int ((x6 >>> ((32 : Int32) &&& 0x3f).toInt64).toInt32)), .val (.int ((q0 >>> ((32 : Int32) &&& 0x3f).toInt64).toInt32)), .unset, .unset, .unset] [])) (fun _ k => XS.istore X0.here hx rfl (hb hby at_40) rfl (l' := #[.val (.long q0), .second, .val (.long q1), .second, .val (.int p2), .val (.int p3), .val (.long x6), .second, .val (.int y0), .val (.int ((x6 >>> ((32 : Int32) &&& 0x3f).toInt64).toInt32)), .val (.int ((q0 >>> ((32 : Int32) &&& 0x3f).toInt64).toInt32)), .unset, .unset, .unset]) rfl k) ?_
  refine own_pre (F' := T0.setTop (mkF m 44 #[.val (.long q0), .second, .val (.long q1), .second, .val (.int p2), .val (.int p3), .val (.long x6), .second, .val (.int y0), .val (.int ((x6 >>> ((32 : Int32) &&& 0x3f).toInt64).toInt32)), .val (.int ((q0 >>> ((32 : Int32) &&& 0x3f).toInt64).toInt32)), .unset, .unset, .unset] [(.int ((x6 >>> ((32 : Int32) &&& 0x3f).toInt64).toInt32))])) (fun _ k => XS.iload X0.here hx rfl (hb hby at_42) rfl k) ?_
  refine own_pre (F' := T0.setTop (mkF m 46 #[.val (.long q0), .second, .val (.long q1), .second, .val (.int p2), .val (.int p3), .val (.long x6), .second, .val (.int y0), .val (.int ((x6 >>> ((32 : Int32) &&& 0x3f).toInt64).toInt32)), .val (.int ((q0 >>> ((32 : Int32) &&& 0x3f).toInt64).toInt32)), .unset, .unset, .unset] [(.int (-2147483648 : Int32)), (.int ((x6 >>> ((32 : Int32) &&& 0x3f).toInt64).toInt32))])) (fun _ k => X0.ldcInt hx hown (mvT hZ (hw _ (List.mem_of_getElem? (i := 4) rfl))) (g := (mkF m 44 #[.val (.long q0), .second, .val (.long q1), .second, .val (.int p2), .val (.int p3), .val (.long x6), .second, .val (.int y0), .val (.int ((x6 >>> ((32 : Int32) &&& 0x3f).toInt64).toInt32)), .val (.int ((q0 >>> ((32 : Int32) &&& 0x3f).toInt64).toInt32)), .unset, .unset, .unset] [(.int ((x6 >>> ((32 : Int32) &&& 0x3f).toInt64).toInt32))])) rfl (hb hby at_44) _ k) ?_
  refine own_pre (F' := T0.setTop (mkF m 47 #[.val (.long q0), .second, .val (.long q1), .second, .val (.int p2), .val (.int p3), .val (.long x6), .second, .val (.int y0), .val (.int ((x6 >>> ((32 : Int32) &&& 0x3f).toInt64).toInt32)), .val (.int ((q0 >>> ((32 : Int32) &&& 0x3f).toInt64).toInt32)), .unset, .unset, .unset] [(.int (((x6 >>> ((32 : Int32) &&& 0x3f).toInt64).toInt32) ^^^ (-2147483648 : Int32)))])) (fun _ k => XS.ixor X0.here hx rfl (hb hby at_46) rfl k) ?_
  refine own_pre (F' := T0.setTop (mkF m 49 #[.val (.long q0), .second, .val (.long q1), .second, .val (.int p2), .val (.int p3), .val (.long x6), .second, .val (.int y0), .val (.int ((x6 >>> ((32 : Int32) &&& 0x3f).toInt64).toInt32)), .val (.int ((q0 >>> ((32 : Int32) &&& 0x3f).toInt64).toInt32)), .unset, .unset, .unset] [(.int ((q0 >>> ((32 : Int32) &&& 0x3f).toInt64).toInt32)), (.int (((x6 >>> ((32 : Int32) &&& 0x3f).toInt64).toInt32) ^^^ (-2147483648 : Int32)))])) (fun _ k => XS.iload X0.here hx rfl (hb hby at_47) rfl k) ?_
  refine own_pre (F' := T0.setTop (mkF m 51 #[.val (.long q0), .second, .val (.long q1), .second, .val (.int p2), .val (.int p3), .val (.long x6), .second, .val (.int y0), .val (.int ((x6 >>> ((32 : Int32) &&& 0x3f).toInt64).toInt32)), .val (.int ((q0 >>> ((32 : Int32) &&& 0x3f).toInt64).toInt32)), .unset, .unset, .unset] [(.int (-2147483648 : Int32)), (.int ((q0 >>> ((32 : Int32) &&& 0x3f).toInt64).toInt32)), (.int (((x6 >>> ((32 : Int32) &&& 0x3f).toInt64).toInt32) ^^^ (-2147483648 : Int32)))])) (fun _ k => X0.ldcInt hx hown (mvT hZ (hw _ (List.mem_of_getElem? (i := 4) rfl))) (g := (mkF m 49 #[.val (.long q0), .second, .val (.long q1), .second, .val (.int p2), .val (.int p3), .val (.long x6), .second, .val (.int y0), .val (.int ((x6 >>> ((32 : Int32) &&& 0x3f).toInt64).toInt32)), .val (.int ((q0 >>> ((32 : Int32) &&& 0x3f).toInt64).toInt32)), .unset, .unset, .unset] [(.int ((q0 >>> ((32 : Int32) &&& 0x3f).toInt64).toInt32)), (.int (((x6 >>> ((32 : Int32) &&& 0x3f).toInt64).toInt32) ^^^ (-2147483648 : Int32)))])) rfl (hb hby at_49) _ k) ?_
  refine own_pre (F' := T0.setTop (mkF m 52 #[.val (.long q0), .second, .val (.long q1), .second, .val (.int p2), .val (.int p3), .val (.long x6), .second, .val (.int y0), .val (.int ((x6 >>> ((32 : Int32) &&& 0x3f).toInt64).toInt32)), .val (.int ((q0 >>> ((32 : Int32) &&& 0x3f).toInt64).toInt32)), .unset, .unset, .unset] [(.int (((q0 >>> ((32 : Int32) &&& 0x3f).toInt64).toInt32) ^^^ (-2147483648 : Int32))), (.int (((x6 >>> ((32 : Int32) &&& 0x3f).toInt64).toInt32) ^^^ (-2147483648 : Int32)))])) (fun _ k => XS.ixor X0.here hx rfl (hb hby at_51) rfl k) ?_
  refine own_iteI (fun hc52 => ?_) (fun hc52 => ?_)
  · skip
    refine own_pre (F' := T0.setTop (mkF m 55 #[.val (.long q0), .second, .val (.long q1), .second, .val (.int p2), .val (.int p3), .val (.long x6), .second, .val (.int y0), .val (.int ((x6 >>> ((32 : Int32) &&& 0x3f).toInt64).toInt32)), .val (.int ((q0 >>> ((32 : Int32) &&& 0x3f).toInt64).toInt32)), .unset, .unset, .unset] [])) (fun _ k => XS.icmpNo X0.here hx rfl (hb hby at_52) rfl (tlt hc52).2.2.2 k) ?_
    refine own_pre (F' := T0.setTop (mkF m 56 #[.val (.long q0), .second, .val (.long q1), .second, .val (.int p2), .val (.int p3), .val (.long x6), .second, .val (.int y0), .val (.int ((x6 >>> ((32 : Int32) &&& 0x3f).toInt64).toInt32)), .val (.int ((q0 >>> ((32 : Int32) &&& 0x3f).toInt64).toInt32)), .unset, .unset, .unset] [(.int (1 : Int32))])) (fun _ k => XS.iconst X0.here hx rfl (hb hby at_55) k) ?_
    refine own_pre (F' := T0.setTop (mkF m 60 #[.val (.long q0), .second, .val (.long q1), .second, .val (.int p2), .val (.int p3), .val (.long x6), .second, .val (.int y0), .val (.int ((x6 >>> ((32 : Int32) &&& 0x3f).toInt64).toInt32)), .val (.int ((q0 >>> ((32 : Int32) &&& 0x3f).toInt64).toInt32)), .unset, .unset, .unset] [(.int (1 : Int32))])) (fun _ k => XS.goto X0.here hx rfl (pc0 := 56) (pc' := 60) rfl (hb hby at_56) (by decide) (by decide) k) ?_
    exact g0_60 hw q0 q1 p2 p3 x6 y0 ((x6 >>> ((32 : Int32) &&& 0x3f).toInt64).toInt32) ((q0 >>> ((32 : Int32) &&& 0x3f).toInt64).toInt32) (1 : Int32) Bd hml hZ T0 X0 e0
  · skip
    refine own_pre (F' := T0.setTop (mkF m 59 #[.val (.long q0), .second, .val (.long q1), .second, .val (.int p2), .val (.int p3), .val (.long x6), .second, .val (.int y0), .val (.int ((x6 >>> ((32 : Int32) &&& 0x3f).toInt64).toInt32)), .val (.int ((q0 >>> ((32 : Int32) &&& 0x3f).toInt64).toInt32)), .unset, .unset, .unset] [])) (fun _ k => XS.icmpYes X0.here hx rfl (pc0 := 52) (pc' := 59) rfl (hb hby at_52) rfl (flt hc52).2.2.2 (by decide) (by decide) k) ?_
    refine own_pre (F' := T0.setTop (mkF m 60 #[.val (.long q0), .second, .val (.long q1), .second, .val (.int p2), .val (.int p3), .val (.long x6), .second, .val (.int y0), .val (.int ((x6 >>> ((32 : Int32) &&& 0x3f).toInt64).toInt32)), .val (.int ((q0 >>> ((32 : Int32) &&& 0x3f).toInt64).toInt32)), .unset, .unset, .unset] [(.int (0 : Int32))])) (fun _ k => XS.iconst X0.here hx rfl (hb hby at_59) k) ?_
    exact g0_60 hw q0 q1 p2 p3 x6 y0 ((x6 >>> ((32 : Int32) &&& 0x3f).toInt64).toInt32) ((q0 >>> ((32 : Int32) &&& 0x3f).toInt64).toInt32) (0 : Int32) Bd hml hZ T0 X0 e0
def f0_11 (q0 : Int64) (q1 : Int64) (p2 : Int32) (p3 : Int32) (x6 : Int64) : Int32 := (if (x6 - q0) = (1 : Int64) then (f0_25 q0 q1 p2 p3 x6 (1 : Int32)) else (f0_25 q0 q1 p2 p3 x6 (0 : Int32)))
set_option maxRecDepth 65536 in
set_option maxHeartbeats 40000000 in
theorem g0_11 {p : Program} {l : Launch} {e : Env} {s : State} {m : MethodId} {below : List Frame} {meth : Method} {c : Code} {s₁ : State} {ws : List Jvm.Cond} {Z : State} {aw : Array Value} (hw : ∀ d ∈ tables_1, d.before aw Z = true) {h0 : Heap} (q0 : Int64) (q1 : Int64) (p2 : Int32) (p3 : Int32) (x6 : Int64)
    (Bd : BodyLoose p l x (head1 (Jvm.Cond.code x code maxLocals ret :: ws) room_1) code maxLocals ret e s m #[(.long q0), (.long q1), (.int p2), (.int p3)] below meth c s₁) (hml : c.maxLocals = 14) (hZ : Z.Warmed39 s.vm) (T0 : State) (X0 : Stand p l e room_1 s m #[(.long q0), (.long q1), (.int p2), (.int p3)] below meth c T0 [] 0 0) (e0 : T0.heap = h0) :
    own_Go p e below s room_1.cells room_1.slots (some (.int (f0_11 q0 q1 p2 p3 x6))) (own_K0 h0) (T0.setTop (mkF m 11 #[.val (.long q0), .second, .val (.long q1), .second, .val (.int p2), .val (.int p3), .val (.long x6), .second, .unset, .unset, .unset, .unset, .unset, .unset] [])) := by
  have hx := Bd.exec
  have hby := Bd.bytes
  have hown : s.vm.findClass "com/example/ord3/ord3/ZxidFollowsPinLaw" = some m.cls := findClass_of_methodNamed Bd.named
  unfold f0_11
  refine own_pre (F' := T0.setTop (mkF m 13 #[.val (.long q0), .second, .val (.long q1), .second, .val (.int p2), .val (.int p3), .val (.long x6), .second, .unset, .unset, .unset, .unset, .unset, .unset] [(.long x6)])) (fun _ k => XS.lload X0.here hx rfl (hb hby at_11) rfl k) ?_
  refine own_pre (F' := T0.setTop (mkF m 14 #[.val (.long q0), .second, .val (.long q1), .second, .val (.int p2), .val (.int p3), .val (.long x6), .second, .unset, .unset, .unset, .unset, .unset, .unset] [(.long q0), (.long x6)])) (fun _ k => XS.lloadN X0.here hx rfl (hb hby at_13) rfl k) ?_
  refine own_pre (F' := T0.setTop (mkF m 15 #[.val (.long q0), .second, .val (.long q1), .second, .val (.int p2), .val (.int p3), .val (.long x6), .second, .unset, .unset, .unset, .unset, .unset, .unset] [(.long (x6 - q0))])) (fun _ k => XS.lsub X0.here hx rfl (hb hby at_14) rfl k) ?_
  refine own_pre (F' := T0.setTop (mkF m 16 #[.val (.long q0), .second, .val (.long q1), .second, .val (.int p2), .val (.int p3), .val (.long x6), .second, .unset, .unset, .unset, .unset, .unset, .unset] [(.long (1 : Int64)), (.long (x6 - q0))])) (fun _ k => XS.lconst X0.here hx rfl (hb hby at_15) k) ?_
  refine own_pre (F' := T0.setTop (mkF m 17 #[.val (.long q0), .second, .val (.long q1), .second, .val (.int p2), .val (.int p3), .val (.long x6), .second, .unset, .unset, .unset, .unset, .unset, .unset] [(.int (lcmpW (x6 - q0) (1 : Int64)))])) (fun _ k => XS.lcmp X0.here hx rfl (hb hby at_16) rfl k) ?_
  refine own_iteI (fun hc17 => ?_) (fun hc17 => ?_)
  · skip
    refine own_pre (F' := T0.setTop (mkF m 20 #[.val (.long q0), .second, .val (.long q1), .second, .val (.int p2), .val (.int p3), .val (.long x6), .second, .unset, .unset, .unset, .unset, .unset, .unset] [])) (fun _ k => XS.ifNo X0.here hx rfl (hb hby at_17) rfl ((if0 _ _).trans (teq ((lw_eq _ _).mpr hc17)).2) k) ?_
    refine own_pre (F' := T0.setTop (mkF m 21 #[.val (.long q0), .second, .val (.long q1), .second, .val (.int p2), .val (.int p3), .val (.long x6), .second, .unset, .unset, .unset, .unset, .unset, .unset] [(.int (1 : Int32))])) (fun _ k => XS.iconst X0.here hx rfl (hb hby at_20) k) ?_
    refine own_pre (F' := T0.setTop (mkF m 25 #[.val (.long q0), .second, .val (.long q1), .second, .val (.int p2), .val (.int p3), .val (.long x6), .second, .unset, .unset, .unset, .unset, .unset, .unset] [(.int (1 : Int32))])) (fun _ k => XS.goto X0.here hx rfl (pc0 := 21) (pc' := 25) rfl (hb hby at_21) (by decide) (by decide) k) ?_
    exact g0_25 hw q0 q1 p2 p3 x6 (1 : Int32) Bd hml hZ T0 X0 e0
  · skip
    refine own_pre (F' := T0.setTop (mkF m 24 #[.val (.long q0), .second, .val (.long q1), .second, .val (.int p2), .val (.int p3), .val (.long x6), .second, .unset, .unset, .unset, .unset, .unset, .unset] [])) (fun _ k => XS.ifYes X0.here hx rfl (pc0 := 17) (pc' := 24) rfl (hb hby at_17) rfl ((if0 _ _).trans (feq (fun q => hc17 ((lw_eq _ _).mp q))).2) (by decide) (by decide) k) ?_
    refine own_pre (F' := T0.setTop (mkF m 25 #[.val (.long q0), .second, .val (.long q1), .second, .val (.int p2), .val (.int p3), .val (.long x6), .second, .unset, .unset, .unset, .unset, .unset, .unset] [(.int (0 : Int32))])) (fun _ k => XS.iconst X0.here hx rfl (hb hby at_24) k) ?_
    exact g0_25 hw q0 q1 p2 p3 x6 (0 : Int32) Bd hml hZ T0 X0 e0
def f0_0 (q0 : Int64) (q1 : Int64) (p2 : Int32) (p3 : Int32) : Int32 := (f0_11 q0 q1 p2 p3 (f1_0 q0 q1 p2 p3))
set_option maxRecDepth 65536 in
set_option maxHeartbeats 40000000 in
theorem g0_0 {p : Program} {l : Launch} {e : Env} {s : State} {m : MethodId} {below : List Frame} {meth : Method} {c : Code} {s₁ : State} {ws : List Jvm.Cond} {Z : State} {aw : Array Value} (hw : ∀ d ∈ tables_1, d.before aw Z = true) {h0 : Heap} (q0 : Int64) (q1 : Int64) (p2 : Int32) (p3 : Int32)
    (Bd : BodyLoose p l x (head1 (Jvm.Cond.code x code maxLocals ret :: ws) room_1) code maxLocals ret e s m #[(.long q0), (.long q1), (.int p2), (.int p3)] below meth c s₁) (hml : c.maxLocals = 14) (hZ : Z.Warmed39 s.vm) (T0 : State) (X0 : Stand p l e room_1 s m #[(.long q0), (.long q1), (.int p2), (.int p3)] below meth c T0 [] 0 0) (e0 : T0.heap = h0) :
    own_Go p e below s room_1.cells room_1.slots (some (.int (f0_0 q0 q1 p2 p3))) (own_K0 h0) (T0.setTop (mkF m 0 #[.val (.long q0), .second, .val (.long q1), .second, .val (.int p2), .val (.int p3), .unset, .unset, .unset, .unset, .unset, .unset, .unset, .unset] [])) := by
  have hx := Bd.exec
  have hby := Bd.bytes
  have hown : s.vm.findClass "com/example/ord3/ord3/ZxidFollowsPinLaw" = some m.cls := findClass_of_methodNamed Bd.named
  unfold f0_0
  refine own_pre (F' := T0.setTop (mkF m 1 #[.val (.long q0), .second, .val (.long q1), .second, .val (.int p2), .val (.int p3), .unset, .unset, .unset, .unset, .unset, .unset, .unset, .unset] [(.long q0)])) (fun _ k => XS.lloadN X0.here hx rfl (hb hby at_0) rfl k) ?_
  refine own_pre (F' := T0.setTop (mkF m 2 #[.val (.long q0), .second, .val (.long q1), .second, .val (.int p2), .val (.int p3), .unset, .unset, .unset, .unset, .unset, .unset, .unset, .unset] [(.long q1), (.long q0)])) (fun _ k => XS.lloadN X0.here hx rfl (hb hby at_1) rfl k) ?_
  refine own_pre (F' := T0.setTop (mkF m 4 #[.val (.long q0), .second, .val (.long q1), .second, .val (.int p2), .val (.int p3), .unset, .unset, .unset, .unset, .unset, .unset, .unset, .unset] [(.int p2), (.long q1), (.long q0)])) (fun _ k => XS.iload X0.here hx rfl (hb hby at_2) rfl k) ?_
  refine own_pre (F' := T0.setTop (mkF m 6 #[.val (.long q0), .second, .val (.long q1), .second, .val (.int p2), .val (.int p3), .unset, .unset, .unset, .unset, .unset, .unset, .unset, .unset] [(.int p3), (.int p2), (.long q1), (.long q0)])) (fun _ k => XS.iload X0.here hx rfl (hb hby at_4) rfl k) ?_
  obtain ⟨_, _, ⟨T2, L', k', n'⟩, -, X'', ⟨Lc', hQ', l', y', z'⟩, st'⟩ := Jvm.LawKit.callS X0 hx (y := (⟨"com/example/ord3/ord3/ZxidFollowsPinLaw", "pickNext", "(JJII)J"⟩ : MethodName)) hown (mvT hZ (hw _ (List.mem_of_getElem? (i := 0) rfl))) (mvT hZ (hw _ (List.mem_of_getElem? (i := 1) rfl))) (mvT hZ (hw _ (List.mem_of_getElem? (i := 2) rfl))) (mvT hZ (hw _ (List.mem_of_getElem? (i := 3) rfl))) (by decide) (backOf (W := 0) (rm1 l Z aw hw [] q0 q1 p2 p3 h0) hZ (hw _ (List.mem_of_getElem? (i := 3) rfl)) (hw _ (List.mem_of_getElem? (i := 2) rfl)) (by decide) (by decide)) (g := (mkF m 6 #[.val (.long q0), .second, .val (.long q1), .second, .val (.int p2), .val (.int p3), .unset, .unset, .unset, .unset, .unset, .unset, .unset, .unset] [(.int p3), (.int p2), (.long q1), (.long q0)])) rfl (by rw [hml]; rfl) (argsL := [(.long q0), (.long q1), (.int p2), (.int p3)]) (rest := []) (lenOf own_pd1 rfl) rfl (by show 2 * 0 + _ ≤ _; exact Nat.le_of_eq rfl) (hb hby at_6) (fun _ _ => ⟨rfl, e0, (by decide : 0 + 0 ≤ _), (by decide : 0 + 0 ≤ _)⟩)
  dsimp only [Pt.U, Pt.locs, Pt.cells, Pt.slots] at X'' l' y' z' st' hQ'
  subst l' y' z'
  obtain ⟨rfl, rfl, e2⟩ := hQ'
  have X2 : Stand p l e room_1 s m #[(.long q0), (.long q1), (.int p2), (.int p3)] below meth c T2 [] 0 0 := X''
  refine own_pre (F' := T2.setTop (mkF m 9 #[.val (.long q0), .second, .val (.long q1), .second, .val (.int p2), .val (.int p3), .unset, .unset, .unset, .unset, .unset, .unset, .unset, .unset] [(.long (f1_0 q0 q1 p2 p3))])) (fun t k => st' t k) ?_
  refine own_pre (F' := T2.setTop (mkF m 11 #[.val (.long q0), .second, .val (.long q1), .second, .val (.int p2), .val (.int p3), .val (.long (f1_0 q0 q1 p2 p3)), .second, .unset, .unset, .unset, .unset, .unset, .unset] [])) (fun _ k => XS.lstore X2.here hx rfl (hb hby at_9) rfl (l' := #[.val (.long q0), .second, .val (.long q1), .second, .val (.int p2), .val (.int p3), .val (.long (f1_0 q0 q1 p2 p3)), .second, .unset, .unset, .unset, .unset, .unset, .unset]) rfl k) ?_
  exact g0_11 hw q0 q1 p2 p3 (f1_0 q0 q1 p2 p3) Bd hml hZ T2 X2 e2
theorem ef_0 (m : MethodId) (q0 : Int64) (q1 : Int64) (p2 : Int32) (p3 : Int32) : entryFrame m #[(.long q0), (.long q1), (.int p2), (.int p3)] maxLocals = mkF m 0 #[.val (.long q0), .second, .val (.long q1), .second, .val (.int p2), .val (.int p3), .unset, .unset, .unset, .unset, .unset, .unset, .unset, .unset] [] := by first | (simp [entryFrame, mkF, argsToLocals, Value.category, maxLocals]; done) | rfl
set_option maxRecDepth 65536 in
set_option maxHeartbeats 40000000 in
theorem rm0 (l : Launch) (Z : State) (aw : Array Value) (hw : ∀ d ∈ tables_1, d.before aw Z = true) (ws : List Jvm.Cond) (q0 : Int64) (q1 : Int64) (p2 : Int32) (p3 : Int32) (h0 : Heap) :
    MetFree l x (head1 (Jvm.Cond.code x code maxLocals ret :: ws) room_1) (fun a U => a = #[(.long q0), (.long q1), (.int p2), (.int p3)] ∧ Z.Warmed39 U.vm ∧ U.heap = h0) (fun _ _ _ _ _ => True) (fun _ U o U' => ∃ v L, o = .returned v ∧ own_Q (some (.int (f0_0 q0 q1 p2 p3))) (own_K0 h0) v U'.heap L ∧ FrameEnd U o U' L room_1.cells room_1.slots) := by
  refine MetFree.of_bodySF (plainFor_of_name own_pn0) hisR ?_
  intro p e s m args below meth c s₁ Bd hml0 hP hK
  obtain ⟨rfl, hZ, hh⟩ := hP
  have hml : c.maxLocals = 14 := hml0
  have e0 : s₁.heap = h0 := by rw [← hh, Bd.state]; rfl
  exact own_pre (fun t k => castTop (ef_0 m q0 q1 p2 p3) k) (g0_0 hw q0 q1 p2 p3 Bd hml hZ s₁ (Stand.of_body Bd) e0)
theorem own_xmin (x : Int32) : (0 ≤ x.toInt → (x ^^^ (-2147483648 : Int32)).toInt = x.toInt - 2147483648) ∧ (x.toInt < 0 → (x ^^^ (-2147483648 : Int32)).toInt = x.toInt + 2147483648) := by
  have h0 : (x ^^^ (-2147483648 : Int32)).toBitVec.toNat = x.toBitVec.toNat ^^^ 2147483648 := by
    show (x.toBitVec ^^^ (-2147483648 : Int32).toBitVec).toNat = _
    rw [BitVec.toNat_xor, show (-2147483648 : Int32).toBitVec.toNat = 2147483648 from by decide]
  have hx := x.toBitVec.isLt
  have hd := Nat.xor_div_two_pow (a := x.toBitVec.toNat) (b := 2147483648) (n := 31)
  have hm := Nat.xor_mod_two_pow (a := x.toBitVec.toNat) (b := 2147483648) (n := 31)
  rw [show 2147483648 / 2 ^ 31 = 1 from rfl] at hd
  rw [show 2147483648 % 2 ^ 31 = 0 from rfl, Nat.xor_zero] at hm
  have hc : x.toBitVec.toNat / 2 ^ 31 = 0 ∨ x.toBitVec.toNat / 2 ^ 31 = 1 := by omega
  show (0 ≤ x.toBitVec.toInt → (x ^^^ (-2147483648 : Int32)).toBitVec.toInt = x.toBitVec.toInt - 2147483648) ∧ (x.toBitVec.toInt < 0 → (x ^^^ (-2147483648 : Int32)).toBitVec.toInt = x.toBitVec.toInt + 2147483648)
  rw [BitVec.toInt_eq_toNat_cond, BitVec.toInt_eq_toNat_cond, h0]
  generalize x.toBitVec.toNat ^^^ 2147483648 = y at *
  generalize x.toBitVec.toNat = n at *
  rcases hc with hc | hc
  · rw [hc, show (0 ^^^ 1 : Nat) = 1 from rfl] at hd
    split <;> split <;> omega
  · rw [hc, show (1 ^^^ 1 : Nat) = 0 from rfl] at hd
    split <;> split <;> omega
theorem own_e1 (n a : Int64) : (n - a = 1) ↔ (n = a + 1) := by grind
theorem own_e3 (n : Int64) : n.toInt32 = 1 ↔ f4_0 n = 1 := by
  have h1 := c_l2i n
  have h2 := c_maskL n 4294967295 32 (by decide) (by decide)
  have r := rng32 n.toInt32
  unfold f4_0
  rw [← Int32.toInt_inj, ← Int64.toInt_inj]
  have e : (1 : Int64).toInt = 1 := by decide
  have e' : (1 : Int32).toInt = 1 := by decide
  rw [e, e']
  omega
theorem own_e2 (n a : Int64) : ((((a >>> ((32 : Int32) &&& 0x3f).toInt64).toInt32) ^^^ (-2147483648 : Int32)) < (((n >>> ((32 : Int32) &&& 0x3f).toInt64).toInt32) ^^^ (-2147483648 : Int32))) ↔ f3_0 a < f3_0 n := by
  unfold f3_0
  rw [Int32.lt_iff_toInt_lt, Int64.lt_iff_toInt_lt, c_lushr a 32 32 (by decide) (by decide), c_lushr n 32 32 (by decide) (by decide)]
  have xa := own_xmin (a >>> ((32 : Int32) &&& 0x3f).toInt64).toInt32
  have xn := own_xmin (n >>> ((32 : Int32) &&& 0x3f).toInt64).toInt32
  have la := c_l2i (a >>> ((32 : Int32) &&& 0x3f).toInt64)
  have ln := c_l2i (n >>> ((32 : Int32) &&& 0x3f).toInt64)
  have sa := c_lshr a 32 32 (by decide)
  have sn := c_lshr n 32 32 (by decide)
  have ra := rng64 a
  have rn := rng64 n
  have ra' := rng32 (a >>> ((32 : Int32) &&& 0x3f).toInt64).toInt32
  have rn' := rng32 (n >>> ((32 : Int32) &&& 0x3f).toInt64).toInt32
  omega
theorem own_law (a b : Int64) (c d : Int32) : f0_0 a b c d = 1 := by
  unfold f0_0
  generalize f1_0 a b c d = n
  have h2 := own_e2 n a
  simp only [f0_11, f0_25, f0_60, f0_74, f0_91, f0_95, f0_96, f2_0, f2_29, f2_33, own_e1, own_e3, h2]
  by_cases p1 : n = a + 1 <;> by_cases p2 : f3_0 a < f3_0 n <;> by_cases p3 : f4_0 n = 1 <;> simp [p1, p2, p3]
set_option maxRecDepth 65536 in
set_option maxHeartbeats 40000000 in
theorem comes_1 {Post : Tables → Env → Array Value → State → Outcome → State → Prop} (hpost : ∀ tb e args s v u, (limb_1_1.after args s (.returned v) u = true ∧ limb_1_2.after args s (.returned v) u = true ∧ True) → FrameEnd s (.returned v) u (Jvm.fieldLocs frame_1_writes args s ++ Jvm.arrayLocs frame_1_arrays args s ++ Jvm.staticLocs frame_1_statics s) 0 0 → Post tb e args s (.returned v) u) :
    ArmFor flags0 classFile x code maxLocals ret World_1 tables_1 room_1 Calls_1 rest_1 Pre_1 Post := by
  intro l hfl _ _ p e ha hc hk s m args below hf hA hF happ hP
  obtain ⟨hcalls, hrest, hpre⟩ := hP
  obtain ⟨-, -, -, hnamed, -, -, -, hat⟩ := (Spec.applies_iff hf).mp happ
  obtain ⟨hg, hn⟩ := and_e (Cond.before_iff.mp (show (Jvm.Cond.and given_1 narrow_1).before args s = true from hpre))
  obtain ⟨g1, g2⟩ := and_e hg
  obtain ⟨g3, g4⟩ := and_e g2
  obtain ⟨g5, g6⟩ := and_e g4
  obtain ⟨g7, g8⟩ := and_e g6
  obtain ⟨w0, w1, w2, w3, rfl⟩ : ∃ w0 w1 w2 w3 : Value, args = #[w0, w1, w2, w3] := by
    have hs : args.size = 4 := by simpa [Cond.value, given_1] using g1
    obtain ⟨L⟩ := args
    match L, hs with
    | [w0, w1, w2, w3], _ => exact ⟨w0, w1, w2, w3, rfl⟩
  have hw := fun d (hd : d ∈ tables_1) => atoms_spec (ws := Jvm.Cond.code x code maxLocals ret :: tables_1) hat d (List.mem_cons_of_mem _ hd)
  have hfit : Fit s := fun {y c} hc i hi => by
    obtain ⟨ha, rfl⟩ := Array.getElem?_eq_some_iff.mp hc
    have q := List.all_eq_true.mp ((Array.all_eq_true_iff_forall_mem.mp hF) _ (Array.getElem_mem ha)) i (List.mem_range.mpr hi)
    simpa [Array.getElem?_eq_getElem hi] using q
  obtain ⟨i0, ei0⟩ := isL_v g3
  obtain rfl : w0 = (.long i0) := Option.some.inj ei0
  obtain ⟨i1, ei1⟩ := isL_v g5
  obtain rfl : w1 = (.long i1) := Option.some.inj ei1
  obtain ⟨i2, ei2⟩ := is_v g7
  obtain rfl : w2 = (.int i2) := Option.some.inj ei2
  obtain ⟨i3, ei3⟩ := is_v g8
  obtain rfl : w3 = (.int i3) := Option.some.inj ei3
  obtain ⟨n, o, h1, h2, h3, v, L, rfl, ⟨hv, hK⟩, hq⟩ := rm0 l s _ hw tables_1 i0 i1 i2 i3 s.heap p e ha hc hk s m _ below hf ((Spec.applies_iff_loose hf).mp happ).1 ⟨rfl, State.Warmed39.refl s, rfl⟩ trivial
  rw [own_law] at hv
  subst hv
  refine ⟨n, _, h1, h2, h3, hpost _ _ _ _ _ _ ⟨Cond.after_iff.mpr rfl, Cond.after_iff.mpr (eq_i res_at (Term.int_eval (1)) rfl), trivial⟩ ⟨hq.1, hq.2.1, (hq.2.2.sift fun y hy => ?_).mono (by decide) (by decide)⟩⟩
  rw [hK.1] at hy
  cases hy
theorem main_1_1 : Claimed_1_1 := comes_1 fun _ _ _ _ _ _ h hF => ⟨h.1, hF⟩
theorem main_1_2 : Claimed_1_2 := comes_1 fun _ _ _ _ _ _ h hF => ⟨h.2.1, hF⟩
end Jvm.Pilot.@@N@@
namespace Jvm.Pilot.@@N@@
open Jvm Jvm.ClassFile Sem Op Lib Jvm.Free Jvm.Stand Jvm.Pilot.@@N@@.Jvm.D
/-! MADE BY PROGRAM (witnessworld.py) out of the Statement's table words and the real class files: 9 classes; the members and pool entries that the words name. The judged class is class 1, her method 2. -/
namespace start1
open Jvm.ClassFile
def u (s : String) : CpInfo := .utf8 (stringToUtf16 s)
/-- a pool by its gaps: so many unusable entries, then the entry; so many at the end -/
def gap : Nat → List CpInfo → List CpInfo
  | 0, r => r
  | n + 1, r => .unusable :: gap n r
def poolList (es : List (Nat × CpInfo)) (last : Nat) : List CpInfo := es.foldr (fun e r => gap e.1 (e.2 :: r)) (gap last [])
def pool (es : List (Nat × CpInfo)) (last : Nat) : Array CpInfo := ⟨poolList es last⟩
def fileOf (pool : Array CpInfo) (this : Nat) (attrs : Array Attribute := #[]) (ms : Array MethodInfo := #[]) (fl : Nat := 33) (sup : Nat := 0) (ifs : Array Nat := #[]) (fds : Array FieldInfo := #[]) : ClassFile where
  minorVersion := 0
  majorVersion := 65
  constantPool := pool
  accessFlags := fl
  thisClass := this
  superClass := sup
  interfaces := ifs
  fields := fds
  methods := ms
  attributes := attrs
def plain (name : String) (sup : Option ClassId) : Class where
  name := name
  kind := .ordinary
  loader := none
  accessFlags := 33
  super := sup
  interfaces := #[]
  cf := none
  fields := #[]
  methods := #[]
  instanceTypes := #[]
  staticTypes := #[]
  resolved := #[]
  callSites := []
  init := .initialized
  statics := none
  mirror := none

def pool0 : Array CpInfo := pool [(5, u "<init>"), (0, u "()V"), (1, .class_ 10), (1, u "java/lang/Object")] 113

def k0m0 : Method := { name := "<init>", desc := "()V", sig := { parameters := [], returnType := none }, accessFlags := 1, code := none }
/-- java/lang/Object -/
def k0 : Class := { plain "java/lang/Object" none with
  accessFlags := 33
  interfaces := #[]
  cf := some (fileOf pool0 8 #[] #[{ accessFlags := 1, nameIndex := 5, descriptorIndex := 6, attributes := #[] }] 33 0 #[] #[])
  fields := #[]
  methods := #[k0m0]
  instanceTypes := #[]
  staticTypes := #[]
  resolved := Array.replicate 124 none
  statics := none }

def pool1 : Array CpInfo := pool [(2, .class_ 4), (1, u "java/lang/Object"), (0, u "<init>"), (0, u "()V"), (0, .methodref 8 9), (0, .class_ 10), (0, .nameAndType 11 12), (0, u "com/example/ord3/ord3/ZxidFollowsPinLaw"), (0, u "pickNext"), (0, u "(JJII)J"), (2, .integer 2147483648), (0, .methodref 17 18), (0, .class_ 19), (0, .nameAndType 20 21), (0, u "com/example/ord3/ord3/Zxid"), (0, u "follows"), (0, u "(JJ)Z"), (3, u "law"), (0, u "(JJII)Z")] 2

def k1m0 : Method := { name := "<init>", desc := "()V", sig := { parameters := [], returnType := none }, accessFlags := 2, code := none }
def k1c1 : Code := { maxStack := 4, maxLocals := 9, code := method_2_code, exceptionTable := #[], attributes := #[] }
def k1m1 : Method := { name := "pickNext", desc := "(JJII)J", sig := { parameters := [.long, .long, .int, .int], returnType := some .long }, accessFlags := 10, code := some k1c1 }
def k1c2 : Code := { maxStack := 6, maxLocals := 14, code := code, exceptionTable := #[], attributes := #[] }
def k1m2 : Method := { name := "law", desc := "(JJII)Z", sig := { parameters := [.long, .long, .int, .int], returnType := some .boolean }, accessFlags := 9, code := some k1c2 }
/-- com/example/ord3/ord3/ZxidFollowsPinLaw -/
def k1 : Class := { plain "com/example/ord3/ord3/ZxidFollowsPinLaw" (some 0) with
  accessFlags := 49
  interfaces := #[]
  cf := some (fileOf pool1 8 #[] #[{ accessFlags := 2, nameIndex := 5, descriptorIndex := 6, attributes := #[] }, { accessFlags := 10, nameIndex := 11, descriptorIndex := 12, attributes := #[] }, { accessFlags := 9, nameIndex := 25, descriptorIndex := 26, attributes := #[] }] 49 2 #[] #[])
  fields := #[]
  methods := #[k1m0, k1m1, k1m2]
  instanceTypes := #[]
  staticTypes := #[]
  resolved := Array.replicate 29 none
  statics := none }

def pool2 : Array CpInfo := pool [(2, .class_ 4), (1, u "java/lang/Object"), (0, u "<init>"), (0, u "()V"), (0, .long 4294967295), (1, .methodref 10 11), (0, .class_ 12), (0, .nameAndType 13 14), (0, u "com/example/ord3/ord3/Zxid"), (0, u "epoch"), (0, u "(J)J"), (0, .methodref 10 16), (0, .nameAndType 17 14), (0, u "counter"), (3, u "follows"), (0, u "(JJ)Z")] 3

def k2m0 : Method := { name := "<init>", desc := "()V", sig := { parameters := [], returnType := none }, accessFlags := 2, code := none }
def k2c1 : Code := { maxStack := 3, maxLocals := 2, code := prog_11_method_2_code, exceptionTable := #[], attributes := #[] }
def k2m1 : Method := { name := "epoch", desc := "(J)J", sig := { parameters := [.long], returnType := some .long }, accessFlags := 8, code := some k2c1 }
def k2c2 : Code := { maxStack := 4, maxLocals := 2, code := prog_11_method_3_code, exceptionTable := #[], attributes := #[] }
def k2m2 : Method := { name := "counter", desc := "(J)J", sig := { parameters := [.long], returnType := some .long }, accessFlags := 8, code := some k2c2 }
def k2c3 : Code := { maxStack := 6, maxLocals := 4, code := prog_11_method_5_code, exceptionTable := #[], attributes := #[] }
def k2m3 : Method := { name := "follows", desc := "(JJ)Z", sig := { parameters := [.long, .long], returnType := some .boolean }, accessFlags := 8, code := some k2c3 }
/-- com/example/ord3/ord3/Zxid -/
def k2 : Class := { plain "com/example/ord3/ord3/Zxid" (some 0) with
  accessFlags := 32
  interfaces := #[]
  cf := some (fileOf pool2 10 #[] #[{ accessFlags := 2, nameIndex := 5, descriptorIndex := 6, attributes := #[] }, { accessFlags := 8, nameIndex := 13, descriptorIndex := 14, attributes := #[] }, { accessFlags := 8, nameIndex := 17, descriptorIndex := 14, attributes := #[] }, { accessFlags := 8, nameIndex := 21, descriptorIndex := 22, attributes := #[] }] 32 2 #[] #[])
  fields := #[]
  methods := #[k2m0, k2m1, k2m2, k2m3]
  instanceTypes := #[]
  staticTypes := #[]
  resolved := Array.replicate 26 none
  statics := none }

def pool3 : Array CpInfo := pool [(1, u "java/lang/Cloneable"), (0, .class_ 1), (0, u "java/lang/Object"), (0, .class_ 3)] 3

/-- java/lang/Cloneable -/
def k3 : Class := { plain "java/lang/Cloneable" (some 0) with
  accessFlags := 1537
  interfaces := #[]
  cf := some (fileOf pool3 2 #[] #[] 1537 4 #[] #[])
  fields := #[]
  methods := #[]
  instanceTypes := #[]
  staticTypes := #[]
  resolved := Array.replicate 8 none
  statics := none }

def pool4 : Array CpInfo := pool [(1, u "java/io/Serializable"), (0, .class_ 1), (0, u "java/lang/Object"), (0, .class_ 3)] 3

/-- java/io/Serializable -/
def k4 : Class := { plain "java/io/Serializable" (some 0) with
  accessFlags := 1537
  interfaces := #[]
  cf := some (fileOf pool4 2 #[] #[] 1537 4 #[] #[])
  fields := #[]
  methods := #[]
  instanceTypes := #[]
  staticTypes := #[]
  resolved := Array.replicate 8 none
  statics := none }

/-- the primitive byte -/
def k5 : Class := { plain "byte" none with kind := .primitive 'B', accessFlags := 0x411 }
/-- [B -/
def k6 : Class := { plain "[B" (some 0) with kind := .array 5 .byte, interfaces := #[3, 4], accessFlags := 1041 }

/-- the primitive int -/
def k7 : Class := { plain "int" none with kind := .primitive 'I', accessFlags := 0x411 }
/-- [I -/
def k8 : Class := { plain "[I" (some 0) with kind := .array 7 .int, interfaces := #[3, 4], accessFlags := 1041 }

def heap : Heap := #[]
def classes : Array Class := #[k0, k1, k2, k3, k4, k5, k6, k7, k8]
def interned : List (Array UInt16 × Addr) := []
def slotsUsed : Nat := 0
def theMethod : MethodId := ⟨1, 2⟩
def args0 : Array Value := #[.long 5, .long 7, .int 9, .int 3]
def aboutOver (below : List Frame) : State where
  vm := { classes := classes, interned := interned.toArray }
  heap := heap
  slotsUsed := slotsUsed
  threads := #[{ frames := .invoking theMethod args0 :: below }]
def below0 : List Frame := [.native { method := ⟨0, 0⟩, args := #[] }]
def about1 : State := aboutOver below0
def p0 : Program := .bare "" "" ""
def e0 : Env := launch0.env 0 0 0
theorem w_frames : about1.frames = Frame.invoking theMethod args0 :: below0 := rfl
set_option maxRecDepth 65536 in
theorem w_args : argsFit about1.vm theMethod args0 = true := by decide +kernel
set_option maxRecDepth 65536 in
theorem w_heap : heapFits about1 = true := by decide +kernel
set_option maxRecDepth 65536 in
theorem w_runnable : about1.curStatus? = some .runnable := by decide +kernel
set_option maxRecDepth 65536 in
theorem w_alone : about1.alone = true := by decide +kernel
set_option maxRecDepth 65536 in
theorem w_named : about1.methodNamed? x = some theMethod := by decide +kernel
set_option maxRecDepth 65536 in
theorem w_hears : about1.hears theMethod below0 = true := by decide +kernel
set_option maxRecDepth 65536 in
theorem w_ripe : about1.ripe theMethod args0 below0 = true := by decide +kernel
theorem w_running : about1.status = .running := rfl
set_option maxRecDepth 65536 in
theorem w_room : about1.hasRoom e0.platform room_1 = true :=
  launch0.hasRoom_least _ room_1 (by decide +kernel) (by decide +kernel) (by decide +kernel) (by decide +kernel) (by decide +kernel) (by decide +kernel)
theorem allAtoms_all (ts : List Jvm.Cond) (a : Array Jvm.Value) (st : Jvm.State) : (allAtoms ts).before a st = ts.all (fun c => c.before a st) := by
  induction ts with
  | nil => rfl
  | cons c t ih =>
    show (Jvm.Cond.and c (allAtoms t)).before a st = _
    rw [Jvm.Cond.before_and, ih, List.all_cons]
def words1 : List Jvm.Cond := Jvm.Cond.code x code maxLocals ret :: tables_1
/-- a 'code' word, met by the world's own term for the bytes: nothing is compared byte by byte -/
theorem code_word {y : MethodName} {bytes : ByteArray} {mx : Nat} {rt : Option FieldType} {a : Array Value} {s : State} {m : MethodId} {meth : Method} {c : Code} (h1 : s.methodNamed? y = some m) (h2 : s.vm.method? m = some meth) (h3 : meth.code = some c) (h4 : c.code = bytes)
    (h5 : (c.maxLocals == mx && c.exceptionTable.isEmpty && decide (c.maxStack ≤ mostOperands) && decide (meth.sig.returnType = rt) && !meth.locks && decide (parseMethodDescriptor y.desc = some meth.sig)) = true) : (Jvm.Cond.code y bytes mx rt).before a s = true := by
  simp only [Bool.and_eq_true, beq_iff_eq, Bool.not_eq_true', decide_eq_true_eq] at h5
  obtain ⟨⟨⟨⟨⟨g1, g2⟩, g3⟩, g4⟩, g5⟩, g6⟩ := h5
  simp [Cond.before, Cond.holds, Cond.value, h1, h2, h3, h4, g1, g2, g3, g4, g5, g6]
def isCode : Jvm.Cond → Bool
  | .code _ _ _ _ => true
  | _ => false
theorem all_split {L : List Jvm.Cond} {P : Jvm.Cond → Bool} (h1 : L.all (fun c => isCode c || P c) = true) (h2 : ∀ c ∈ L.filter isCode, P c = true) : L.all P = true := by
  refine List.all_eq_true.mpr fun c hc => ?_
  have h := List.all_eq_true.mp h1 c hc
  rcases Bool.eq_false_or_eq_true (isCode c) with hi | hi
  · exact h2 c (List.mem_filter.mpr ⟨hc, hi⟩)
  · simpa [hi] using h
set_option maxRecDepth 65536 in
theorem w_c0 : (Jvm.Cond.code x code maxLocals ret).before args0 about1 = true := code_word (m := ⟨1, 2⟩) (meth := k1m2) (c := k1c2) (by decide +kernel) rfl rfl rfl (by decide +kernel)
set_option maxRecDepth 65536 in
theorem w_c1 : (Jvm.Cond.code ({ cls := "com/example/ord3/ord3/ZxidFollowsPinLaw", name := "pickNext", desc := "(JJII)J" } : Jvm.MethodName) method_2_code (9 : Nat) (Option.some Jvm.ClassFile.FieldType.long)).before args0 about1 = true := code_word (m := ⟨1, 1⟩) (meth := k1m1) (c := k1c1) (by decide +kernel) rfl rfl rfl (by decide +kernel)
set_option maxRecDepth 65536 in
theorem w_c2 : (Jvm.Cond.code ({ cls := "com/example/ord3/ord3/Zxid", name := "follows", desc := "(JJ)Z" } : Jvm.MethodName) prog_11_method_5_code (4 : Nat) (Option.some Jvm.ClassFile.FieldType.boolean)).before args0 about1 = true := code_word (m := ⟨2, 3⟩) (meth := k2m3) (c := k2c3) (by decide +kernel) rfl rfl rfl (by decide +kernel)
set_option maxRecDepth 65536 in
theorem w_c3 : (Jvm.Cond.code ({ cls := "com/example/ord3/ord3/Zxid", name := "epoch", desc := "(J)J" } : Jvm.MethodName) prog_11_method_2_code (2 : Nat) (Option.some Jvm.ClassFile.FieldType.long)).before args0 about1 = true := code_word (m := ⟨2, 1⟩) (meth := k2m1) (c := k2c1) (by decide +kernel) rfl rfl rfl (by decide +kernel)
set_option maxRecDepth 65536 in
theorem w_c4 : (Jvm.Cond.code ({ cls := "com/example/ord3/ord3/Zxid", name := "counter", desc := "(J)J" } : Jvm.MethodName) prog_11_method_3_code (2 : Nat) (Option.some Jvm.ClassFile.FieldType.long)).before args0 about1 = true := code_word (m := ⟨2, 2⟩) (meth := k2m2) (c := k2c2) (by decide +kernel) rfl rfl rfl (by decide +kernel)
def codes1 : List Jvm.Cond := [Jvm.Cond.code x code maxLocals ret, Jvm.Cond.code ({ cls := "com/example/ord3/ord3/ZxidFollowsPinLaw", name := "pickNext", desc := "(JJII)J" } : Jvm.MethodName) method_2_code (9 : Nat) (Option.some Jvm.ClassFile.FieldType.long), Jvm.Cond.code ({ cls := "com/example/ord3/ord3/Zxid", name := "follows", desc := "(JJ)Z" } : Jvm.MethodName) prog_11_method_5_code (4 : Nat) (Option.some Jvm.ClassFile.FieldType.boolean), Jvm.Cond.code ({ cls := "com/example/ord3/ord3/Zxid", name := "epoch", desc := "(J)J" } : Jvm.MethodName) prog_11_method_2_code (2 : Nat) (Option.some Jvm.ClassFile.FieldType.long), Jvm.Cond.code ({ cls := "com/example/ord3/ord3/Zxid", name := "counter", desc := "(J)J" } : Jvm.MethodName) prog_11_method_3_code (2 : Nat) (Option.some Jvm.ClassFile.FieldType.long)]
set_option maxRecDepth 65536 in
theorem codes_eq : words1.filter isCode = codes1 := rfl
theorem w_codes : ∀ c ∈ words1.filter isCode, c.before args0 about1 = true := by
  rw [codes_eq]
  intro c hc
  simp only [codes1, List.mem_cons, List.not_mem_nil, or_false] at hc
  rcases hc with rfl | rfl | rfl | rfl | rfl
  · exact w_c0
  · exact w_c1
  · exact w_c2
  · exact w_c3
  · exact w_c4
set_option maxRecDepth 65536 in
theorem w_t1 : words1.all (fun c => isCode c || c.before args0 about1) = true := by decide +kernel
theorem w_tables : (allAtoms (Jvm.Cond.code x code maxLocals ret :: tables_1)).before args0 about1 = true := by
  rw [allAtoms_all]
  show words1.all (fun c => c.before args0 about1) = true
  refine all_split ?_ w_codes
  rw [w_t1]
set_option maxRecDepth 65536 in
theorem w_case : (Jvm.Cond.and given_1 narrow_1).before args0 about1 = true := by decide +kernel
theorem w_applies : (headSpec (Jvm.Cond.code x code maxLocals ret :: tables_1) room_1).applies x e0.platform about1 = true :=
  (Spec.applies_iff w_frames).mpr ⟨w_running, w_runnable, w_alone, w_named, w_hears, w_ripe, w_room, w_tables⟩
theorem atStart : AtStart classFile x code maxLocals ret World_1 tables_1 room_1 Calls_1 rest_1 Pre_1 launch0 p0 e0 about1 theMethod args0 below0 :=
  ⟨lists_1, trivial, launch0.admits_env _ _ _, launch0.least_env, fairChoices_fair.cas, fairChoices_fair.clock, w_frames, w_args, w_heap, w_applies, trivial, trivial, w_case⟩
end start1
theorem witness_1 : WitnessClaimed_1 := ⟨start1.p0, start1.e0, start1.about1, start1.theMethod, start1.args0, start1.below0, start1.atStart⟩
end Jvm.Pilot.@@N@@
