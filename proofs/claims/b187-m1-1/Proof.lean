import JvmDerived
import JvmDerived.Pilot.@@N@@Statement
import JvmDerived.Pilot.@@N@@Code
set_option linter.unusedVariables false
set_option linter.unusedSimpArgs false
namespace Jvm.RoadKit
open Sem ClassFile Op Lib Jvm.Stand Jvm.Free Jvm.LawKit
section New
variable {p : Program} {l : Launch} {e : Env} {R : Room} {s : State} {m : MethodId} {args : Array Value} {below : List Frame} {meth : Method} {c : Code} {T : State} {locs : List Loc} {cells slots : Nat}
/-- what a body hands back: the value r, and K of the heap and the places at its end -/
def own_Q (r : Option Value) (K : Heap → List Loc → Prop) (v : Option Value) (h : Heap) (L : List Loc) : Prop := v = r ∧ K h L
/-- nothing is written, nothing is made -/
def own_K0 (h0 : Heap) (h : Heap) (L : List Loc) : Prop := L = [] ∧ h = h0
/-- from F on the run returns r with K -/
def own_Go (p : Program) (e : Env) (below : List Frame) (s : State) (C N : Nat) (r : Option Value) (K : Heap → List Loc → Prop) (F : State) : Prop :=
  ∃ s₂ o, Steps p.tables e below F s₂ ∧ s₂.status = .running ∧ Ended s₂ below o ∧ ∃ v L, o = .returned v ∧ own_Q r K v s₂.heap L ∧ FrameEnd s o s₂ L C N
theorem own_pre {C N : Nat} {r : Option Value} {K : Heap → List Loc → Prop} {F F' : State} (h : ∀ t, Steps p.tables e below F' t → Steps p.tables e below F t) (g : own_Go p e below s C N r K F') : own_Go p e below s C N r K F := by
  obtain ⟨t, o, a, b⟩ := g
  exact ⟨t, o, h t a, b⟩
theorem own_iteI {C N : Nat} {K : Heap → List Loc → Prop} {F : State} {P : Prop} [Decidable P] {a b : Int32} (h1 : P → own_Go p e below s C N (some (.int a)) K F) (h2 : ¬ P → own_Go p e below s C N (some (.int b)) K F) : own_Go p e below s C N (some (.int (if P then a else b))) K F := by
  by_cases q : P
  · rw [if_pos q]; exact h1 q
  · rw [if_neg q]; exact h2 q
theorem own_iteJ {C N : Nat} {K : Heap → List Loc → Prop} {F : State} {P : Prop} [Decidable P] {a b : Int64} (h1 : P → own_Go p e below s C N (some (.long a)) K F) (h2 : ¬ P → own_Go p e below s C N (some (.long b)) K F) : own_Go p e below s C N (some (.long (if P then a else b))) K F := by
  by_cases q : P
  · rw [if_pos q]; exact h1 q
  · rw [if_neg q]; exact h2 q
theorem own_iteR {C N : Nat} {K : Heap → List Loc → Prop} {F : State} {P : Prop} [Decidable P] {a b : Addr} (h1 : P → own_Go p e below s C N (some (.ref a)) K F) (h2 : ¬ P → own_Go p e below s C N (some (.ref b)) K F) : own_Go p e below s C N (some (.ref (if P then a else b))) K F := by
  by_cases q : P
  · rw [if_pos q]; exact h1 q
  · rw [if_neg q]; exact h2 q
theorem own_iteV {C N : Nat} {K : Heap → List Loc → Prop} {F : State} {P : Prop} [Decidable P] {a b : Value} (h1 : P → own_Go p e below s C N (some a) K F) (h2 : ¬ P → own_Go p e below s C N (some b) K F) : own_Go p e below s C N (some (if P then a else b)) K F := by
  by_cases q : P
  · rw [if_pos q]; exact h1 q
  · rw [if_neg q]; exact h2 q
theorem own_ret (X : Stand p l e R s m args below meth c T locs cells slots) (hx : p.tables.exec = Jvm.exec) (hlocks : meth.locks = false) {pc : Nat} {Ls : Array Slot} {w : Value} {t : FieldType} {i : Instr} {rest : List Value} {C N : Nat} {K : Heap → List Loc → Prop} (hret : meth.sig.returnType = some t) (hn : narrow t w = w)
    (hi : (i = .ireturn ∧ (t = .int ∨ t = .boolean ∨ t = .byte ∨ t = .char ∨ t = .short) ∧ ∃ z, w = .int z) ∨ (i = .lreturn ∧ t = .long ∧ ∃ z, w = .long z) ∨ (i = .areturn ∧ t.isReference = true ∧ w.isRef = true))
    (hd : decode c.code pc = .ok (i, 1)) (hK : K T.heap locs) (hC : cells ≤ C) (hN : slots ≤ N) : own_Go p e below s C N (some w) K (T.setTop (mkF m pc Ls (w :: rest))) := by
  obtain ⟨fs, hr, hrun, hended, hW, hsame⟩ := X.leave (v := some w) (fun h => by rw [hret] at h; cases h)
  refine ⟨_, _, retOut X hx hret hn ?_ hd hr, hrun, hended, _, _, rfl, ⟨rfl, hK⟩, ⟨_, rfl⟩, hW, hsame.mono hC hN⟩
  rcases hi with h | h | h
  · exact Or.inl h
  · exact Or.inr (Or.inl h)
  · exact Or.inr (Or.inr (Or.inr (Or.inr h)))
theorem own_retN (X : Stand p l e R s m args below meth c T locs cells slots) (hx : p.tables.exec = Jvm.exec) (hlocks : meth.locks = false) {pc : Nat} {Ls : Array Slot} {z : Int32} {t : FieldType} {rest : List Value} {C N : Nat} {K : Heap → List Loc → Prop} (hret : meth.sig.returnType = some t) (ht : t = .boolean ∨ t = .byte ∨ t = .char ∨ t = .short)
    (hd : decode c.code pc = .ok (.ireturn, 1)) (hK : K T.heap locs) (hC : cells ≤ C) (hN : slots ≤ N) : own_Go p e below s C N (some (.int (nar t z))) K (T.setTop (mkF m pc Ls (.int z :: rest))) := by
  obtain ⟨fs, hr, hrun, hended, hW, hsame⟩ := X.leave (v := some (.int (nar t z))) (fun h => by rw [hret] at h; cases h)
  exact ⟨_, _, retN X hx hret ht hd hr, hrun, hended, _, _, rfl, ⟨rfl, hK⟩, ⟨_, rfl⟩, hW, hsame.mono hC hN⟩
theorem own_retV (X : Stand p l e R s m args below meth c T locs cells slots) (hx : p.tables.exec = Jvm.exec) (hlocks : meth.locks = false) {pc : Nat} {Ls : Array Slot} {C N : Nat} {K : Heap → List Loc → Prop} (hret : meth.sig.returnType = none)
    (hd : decode c.code pc = .ok (.return_, 1)) (hK : K T.heap locs) (hC : cells ≤ C) (hN : slots ≤ N) : own_Go p e below s C N none K (T.setTop (mkF m pc Ls [])) := by
  obtain ⟨fs, hr, hrun, hended, hW, hsame⟩ := X.leave (v := none) (fun _ => rfl)
  exact ⟨_, _, X.returnOut hx hret hd hr, hrun, hended, _, _, rfl, ⟨rfl, hK⟩, ⟨_, rfl⟩, hW, hsame.mono hC hN⟩
theorem own_lremM {g : JFrame} {target : State} (X : Stand p l e R s m args below meth c T locs cells slots) (hx : p.tables.exec = Jvm.exec) (hg : g.method = m) {x y : Int64} {rest : List Value} (hd : decode c.code g.pc = .ok (.lrem, 1)) (hs : g.stack = .long y :: .long x :: rest) (hy : y ≠ 0)
    (hr : Steps p.tables e below (T.setTop { g with pc := g.pc + 1, stack := .long (x % y) :: rest }) target) : Steps p.tables e below (T.setTop g) target :=
  XS.lrem X.here hx hg hd hs hy (by rw [lrem_mod]; exact hr)
theorem own_nar (z : Int32) : nar .boolean z = z &&& 1 := rfl
end New
end Jvm.RoadKit
namespace Jvm.Pilot.@@N@@
open Jvm Jvm.ClassFile Sem Op Lib Jvm.Free Jvm.Stand Jvm.LawKit Jvm.RoadKit Bundle Jvm.Pilot.@@N@@.Jvm.D
/-! body 1 -/
theorem d1_0 : decode prog_27_method_2_code 0 = .ok (.ldc2_w 55, 3) := by decide +kernel
theorem d1_3 : decode prog_27_method_2_code 3 = .ok (.lload_n 0, 1) := by decide +kernel
theorem d1_4 : decode prog_27_method_2_code 4 = .ok (.lmul, 1) := by decide +kernel
theorem d1_5 : decode prog_27_method_2_code 5 = .ok (.ldc2_w 57, 3) := by decide +kernel
theorem d1_8 : decode prog_27_method_2_code 8 = .ok (.lload_n 2, 1) := by decide +kernel
theorem d1_9 : decode prog_27_method_2_code 9 = .ok (.lmul, 1) := by decide +kernel
theorem d1_10 : decode prog_27_method_2_code 10 = .ok (.ladd, 1) := by decide +kernel
theorem d1_11 : decode prog_27_method_2_code 11 = .ok (.lreturn, 1) := by decide +kernel
theorem own_pn0 : plainName "com/example/vaultwright/vaultwright/http/HttpLimits" = true := by first | (simp [plainName, overriddenIn]; done) | decide +kernel
def f1_0 (q0 : Int64) (q1 : Int64) : Int64 := (((3 : Int64) * q0) + ((128 : Int64) * q1))
set_option maxRecDepth 65536 in
set_option maxHeartbeats 40000000 in
theorem g1_0 {p : Program} {l : Launch} {e : Env} {s : State} {m : MethodId} {below : List Frame} {meth : Method} {c : Code} {s₁ : State} {ws : List Jvm.Cond} {Z : State} {aw : Array Value} (hw : ∀ d ∈ tables_1, d.before aw Z = true) {h0 : Heap} (q0 : Int64) (q1 : Int64)
    (Bd : BodyLoose p l (⟨"com/example/vaultwright/vaultwright/http/HttpLimits", "headCost", "(JJ)J"⟩ : MethodName) (head1 (Jvm.Cond.code (⟨"com/example/vaultwright/vaultwright/http/HttpLimits", "headCost", "(JJ)J"⟩ : MethodName) prog_27_method_2_code 4 (some .long) :: ws) ({ frames := 0, cells := 0, slots := 0, locals := 0 } : Room)) prog_27_method_2_code 4 (some .long) e s m #[(.long q0), (.long q1)] below meth c s₁) (hml : c.maxLocals = 4) (hZ : Z.Warmed39 s.vm) (T0 : State) (X0 : Stand p l e ({ frames := 0, cells := 0, slots := 0, locals := 0 } : Room) s m #[(.long q0), (.long q1)] below meth c T0 [] 0 0) (e0 : T0.heap = h0) :
    own_Go p e below s ({ frames := 0, cells := 0, slots := 0, locals := 0 } : Room).cells ({ frames := 0, cells := 0, slots := 0, locals := 0 } : Room).slots (some (.long (f1_0 q0 q1))) (own_K0 h0) (T0.setTop (mkF m 0 #[.val (.long q0), .second, .val (.long q1), .second] [])) := by
  have hx := Bd.exec
  have hby := Bd.bytes
  have hown : s.vm.findClass "com/example/vaultwright/vaultwright/http/HttpLimits" = some m.cls := findClass_of_methodNamed Bd.named
  unfold f1_0
  refine own_pre (F' := T0.setTop (mkF m 3 #[.val (.long q0), .second, .val (.long q1), .second] [(.long (3 : Int64))])) (fun _ k => X0.ldc2Long hx hown (mvT hZ (hw _ (List.mem_of_getElem? (i := 4) rfl))) (g := (mkF m 0 #[.val (.long q0), .second, .val (.long q1), .second] [])) rfl (hb hby d1_0) _ k) ?_
  refine own_pre (F' := T0.setTop (mkF m 4 #[.val (.long q0), .second, .val (.long q1), .second] [(.long q0), (.long (3 : Int64))])) (fun _ k => XS.lloadN X0.here hx rfl (hb hby d1_3) rfl k) ?_
  refine own_pre (F' := T0.setTop (mkF m 5 #[.val (.long q0), .second, .val (.long q1), .second] [(.long ((3 : Int64) * q0))])) (fun _ k => XS.lmul X0.here hx rfl (hb hby d1_4) rfl k) ?_
  refine own_pre (F' := T0.setTop (mkF m 8 #[.val (.long q0), .second, .val (.long q1), .second] [(.long (128 : Int64)), (.long ((3 : Int64) * q0))])) (fun _ k => X0.ldc2Long hx hown (mvT hZ (hw _ (List.mem_of_getElem? (i := 5) rfl))) (g := (mkF m 5 #[.val (.long q0), .second, .val (.long q1), .second] [(.long ((3 : Int64) * q0))])) rfl (hb hby d1_5) _ k) ?_
  refine own_pre (F' := T0.setTop (mkF m 9 #[.val (.long q0), .second, .val (.long q1), .second] [(.long q1), (.long (128 : Int64)), (.long ((3 : Int64) * q0))])) (fun _ k => XS.lloadN X0.here hx rfl (hb hby d1_8) rfl k) ?_
  refine own_pre (F' := T0.setTop (mkF m 10 #[.val (.long q0), .second, .val (.long q1), .second] [(.long ((128 : Int64) * q1)), (.long ((3 : Int64) * q0))])) (fun _ k => XS.lmul X0.here hx rfl (hb hby d1_9) rfl k) ?_
  refine own_pre (F' := T0.setTop (mkF m 11 #[.val (.long q0), .second, .val (.long q1), .second] [(.long (((3 : Int64) * q0) + ((128 : Int64) * q1)))])) (fun _ k => XS.ladd X0.here hx rfl (hb hby d1_10) rfl k) ?_
  exact own_ret X0 hx Bd.notSynchronized Bd.returns rfl (Or.inr (Or.inl ⟨rfl, rfl, _, rfl⟩)) (hb hby d1_11) ⟨rfl, e0⟩ (by decide) (by decide)
theorem ef_1 (m : MethodId) (q0 : Int64) (q1 : Int64) : entryFrame m #[(.long q0), (.long q1)] 4 = mkF m 0 #[.val (.long q0), .second, .val (.long q1), .second] [] := by first | (simp [entryFrame, mkF, argsToLocals, Value.category]; done) | rfl
set_option maxRecDepth 65536 in
set_option maxHeartbeats 40000000 in
theorem rm1 (l : Launch) (Z : State) (aw : Array Value) (hw : ∀ d ∈ tables_1, d.before aw Z = true) (ws : List Jvm.Cond) (q0 : Int64) (q1 : Int64) (h0 : Heap) :
    MetFree l (⟨"com/example/vaultwright/vaultwright/http/HttpLimits", "headCost", "(JJ)J"⟩ : MethodName) (head1 (Jvm.Cond.code (⟨"com/example/vaultwright/vaultwright/http/HttpLimits", "headCost", "(JJ)J"⟩ : MethodName) prog_27_method_2_code 4 (some .long) :: ws) ({ frames := 0, cells := 0, slots := 0, locals := 0 } : Room)) (fun a U => a = #[(.long q0), (.long q1)] ∧ Z.Warmed39 U.vm ∧ U.heap = h0) (fun _ _ _ _ _ => True) (fun _ U o U' => ∃ v L, o = .returned v ∧ own_Q (some (.long (f1_0 q0 q1))) (own_K0 h0) v U'.heap L ∧ FrameEnd U o U' L ({ frames := 0, cells := 0, slots := 0, locals := 0 } : Room).cells ({ frames := 0, cells := 0, slots := 0, locals := 0 } : Room).slots) := by
  refine MetFree.of_bodySF (plainFor_of_name own_pn0) hisR ?_
  intro p e s m args below meth c s₁ Bd hml0 hP hK
  obtain ⟨rfl, hZ, hh⟩ := hP
  have hml : c.maxLocals = 4 := hml0
  have e0 : s₁.heap = h0 := by rw [← hh, Bd.state]; rfl
  exact own_pre (fun t k => castTop (ef_1 m q0 q1) k) (g1_0 hw q0 q1 Bd hml hZ s₁ (Stand.of_body Bd) e0)
theorem own_pd0 : parseMethodDescriptor "(JJ)J" = some ⟨[.long, .long], some .long⟩ := by decide +kernel
/-! body 0 -/
theorem own_pn1 : plainName "com/example/vaultwright/vaultwright/http/HttpLimitsHeadCostPinLaw" = true := by first | (simp [plainName, overriddenIn]; done) | decide +kernel
def f0_136 (q0 : Int64) (q1 : Int64) (q2 : Int64) (q3 : Int64) : Int32 := (0 : Int32)
set_option maxRecDepth 65536 in
set_option maxHeartbeats 40000000 in
theorem g0_136 {p : Program} {l : Launch} {e : Env} {s : State} {m : MethodId} {below : List Frame} {meth : Method} {c : Code} {s₁ : State} {ws : List Jvm.Cond} {Z : State} {aw : Array Value} (hw : ∀ d ∈ tables_1, d.before aw Z = true) {h0 : Heap} (q0 : Int64) (q1 : Int64) (q2 : Int64) (q3 : Int64) (x8 : Int64) (x10 : Int64) (x12 : Int64) (x14 : Int32) (x15 : Int32) (x16 : Int32) (x17 : Int64) (x19 : Int32)
    (Bd : BodyLoose p l x (head1 (Jvm.Cond.code x code maxLocals ret :: ws) room_1) code maxLocals ret e s m #[(.long q0), (.long q1), (.long q2), (.long q3)] below meth c s₁) (hml : c.maxLocals = 20) (hZ : Z.Warmed39 s.vm) (T0 : State) (X0 : Stand p l e room_1 s m #[(.long q0), (.long q1), (.long q2), (.long q3)] below meth c T0 [] 0 0) (e0 : T0.heap = h0) :
    own_Go p e below s room_1.cells room_1.slots (some (.int (f0_136 q0 q1 q2 q3))) (own_K0 h0) (T0.setTop (mkF m 136 #[.val (.long q0), .second, .val (.long q1), .second, .val (.long q2), .second, .val (.long q3), .second, .val (.long x8), .second, .val (.long x10), .second, .val (.long x12), .second, .val (.int x14), .val (.int x15), .val (.int x16), .val (.long x17), .second, .val (.int x19)] [])) := by
  have hx := Bd.exec
  have hby := Bd.bytes
  have hown : s.vm.findClass "com/example/vaultwright/vaultwright/http/HttpLimitsHeadCostPinLaw" = some m.cls := findClass_of_methodNamed Bd.named
  unfold f0_136
  refine own_pre (F' := T0.setTop (mkF m 137 #[.val (.long q0), .second, .val (.long q1), .second, .val (.long q2), .second, .val (.long q3), .second, .val (.long x8), .second, .val (.long x10), .second, .val (.long x12), .second, .val (.int x14), .val (.int x15), .val (.int x16), .val (.long x17), .second, .val (.int x19)] [(.int (0 : Int32))])) (fun _ k => XS.iconst X0.here hx rfl (hb hby at_136) k) ?_
  exact own_ret X0 hx Bd.notSynchronized Bd.returns rfl (Or.inl ⟨rfl, by simp, _, rfl⟩) (hb hby at_137) ⟨rfl, e0⟩ (by decide) (by decide)
def f0_110 (q0 : Int64) (q1 : Int64) (q2 : Int64) (q3 : Int64) (x14 : Int32) (x15 : Int32) (x16 : Int32) (y0 : Int32) : Int32 := (if x14 = (0 : Int32) then (f0_136 q0 q1 q2 q3) else (if x15 = (0 : Int32) then (f0_136 q0 q1 q2 q3) else (if x16 = (0 : Int32) then (f0_136 q0 q1 q2 q3) else (if y0 = (0 : Int32) then (f0_136 q0 q1 q2 q3) else (1 : Int32)))))
set_option maxRecDepth 65536 in
set_option maxHeartbeats 40000000 in
theorem g0_110 {p : Program} {l : Launch} {e : Env} {s : State} {m : MethodId} {below : List Frame} {meth : Method} {c : Code} {s₁ : State} {ws : List Jvm.Cond} {Z : State} {aw : Array Value} (hw : ∀ d ∈ tables_1, d.before aw Z = true) {h0 : Heap} (q0 : Int64) (q1 : Int64) (q2 : Int64) (q3 : Int64) (x8 : Int64) (x10 : Int64) (x12 : Int64) (x14 : Int32) (x15 : Int32) (x16 : Int32) (x17 : Int64) (y0 : Int32)
    (Bd : BodyLoose p l x (head1 (Jvm.Cond.code x code maxLocals ret :: ws) room_1) code maxLocals ret e s m #[(.long q0), (.long q1), (.long q2), (.long q3)] below meth c s₁) (hml : c.maxLocals = 20) (hZ : Z.Warmed39 s.vm) (T0 : State) (X0 : Stand p l e room_1 s m #[(.long q0), (.long q1), (.long q2), (.long q3)] below meth c T0 [] 0 0) (e0 : T0.heap = h0) :
    own_Go p e below s room_1.cells room_1.slots (some (.int (f0_110 q0 q1 q2 q3 x14 x15 x16 y0))) (own_K0 h0) (T0.setTop (mkF m 110 #[.val (.long q0), .second, .val (.long q1), .second, .val (.long q2), .second, .val (.long q3), .second, .val (.long x8), .second, .val (.long x10), .second, .val (.long x12), .second, .val (.int x14), .val (.int x15), .val (.int x16), .val (.long x17), .second, .unset] [(.int y0)])) := by
  have hx := Bd.exec
  have hby := Bd.bytes
  have hown : s.vm.findClass "com/example/vaultwright/vaultwright/http/HttpLimitsHeadCostPinLaw" = some m.cls := findClass_of_methodNamed Bd.named
  unfold f0_110
  refine own_pre (F' := T0.setTop (mkF m 112 #[.val (.long q0), .second, .val (.long q1), .second, .val (.long q2), .second, .val (.long q3), .second, .val (.long x8), .second, .val (.long x10), .second, .val (.long x12), .second, .val (.int x14), .val (.int x15), .val (.int x16), .val (.long x17), .second, .val (.int y0)] [])) (fun _ k => XS.istore X0.here hx rfl (hb hby at_110) rfl (l' := #[.val (.long q0), .second, .val (.long q1), .second, .val (.long q2), .second, .val (.long q3), .second, .val (.long x8), .second, .val (.long x10), .second, .val (.long x12), .second, .val (.int x14), .val (.int x15), .val (.int x16), .val (.long x17), .second, .val (.int y0)]) rfl k) ?_
  refine own_pre (F' := T0.setTop (mkF m 114 #[.val (.long q0), .second, .val (.long q1), .second, .val (.long q2), .second, .val (.long q3), .second, .val (.long x8), .second, .val (.long x10), .second, .val (.long x12), .second, .val (.int x14), .val (.int x15), .val (.int x16), .val (.long x17), .second, .val (.int y0)] [(.int x14)])) (fun _ k => XS.iload X0.here hx rfl (hb hby at_112) rfl k) ?_
  refine own_iteI (fun hc114 => ?_) (fun hc114 => ?_)
  · skip
    refine own_pre (F' := T0.setTop (mkF m 136 #[.val (.long q0), .second, .val (.long q1), .second, .val (.long q2), .second, .val (.long q3), .second, .val (.long x8), .second, .val (.long x10), .second, .val (.long x12), .second, .val (.int x14), .val (.int x15), .val (.int x16), .val (.long x17), .second, .val (.int y0)] [])) (fun _ k => XS.ifYes X0.here hx rfl (pc0 := 114) (pc' := 136) rfl (hb hby at_114) rfl ((if0 _ _).trans (teq hc114).1) (by decide) (by decide) k) ?_
    exact g0_136 hw q0 q1 q2 q3 x8 x10 x12 x14 x15 x16 x17 y0 Bd hml hZ T0 X0 e0
  · skip
    refine own_pre (F' := T0.setTop (mkF m 117 #[.val (.long q0), .second, .val (.long q1), .second, .val (.long q2), .second, .val (.long q3), .second, .val (.long x8), .second, .val (.long x10), .second, .val (.long x12), .second, .val (.int x14), .val (.int x15), .val (.int x16), .val (.long x17), .second, .val (.int y0)] [])) (fun _ k => XS.ifNo X0.here hx rfl (hb hby at_114) rfl ((if0 _ _).trans (feq hc114).1) k) ?_
    refine own_pre (F' := T0.setTop (mkF m 119 #[.val (.long q0), .second, .val (.long q1), .second, .val (.long q2), .second, .val (.long q3), .second, .val (.long x8), .second, .val (.long x10), .second, .val (.long x12), .second, .val (.int x14), .val (.int x15), .val (.int x16), .val (.long x17), .second, .val (.int y0)] [(.int x15)])) (fun _ k => XS.iload X0.here hx rfl (hb hby at_117) rfl k) ?_
    refine own_iteI (fun hc119 => ?_) (fun hc119 => ?_)
    · skip
      refine own_pre (F' := T0.setTop (mkF m 136 #[.val (.long q0), .second, .val (.long q1), .second, .val (.long q2), .second, .val (.long q3), .second, .val (.long x8), .second, .val (.long x10), .second, .val (.long x12), .second, .val (.int x14), .val (.int x15), .val (.int x16), .val (.long x17), .second, .val (.int y0)] [])) (fun _ k => XS.ifYes X0.here hx rfl (pc0 := 119) (pc' := 136) rfl (hb hby at_119) rfl ((if0 _ _).trans (teq hc119).1) (by decide) (by decide) k) ?_
      exact g0_136 hw q0 q1 q2 q3 x8 x10 x12 x14 x15 x16 x17 y0 Bd hml hZ T0 X0 e0
    · skip
      refine own_pre (F' := T0.setTop (mkF m 122 #[.val (.long q0), .second, .val (.long q1), .second, .val (.long q2), .second, .val (.long q3), .second, .val (.long x8), .second, .val (.long x10), .second, .val (.long x12), .second, .val (.int x14), .val (.int x15), .val (.int x16), .val (.long x17), .second, .val (.int y0)] [])) (fun _ k => XS.ifNo X0.here hx rfl (hb hby at_119) rfl ((if0 _ _).trans (feq hc119).1) k) ?_
      refine own_pre (F' := T0.setTop (mkF m 124 #[.val (.long q0), .second, .val (.long q1), .second, .val (.long q2), .second, .val (.long q3), .second, .val (.long x8), .second, .val (.long x10), .second, .val (.long x12), .second, .val (.int x14), .val (.int x15), .val (.int x16), .val (.long x17), .second, .val (.int y0)] [(.int x16)])) (fun _ k => XS.iload X0.here hx rfl (hb hby at_122) rfl k) ?_
      refine own_iteI (fun hc124 => ?_) (fun hc124 => ?_)
      · skip
        refine own_pre (F' := T0.setTop (mkF m 136 #[.val (.long q0), .second, .val (.long q1), .second, .val (.long q2), .second, .val (.long q3), .second, .val (.long x8), .second, .val (.long x10), .second, .val (.long x12), .second, .val (.int x14), .val (.int x15), .val (.int x16), .val (.long x17), .second, .val (.int y0)] [])) (fun _ k => XS.ifYes X0.here hx rfl (pc0 := 124) (pc' := 136) rfl (hb hby at_124) rfl ((if0 _ _).trans (teq hc124).1) (by decide) (by decide) k) ?_
        exact g0_136 hw q0 q1 q2 q3 x8 x10 x12 x14 x15 x16 x17 y0 Bd hml hZ T0 X0 e0
      · skip
        refine own_pre (F' := T0.setTop (mkF m 127 #[.val (.long q0), .second, .val (.long q1), .second, .val (.long q2), .second, .val (.long q3), .second, .val (.long x8), .second, .val (.long x10), .second, .val (.long x12), .second, .val (.int x14), .val (.int x15), .val (.int x16), .val (.long x17), .second, .val (.int y0)] [])) (fun _ k => XS.ifNo X0.here hx rfl (hb hby at_124) rfl ((if0 _ _).trans (feq hc124).1) k) ?_
        refine own_pre (F' := T0.setTop (mkF m 129 #[.val (.long q0), .second, .val (.long q1), .second, .val (.long q2), .second, .val (.long q3), .second, .val (.long x8), .second, .val (.long x10), .second, .val (.long x12), .second, .val (.int x14), .val (.int x15), .val (.int x16), .val (.long x17), .second, .val (.int y0)] [(.int y0)])) (fun _ k => XS.iload X0.here hx rfl (hb hby at_127) rfl k) ?_
        refine own_iteI (fun hc129 => ?_) (fun hc129 => ?_)
        · skip
          refine own_pre (F' := T0.setTop (mkF m 136 #[.val (.long q0), .second, .val (.long q1), .second, .val (.long q2), .second, .val (.long q3), .second, .val (.long x8), .second, .val (.long x10), .second, .val (.long x12), .second, .val (.int x14), .val (.int x15), .val (.int x16), .val (.long x17), .second, .val (.int y0)] [])) (fun _ k => XS.ifYes X0.here hx rfl (pc0 := 129) (pc' := 136) rfl (hb hby at_129) rfl ((if0 _ _).trans (teq hc129).1) (by decide) (by decide) k) ?_
          exact g0_136 hw q0 q1 q2 q3 x8 x10 x12 x14 x15 x16 x17 y0 Bd hml hZ T0 X0 e0
        · skip
          refine own_pre (F' := T0.setTop (mkF m 132 #[.val (.long q0), .second, .val (.long q1), .second, .val (.long q2), .second, .val (.long q3), .second, .val (.long x8), .second, .val (.long x10), .second, .val (.long x12), .second, .val (.int x14), .val (.int x15), .val (.int x16), .val (.long x17), .second, .val (.int y0)] [])) (fun _ k => XS.ifNo X0.here hx rfl (hb hby at_129) rfl ((if0 _ _).trans (feq hc129).1) k) ?_
          refine own_pre (F' := T0.setTop (mkF m 133 #[.val (.long q0), .second, .val (.long q1), .second, .val (.long q2), .second, .val (.long q3), .second, .val (.long x8), .second, .val (.long x10), .second, .val (.long x12), .second, .val (.int x14), .val (.int x15), .val (.int x16), .val (.long x17), .second, .val (.int y0)] [(.int (1 : Int32))])) (fun _ k => XS.iconst X0.here hx rfl (hb hby at_132) k) ?_
          refine own_pre (F' := T0.setTop (mkF m 137 #[.val (.long q0), .second, .val (.long q1), .second, .val (.long q2), .second, .val (.long q3), .second, .val (.long x8), .second, .val (.long x10), .second, .val (.long x12), .second, .val (.int x14), .val (.int x15), .val (.int x16), .val (.long x17), .second, .val (.int y0)] [(.int (1 : Int32))])) (fun _ k => XS.goto X0.here hx rfl (pc0 := 133) (pc' := 137) rfl (hb hby at_133) (by decide) (by decide) k) ?_
          exact own_ret X0 hx Bd.notSynchronized Bd.returns rfl (Or.inl ⟨rfl, by simp, _, rfl⟩) (hb hby at_137) ⟨rfl, e0⟩ (by decide) (by decide)
def f0_83 (q0 : Int64) (q1 : Int64) (q2 : Int64) (q3 : Int64) (x8 : Int64) (x14 : Int32) (x15 : Int32) (y0 : Int32) : Int32 := (if x8 = (((q0 + q0) + q0) + (q1 <<< ((7 : Int32) &&& 0x3f).toInt64)) then (f0_110 q0 q1 q2 q3 x14 x15 y0 (1 : Int32)) else (f0_110 q0 q1 q2 q3 x14 x15 y0 (0 : Int32)))
set_option maxRecDepth 65536 in
set_option maxHeartbeats 40000000 in
theorem g0_83 {p : Program} {l : Launch} {e : Env} {s : State} {m : MethodId} {below : List Frame} {meth : Method} {c : Code} {s₁ : State} {ws : List Jvm.Cond} {Z : State} {aw : Array Value} (hw : ∀ d ∈ tables_1, d.before aw Z = true) {h0 : Heap} (q0 : Int64) (q1 : Int64) (q2 : Int64) (q3 : Int64) (x8 : Int64) (x10 : Int64) (x12 : Int64) (x14 : Int32) (x15 : Int32) (y0 : Int32)
    (Bd : BodyLoose p l x (head1 (Jvm.Cond.code x code maxLocals ret :: ws) room_1) code maxLocals ret e s m #[(.long q0), (.long q1), (.long q2), (.long q3)] below meth c s₁) (hml : c.maxLocals = 20) (hZ : Z.Warmed39 s.vm) (T0 : State) (X0 : Stand p l e room_1 s m #[(.long q0), (.long q1), (.long q2), (.long q3)] below meth c T0 [] 0 0) (e0 : T0.heap = h0) :
    own_Go p e below s room_1.cells room_1.slots (some (.int (f0_83 q0 q1 q2 q3 x8 x14 x15 y0))) (own_K0 h0) (T0.setTop (mkF m 83 #[.val (.long q0), .second, .val (.long q1), .second, .val (.long q2), .second, .val (.long q3), .second, .val (.long x8), .second, .val (.long x10), .second, .val (.long x12), .second, .val (.int x14), .val (.int x15), .unset, .unset, .unset, .unset] [(.int y0)])) := by
  have hx := Bd.exec
  have hby := Bd.bytes
  have hown : s.vm.findClass "com/example/vaultwright/vaultwright/http/HttpLimitsHeadCostPinLaw" = some m.cls := findClass_of_methodNamed Bd.named
  unfold f0_83
  refine own_pre (F' := T0.setTop (mkF m 85 #[.val (.long q0), .second, .val (.long q1), .second, .val (.long q2), .second, .val (.long q3), .second, .val (.long x8), .second, .val (.long x10), .second, .val (.long x12), .second, .val (.int x14), .val (.int x15), .val (.int y0), .unset, .unset, .unset] [])) (fun _ k => XS.istore X0.here hx rfl (hb hby at_83) rfl (l' := #[.val (.long q0), .second, .val (.long q1), .second, .val (.long q2), .second, .val (.long q3), .second, .val (.long x8), .second, .val (.long x10), .second, .val (.long x12), .second, .val (.int x14), .val (.int x15), .val (.int y0), .unset, .unset, .unset]) rfl k) ?_
  refine own_pre (F' := T0.setTop (mkF m 86 #[.val (.long q0), .second, .val (.long q1), .second, .val (.long q2), .second, .val (.long q3), .second, .val (.long x8), .second, .val (.long x10), .second, .val (.long x12), .second, .val (.int x14), .val (.int x15), .val (.int y0), .unset, .unset, .unset] [(.long q0)])) (fun _ k => XS.lloadN X0.here hx rfl (hb hby at_85) rfl k) ?_
  refine own_pre (F' := T0.setTop (mkF m 87 #[.val (.long q0), .second, .val (.long q1), .second, .val (.long q2), .second, .val (.long q3), .second, .val (.long x8), .second, .val (.long x10), .second, .val (.long x12), .second, .val (.int x14), .val (.int x15), .val (.int y0), .unset, .unset, .unset] [(.long q0), (.long q0)])) (fun _ k => XS.lloadN X0.here hx rfl (hb hby at_86) rfl k) ?_
  refine own_pre (F' := T0.setTop (mkF m 88 #[.val (.long q0), .second, .val (.long q1), .second, .val (.long q2), .second, .val (.long q3), .second, .val (.long x8), .second, .val (.long x10), .second, .val (.long x12), .second, .val (.int x14), .val (.int x15), .val (.int y0), .unset, .unset, .unset] [(.long (q0 + q0))])) (fun _ k => XS.ladd X0.here hx rfl (hb hby at_87) rfl k) ?_
  refine own_pre (F' := T0.setTop (mkF m 89 #[.val (.long q0), .second, .val (.long q1), .second, .val (.long q2), .second, .val (.long q3), .second, .val (.long x8), .second, .val (.long x10), .second, .val (.long x12), .second, .val (.int x14), .val (.int x15), .val (.int y0), .unset, .unset, .unset] [(.long q0), (.long (q0 + q0))])) (fun _ k => XS.lloadN X0.here hx rfl (hb hby at_88) rfl k) ?_
  refine own_pre (F' := T0.setTop (mkF m 90 #[.val (.long q0), .second, .val (.long q1), .second, .val (.long q2), .second, .val (.long q3), .second, .val (.long x8), .second, .val (.long x10), .second, .val (.long x12), .second, .val (.int x14), .val (.int x15), .val (.int y0), .unset, .unset, .unset] [(.long ((q0 + q0) + q0))])) (fun _ k => XS.ladd X0.here hx rfl (hb hby at_89) rfl k) ?_
  refine own_pre (F' := T0.setTop (mkF m 91 #[.val (.long q0), .second, .val (.long q1), .second, .val (.long q2), .second, .val (.long q3), .second, .val (.long x8), .second, .val (.long x10), .second, .val (.long x12), .second, .val (.int x14), .val (.int x15), .val (.int y0), .unset, .unset, .unset] [(.long q1), (.long ((q0 + q0) + q0))])) (fun _ k => XS.lloadN X0.here hx rfl (hb hby at_90) rfl k) ?_
  refine own_pre (F' := T0.setTop (mkF m 93 #[.val (.long q0), .second, .val (.long q1), .second, .val (.long q2), .second, .val (.long q3), .second, .val (.long x8), .second, .val (.long x10), .second, .val (.long x12), .second, .val (.int x14), .val (.int x15), .val (.int y0), .unset, .unset, .unset] [(.int (7 : Int32)), (.long q1), (.long ((q0 + q0) + q0))])) (fun _ k => XS.bipush X0.here hx rfl (hb hby at_91) k) ?_
  refine own_pre (F' := T0.setTop (mkF m 94 #[.val (.long q0), .second, .val (.long q1), .second, .val (.long q2), .second, .val (.long q3), .second, .val (.long x8), .second, .val (.long x10), .second, .val (.long x12), .second, .val (.int x14), .val (.int x15), .val (.int y0), .unset, .unset, .unset] [(.long (q1 <<< ((7 : Int32) &&& 0x3f).toInt64)), (.long ((q0 + q0) + q0))])) (fun _ k => XS.lshl X0.here hx rfl (hb hby at_93) rfl k) ?_
  refine own_pre (F' := T0.setTop (mkF m 95 #[.val (.long q0), .second, .val (.long q1), .second, .val (.long q2), .second, .val (.long q3), .second, .val (.long x8), .second, .val (.long x10), .second, .val (.long x12), .second, .val (.int x14), .val (.int x15), .val (.int y0), .unset, .unset, .unset] [(.long (((q0 + q0) + q0) + (q1 <<< ((7 : Int32) &&& 0x3f).toInt64)))])) (fun _ k => XS.ladd X0.here hx rfl (hb hby at_94) rfl k) ?_
  refine own_pre (F' := T0.setTop (mkF m 97 #[.val (.long q0), .second, .val (.long q1), .second, .val (.long q2), .second, .val (.long q3), .second, .val (.long x8), .second, .val (.long x10), .second, .val (.long x12), .second, .val (.int x14), .val (.int x15), .val (.int y0), .val (.long (((q0 + q0) + q0) + (q1 <<< ((7 : Int32) &&& 0x3f).toInt64))), .second, .unset] [])) (fun _ k => XS.lstore X0.here hx rfl (hb hby at_95) rfl (l' := #[.val (.long q0), .second, .val (.long q1), .second, .val (.long q2), .second, .val (.long q3), .second, .val (.long x8), .second, .val (.long x10), .second, .val (.long x12), .second, .val (.int x14), .val (.int x15), .val (.int y0), .val (.long (((q0 + q0) + q0) + (q1 <<< ((7 : Int32) &&& 0x3f).toInt64))), .second, .unset]) rfl k) ?_
  refine own_pre (F' := T0.setTop (mkF m 99 #[.val (.long q0), .second, .val (.long q1), .second, .val (.long q2), .second, .val (.long q3), .second, .val (.long x8), .second, .val (.long x10), .second, .val (.long x12), .second, .val (.int x14), .val (.int x15), .val (.int y0), .val (.long (((q0 + q0) + q0) + (q1 <<< ((7 : Int32) &&& 0x3f).toInt64))), .second, .unset] [(.long x8)])) (fun _ k => XS.lload X0.here hx rfl (hb hby at_97) rfl k) ?_
  refine own_pre (F' := T0.setTop (mkF m 101 #[.val (.long q0), .second, .val (.long q1), .second, .val (.long q2), .second, .val (.long q3), .second, .val (.long x8), .second, .val (.long x10), .second, .val (.long x12), .second, .val (.int x14), .val (.int x15), .val (.int y0), .val (.long (((q0 + q0) + q0) + (q1 <<< ((7 : Int32) &&& 0x3f).toInt64))), .second, .unset] [(.long (((q0 + q0) + q0) + (q1 <<< ((7 : Int32) &&& 0x3f).toInt64))), (.long x8)])) (fun _ k => XS.lload X0.here hx rfl (hb hby at_99) rfl k) ?_
  refine own_pre (F' := T0.setTop (mkF m 102 #[.val (.long q0), .second, .val (.long q1), .second, .val (.long q2), .second, .val (.long q3), .second, .val (.long x8), .second, .val (.long x10), .second, .val (.long x12), .second, .val (.int x14), .val (.int x15), .val (.int y0), .val (.long (((q0 + q0) + q0) + (q1 <<< ((7 : Int32) &&& 0x3f).toInt64))), .second, .unset] [(.int (lcmpW x8 (((q0 + q0) + q0) + (q1 <<< ((7 : Int32) &&& 0x3f).toInt64))))])) (fun _ k => XS.lcmp X0.here hx rfl (hb hby at_101) rfl k) ?_
  refine own_iteI (fun hc102 => ?_) (fun hc102 => ?_)
  · skip
    refine own_pre (F' := T0.setTop (mkF m 105 #[.val (.long q0), .second, .val (.long q1), .second, .val (.long q2), .second, .val (.long q3), .second, .val (.long x8), .second, .val (.long x10), .second, .val (.long x12), .second, .val (.int x14), .val (.int x15), .val (.int y0), .val (.long (((q0 + q0) + q0) + (q1 <<< ((7 : Int32) &&& 0x3f).toInt64))), .second, .unset] [])) (fun _ k => XS.ifNo X0.here hx rfl (hb hby at_102) rfl ((if0 _ _).trans (teq ((lw_eq _ _).mpr hc102)).2) k) ?_
    refine own_pre (F' := T0.setTop (mkF m 106 #[.val (.long q0), .second, .val (.long q1), .second, .val (.long q2), .second, .val (.long q3), .second, .val (.long x8), .second, .val (.long x10), .second, .val (.long x12), .second, .val (.int x14), .val (.int x15), .val (.int y0), .val (.long (((q0 + q0) + q0) + (q1 <<< ((7 : Int32) &&& 0x3f).toInt64))), .second, .unset] [(.int (1 : Int32))])) (fun _ k => XS.iconst X0.here hx rfl (hb hby at_105) k) ?_
    refine own_pre (F' := T0.setTop (mkF m 110 #[.val (.long q0), .second, .val (.long q1), .second, .val (.long q2), .second, .val (.long q3), .second, .val (.long x8), .second, .val (.long x10), .second, .val (.long x12), .second, .val (.int x14), .val (.int x15), .val (.int y0), .val (.long (((q0 + q0) + q0) + (q1 <<< ((7 : Int32) &&& 0x3f).toInt64))), .second, .unset] [(.int (1 : Int32))])) (fun _ k => XS.goto X0.here hx rfl (pc0 := 106) (pc' := 110) rfl (hb hby at_106) (by decide) (by decide) k) ?_
    exact g0_110 hw q0 q1 q2 q3 x8 x10 x12 x14 x15 y0 (((q0 + q0) + q0) + (q1 <<< ((7 : Int32) &&& 0x3f).toInt64)) (1 : Int32) Bd hml hZ T0 X0 e0
  · skip
    refine own_pre (F' := T0.setTop (mkF m 109 #[.val (.long q0), .second, .val (.long q1), .second, .val (.long q2), .second, .val (.long q3), .second, .val (.long x8), .second, .val (.long x10), .second, .val (.long x12), .second, .val (.int x14), .val (.int x15), .val (.int y0), .val (.long (((q0 + q0) + q0) + (q1 <<< ((7 : Int32) &&& 0x3f).toInt64))), .second, .unset] [])) (fun _ k => XS.ifYes X0.here hx rfl (pc0 := 102) (pc' := 109) rfl (hb hby at_102) rfl ((if0 _ _).trans (feq (fun q => hc102 ((lw_eq _ _).mp q))).2) (by decide) (by decide) k) ?_
    refine own_pre (F' := T0.setTop (mkF m 110 #[.val (.long q0), .second, .val (.long q1), .second, .val (.long q2), .second, .val (.long q3), .second, .val (.long x8), .second, .val (.long x10), .second, .val (.long x12), .second, .val (.int x14), .val (.int x15), .val (.int y0), .val (.long (((q0 + q0) + q0) + (q1 <<< ((7 : Int32) &&& 0x3f).toInt64))), .second, .unset] [(.int (0 : Int32))])) (fun _ k => XS.iconst X0.here hx rfl (hb hby at_109) k) ?_
    exact g0_110 hw q0 q1 q2 q3 x8 x10 x12 x14 x15 y0 (((q0 + q0) + q0) + (q1 <<< ((7 : Int32) &&& 0x3f).toInt64)) (0 : Int32) Bd hml hZ T0 X0 e0
def f0_64 (q0 : Int64) (q1 : Int64) (q2 : Int64) (q3 : Int64) (x8 : Int64) (x14 : Int32) (y0 : Int32) : Int32 := (if (f1_0 (0 : Int64) (1 : Int64)) = (128 : Int64) then (f0_83 q0 q1 q2 q3 x8 x14 y0 (1 : Int32)) else (f0_83 q0 q1 q2 q3 x8 x14 y0 (0 : Int32)))
set_option maxRecDepth 65536 in
set_option maxHeartbeats 40000000 in
theorem g0_64 {p : Program} {l : Launch} {e : Env} {s : State} {m : MethodId} {below : List Frame} {meth : Method} {c : Code} {s₁ : State} {ws : List Jvm.Cond} {Z : State} {aw : Array Value} (hw : ∀ d ∈ tables_1, d.before aw Z = true) {h0 : Heap} (q0 : Int64) (q1 : Int64) (q2 : Int64) (q3 : Int64) (x8 : Int64) (x10 : Int64) (x12 : Int64) (x14 : Int32) (y0 : Int32)
    (Bd : BodyLoose p l x (head1 (Jvm.Cond.code x code maxLocals ret :: ws) room_1) code maxLocals ret e s m #[(.long q0), (.long q1), (.long q2), (.long q3)] below meth c s₁) (hml : c.maxLocals = 20) (hZ : Z.Warmed39 s.vm) (T0 : State) (X0 : Stand p l e room_1 s m #[(.long q0), (.long q1), (.long q2), (.long q3)] below meth c T0 [] 0 0) (e0 : T0.heap = h0) :
    own_Go p e below s room_1.cells room_1.slots (some (.int (f0_64 q0 q1 q2 q3 x8 x14 y0))) (own_K0 h0) (T0.setTop (mkF m 64 #[.val (.long q0), .second, .val (.long q1), .second, .val (.long q2), .second, .val (.long q3), .second, .val (.long x8), .second, .val (.long x10), .second, .val (.long x12), .second, .val (.int x14), .unset, .unset, .unset, .unset, .unset] [(.int y0)])) := by
  have hx := Bd.exec
  have hby := Bd.bytes
  have hown : s.vm.findClass "com/example/vaultwright/vaultwright/http/HttpLimitsHeadCostPinLaw" = some m.cls := findClass_of_methodNamed Bd.named
  unfold f0_64
  refine own_pre (F' := T0.setTop (mkF m 66 #[.val (.long q0), .second, .val (.long q1), .second, .val (.long q2), .second, .val (.long q3), .second, .val (.long x8), .second, .val (.long x10), .second, .val (.long x12), .second, .val (.int x14), .val (.int y0), .unset, .unset, .unset, .unset] [])) (fun _ k => XS.istore X0.here hx rfl (hb hby at_64) rfl (l' := #[.val (.long q0), .second, .val (.long q1), .second, .val (.long q2), .second, .val (.long q3), .second, .val (.long x8), .second, .val (.long x10), .second, .val (.long x12), .second, .val (.int x14), .val (.int y0), .unset, .unset, .unset, .unset]) rfl k) ?_
  refine own_pre (F' := T0.setTop (mkF m 67 #[.val (.long q0), .second, .val (.long q1), .second, .val (.long q2), .second, .val (.long q3), .second, .val (.long x8), .second, .val (.long x10), .second, .val (.long x12), .second, .val (.int x14), .val (.int y0), .unset, .unset, .unset, .unset] [(.long (0 : Int64))])) (fun _ k => XS.lconst X0.here hx rfl (hb hby at_66) k) ?_
  refine own_pre (F' := T0.setTop (mkF m 68 #[.val (.long q0), .second, .val (.long q1), .second, .val (.long q2), .second, .val (.long q3), .second, .val (.long x8), .second, .val (.long x10), .second, .val (.long x12), .second, .val (.int x14), .val (.int y0), .unset, .unset, .unset, .unset] [(.long (1 : Int64)), (.long (0 : Int64))])) (fun _ k => XS.lconst X0.here hx rfl (hb hby at_67) k) ?_
  obtain ⟨_, _, ⟨T1, L', k', n'⟩, -, X'', ⟨Lc', hQ', l', y', z'⟩, st'⟩ := Jvm.LawKit.callS X0 hx (y := (⟨"com/example/vaultwright/vaultwright/http/HttpLimits", "headCost", "(JJ)J"⟩ : MethodName)) hown (mvT hZ (hw _ (List.mem_of_getElem? (i := 0) rfl))) (mvT hZ (hw _ (List.mem_of_getElem? (i := 1) rfl))) (mvT hZ (hw _ (List.mem_of_getElem? (i := 2) rfl))) (mvT hZ (hw _ (List.mem_of_getElem? (i := 3) rfl))) (by decide) (backOf (W := 0) (rm1 l Z aw hw [] (0 : Int64) (1 : Int64) h0) hZ (hw _ (List.mem_of_getElem? (i := 3) rfl)) (hw _ (List.mem_of_getElem? (i := 2) rfl)) (by decide) (by decide)) (g := (mkF m 68 #[.val (.long q0), .second, .val (.long q1), .second, .val (.long q2), .second, .val (.long q3), .second, .val (.long x8), .second, .val (.long x10), .second, .val (.long x12), .second, .val (.int x14), .val (.int y0), .unset, .unset, .unset, .unset] [(.long (1 : Int64)), (.long (0 : Int64))])) rfl (by rw [hml]; rfl) (argsL := [(.long (0 : Int64)), (.long (1 : Int64))]) (rest := []) (lenOf own_pd0 rfl) rfl (by show 2 * 0 + _ ≤ _; exact Nat.le_of_eq rfl) (hb hby at_68) (fun _ _ => ⟨rfl, e0, (by decide : 0 + 0 ≤ _), (by decide : 0 + 0 ≤ _)⟩)
  dsimp only [Pt.U, Pt.locs, Pt.cells, Pt.slots] at X'' l' y' z' st' hQ'
  subst l' y' z'
  obtain ⟨rfl, rfl, e1⟩ := hQ'
  have X1 : Stand p l e room_1 s m #[(.long q0), (.long q1), (.long q2), (.long q3)] below meth c T1 [] 0 0 := X''
  refine own_pre (F' := T1.setTop (mkF m 71 #[.val (.long q0), .second, .val (.long q1), .second, .val (.long q2), .second, .val (.long q3), .second, .val (.long x8), .second, .val (.long x10), .second, .val (.long x12), .second, .val (.int x14), .val (.int y0), .unset, .unset, .unset, .unset] [(.long (f1_0 (0 : Int64) (1 : Int64)))])) (fun t k => st' t k) ?_
  refine own_pre (F' := T1.setTop (mkF m 74 #[.val (.long q0), .second, .val (.long q1), .second, .val (.long q2), .second, .val (.long q3), .second, .val (.long x8), .second, .val (.long x10), .second, .val (.long x12), .second, .val (.int x14), .val (.int y0), .unset, .unset, .unset, .unset] [(.long (128 : Int64)), (.long (f1_0 (0 : Int64) (1 : Int64)))])) (fun _ k => X1.ldc2Long hx hown (mvT hZ (hw _ (List.mem_of_getElem? (i := 7) rfl))) (g := (mkF m 71 #[.val (.long q0), .second, .val (.long q1), .second, .val (.long q2), .second, .val (.long q3), .second, .val (.long x8), .second, .val (.long x10), .second, .val (.long x12), .second, .val (.int x14), .val (.int y0), .unset, .unset, .unset, .unset] [(.long (f1_0 (0 : Int64) (1 : Int64)))])) rfl (hb hby at_71) _ k) ?_
  refine own_pre (F' := T1.setTop (mkF m 75 #[.val (.long q0), .second, .val (.long q1), .second, .val (.long q2), .second, .val (.long q3), .second, .val (.long x8), .second, .val (.long x10), .second, .val (.long x12), .second, .val (.int x14), .val (.int y0), .unset, .unset, .unset, .unset] [(.int (lcmpW (f1_0 (0 : Int64) (1 : Int64)) (128 : Int64)))])) (fun _ k => XS.lcmp X1.here hx rfl (hb hby at_74) rfl k) ?_
  refine own_iteI (fun hc75 => ?_) (fun hc75 => ?_)
  · skip
    refine own_pre (F' := T1.setTop (mkF m 78 #[.val (.long q0), .second, .val (.long q1), .second, .val (.long q2), .second, .val (.long q3), .second, .val (.long x8), .second, .val (.long x10), .second, .val (.long x12), .second, .val (.int x14), .val (.int y0), .unset, .unset, .unset, .unset] [])) (fun _ k => XS.ifNo X1.here hx rfl (hb hby at_75) rfl ((if0 _ _).trans (teq ((lw_eq _ _).mpr hc75)).2) k) ?_
    refine own_pre (F' := T1.setTop (mkF m 79 #[.val (.long q0), .second, .val (.long q1), .second, .val (.long q2), .second, .val (.long q3), .second, .val (.long x8), .second, .val (.long x10), .second, .val (.long x12), .second, .val (.int x14), .val (.int y0), .unset, .unset, .unset, .unset] [(.int (1 : Int32))])) (fun _ k => XS.iconst X1.here hx rfl (hb hby at_78) k) ?_
    refine own_pre (F' := T1.setTop (mkF m 83 #[.val (.long q0), .second, .val (.long q1), .second, .val (.long q2), .second, .val (.long q3), .second, .val (.long x8), .second, .val (.long x10), .second, .val (.long x12), .second, .val (.int x14), .val (.int y0), .unset, .unset, .unset, .unset] [(.int (1 : Int32))])) (fun _ k => XS.goto X1.here hx rfl (pc0 := 79) (pc' := 83) rfl (hb hby at_79) (by decide) (by decide) k) ?_
    exact g0_83 hw q0 q1 q2 q3 x8 x10 x12 x14 y0 (1 : Int32) Bd hml hZ T1 X1 e1
  · skip
    refine own_pre (F' := T1.setTop (mkF m 82 #[.val (.long q0), .second, .val (.long q1), .second, .val (.long q2), .second, .val (.long q3), .second, .val (.long x8), .second, .val (.long x10), .second, .val (.long x12), .second, .val (.int x14), .val (.int y0), .unset, .unset, .unset, .unset] [])) (fun _ k => XS.ifYes X1.here hx rfl (pc0 := 75) (pc' := 82) rfl (hb hby at_75) rfl ((if0 _ _).trans (feq (fun q => hc75 ((lw_eq _ _).mp q))).2) (by decide) (by decide) k) ?_
    refine own_pre (F' := T1.setTop (mkF m 83 #[.val (.long q0), .second, .val (.long q1), .second, .val (.long q2), .second, .val (.long q3), .second, .val (.long x8), .second, .val (.long x10), .second, .val (.long x12), .second, .val (.int x14), .val (.int y0), .unset, .unset, .unset, .unset] [(.int (0 : Int32))])) (fun _ k => XS.iconst X1.here hx rfl (hb hby at_82) k) ?_
    exact g0_83 hw q0 q1 q2 q3 x8 x10 x12 x14 y0 (0 : Int32) Bd hml hZ T1 X1 e1
def f0_45 (q0 : Int64) (q1 : Int64) (q2 : Int64) (q3 : Int64) (x8 : Int64) (y0 : Int32) : Int32 := (if (f1_0 (1 : Int64) (0 : Int64)) = (3 : Int64) then (f0_64 q0 q1 q2 q3 x8 y0 (1 : Int32)) else (f0_64 q0 q1 q2 q3 x8 y0 (0 : Int32)))
set_option maxRecDepth 65536 in
set_option maxHeartbeats 40000000 in
theorem g0_45 {p : Program} {l : Launch} {e : Env} {s : State} {m : MethodId} {below : List Frame} {meth : Method} {c : Code} {s₁ : State} {ws : List Jvm.Cond} {Z : State} {aw : Array Value} (hw : ∀ d ∈ tables_1, d.before aw Z = true) {h0 : Heap} (q0 : Int64) (q1 : Int64) (q2 : Int64) (q3 : Int64) (x8 : Int64) (x10 : Int64) (x12 : Int64) (y0 : Int32)
    (Bd : BodyLoose p l x (head1 (Jvm.Cond.code x code maxLocals ret :: ws) room_1) code maxLocals ret e s m #[(.long q0), (.long q1), (.long q2), (.long q3)] below meth c s₁) (hml : c.maxLocals = 20) (hZ : Z.Warmed39 s.vm) (T0 : State) (X0 : Stand p l e room_1 s m #[(.long q0), (.long q1), (.long q2), (.long q3)] below meth c T0 [] 0 0) (e0 : T0.heap = h0) :
    own_Go p e below s room_1.cells room_1.slots (some (.int (f0_45 q0 q1 q2 q3 x8 y0))) (own_K0 h0) (T0.setTop (mkF m 45 #[.val (.long q0), .second, .val (.long q1), .second, .val (.long q2), .second, .val (.long q3), .second, .val (.long x8), .second, .val (.long x10), .second, .val (.long x12), .second, .unset, .unset, .unset, .unset, .unset, .unset] [(.int y0)])) := by
  have hx := Bd.exec
  have hby := Bd.bytes
  have hown : s.vm.findClass "com/example/vaultwright/vaultwright/http/HttpLimitsHeadCostPinLaw" = some m.cls := findClass_of_methodNamed Bd.named
  unfold f0_45
  refine own_pre (F' := T0.setTop (mkF m 47 #[.val (.long q0), .second, .val (.long q1), .second, .val (.long q2), .second, .val (.long q3), .second, .val (.long x8), .second, .val (.long x10), .second, .val (.long x12), .second, .val (.int y0), .unset, .unset, .unset, .unset, .unset] [])) (fun _ k => XS.istore X0.here hx rfl (hb hby at_45) rfl (l' := #[.val (.long q0), .second, .val (.long q1), .second, .val (.long q2), .second, .val (.long q3), .second, .val (.long x8), .second, .val (.long x10), .second, .val (.long x12), .second, .val (.int y0), .unset, .unset, .unset, .unset, .unset]) rfl k) ?_
  refine own_pre (F' := T0.setTop (mkF m 48 #[.val (.long q0), .second, .val (.long q1), .second, .val (.long q2), .second, .val (.long q3), .second, .val (.long x8), .second, .val (.long x10), .second, .val (.long x12), .second, .val (.int y0), .unset, .unset, .unset, .unset, .unset] [(.long (1 : Int64))])) (fun _ k => XS.lconst X0.here hx rfl (hb hby at_47) k) ?_
  refine own_pre (F' := T0.setTop (mkF m 49 #[.val (.long q0), .second, .val (.long q1), .second, .val (.long q2), .second, .val (.long q3), .second, .val (.long x8), .second, .val (.long x10), .second, .val (.long x12), .second, .val (.int y0), .unset, .unset, .unset, .unset, .unset] [(.long (0 : Int64)), (.long (1 : Int64))])) (fun _ k => XS.lconst X0.here hx rfl (hb hby at_48) k) ?_
  obtain ⟨_, _, ⟨T2, L', k', n'⟩, -, X'', ⟨Lc', hQ', l', y', z'⟩, st'⟩ := Jvm.LawKit.callS X0 hx (y := (⟨"com/example/vaultwright/vaultwright/http/HttpLimits", "headCost", "(JJ)J"⟩ : MethodName)) hown (mvT hZ (hw _ (List.mem_of_getElem? (i := 0) rfl))) (mvT hZ (hw _ (List.mem_of_getElem? (i := 1) rfl))) (mvT hZ (hw _ (List.mem_of_getElem? (i := 2) rfl))) (mvT hZ (hw _ (List.mem_of_getElem? (i := 3) rfl))) (by decide) (backOf (W := 0) (rm1 l Z aw hw [] (1 : Int64) (0 : Int64) h0) hZ (hw _ (List.mem_of_getElem? (i := 3) rfl)) (hw _ (List.mem_of_getElem? (i := 2) rfl)) (by decide) (by decide)) (g := (mkF m 49 #[.val (.long q0), .second, .val (.long q1), .second, .val (.long q2), .second, .val (.long q3), .second, .val (.long x8), .second, .val (.long x10), .second, .val (.long x12), .second, .val (.int y0), .unset, .unset, .unset, .unset, .unset] [(.long (0 : Int64)), (.long (1 : Int64))])) rfl (by rw [hml]; rfl) (argsL := [(.long (1 : Int64)), (.long (0 : Int64))]) (rest := []) (lenOf own_pd0 rfl) rfl (by show 2 * 0 + _ ≤ _; exact Nat.le_of_eq rfl) (hb hby at_49) (fun _ _ => ⟨rfl, e0, (by decide : 0 + 0 ≤ _), (by decide : 0 + 0 ≤ _)⟩)
  dsimp only [Pt.U, Pt.locs, Pt.cells, Pt.slots] at X'' l' y' z' st' hQ'
  subst l' y' z'
  obtain ⟨rfl, rfl, e2⟩ := hQ'
  have X2 : Stand p l e room_1 s m #[(.long q0), (.long q1), (.long q2), (.long q3)] below meth c T2 [] 0 0 := X''
  refine own_pre (F' := T2.setTop (mkF m 52 #[.val (.long q0), .second, .val (.long q1), .second, .val (.long q2), .second, .val (.long q3), .second, .val (.long x8), .second, .val (.long x10), .second, .val (.long x12), .second, .val (.int y0), .unset, .unset, .unset, .unset, .unset] [(.long (f1_0 (1 : Int64) (0 : Int64)))])) (fun t k => st' t k) ?_
  refine own_pre (F' := T2.setTop (mkF m 55 #[.val (.long q0), .second, .val (.long q1), .second, .val (.long q2), .second, .val (.long q3), .second, .val (.long x8), .second, .val (.long x10), .second, .val (.long x12), .second, .val (.int y0), .unset, .unset, .unset, .unset, .unset] [(.long (3 : Int64)), (.long (f1_0 (1 : Int64) (0 : Int64)))])) (fun _ k => X2.ldc2Long hx hown (mvT hZ (hw _ (List.mem_of_getElem? (i := 6) rfl))) (g := (mkF m 52 #[.val (.long q0), .second, .val (.long q1), .second, .val (.long q2), .second, .val (.long q3), .second, .val (.long x8), .second, .val (.long x10), .second, .val (.long x12), .second, .val (.int y0), .unset, .unset, .unset, .unset, .unset] [(.long (f1_0 (1 : Int64) (0 : Int64)))])) rfl (hb hby at_52) _ k) ?_
  refine own_pre (F' := T2.setTop (mkF m 56 #[.val (.long q0), .second, .val (.long q1), .second, .val (.long q2), .second, .val (.long q3), .second, .val (.long x8), .second, .val (.long x10), .second, .val (.long x12), .second, .val (.int y0), .unset, .unset, .unset, .unset, .unset] [(.int (lcmpW (f1_0 (1 : Int64) (0 : Int64)) (3 : Int64)))])) (fun _ k => XS.lcmp X2.here hx rfl (hb hby at_55) rfl k) ?_
  refine own_iteI (fun hc56 => ?_) (fun hc56 => ?_)
  · skip
    refine own_pre (F' := T2.setTop (mkF m 59 #[.val (.long q0), .second, .val (.long q1), .second, .val (.long q2), .second, .val (.long q3), .second, .val (.long x8), .second, .val (.long x10), .second, .val (.long x12), .second, .val (.int y0), .unset, .unset, .unset, .unset, .unset] [])) (fun _ k => XS.ifNo X2.here hx rfl (hb hby at_56) rfl ((if0 _ _).trans (teq ((lw_eq _ _).mpr hc56)).2) k) ?_
    refine own_pre (F' := T2.setTop (mkF m 60 #[.val (.long q0), .second, .val (.long q1), .second, .val (.long q2), .second, .val (.long q3), .second, .val (.long x8), .second, .val (.long x10), .second, .val (.long x12), .second, .val (.int y0), .unset, .unset, .unset, .unset, .unset] [(.int (1 : Int32))])) (fun _ k => XS.iconst X2.here hx rfl (hb hby at_59) k) ?_
    refine own_pre (F' := T2.setTop (mkF m 64 #[.val (.long q0), .second, .val (.long q1), .second, .val (.long q2), .second, .val (.long q3), .second, .val (.long x8), .second, .val (.long x10), .second, .val (.long x12), .second, .val (.int y0), .unset, .unset, .unset, .unset, .unset] [(.int (1 : Int32))])) (fun _ k => XS.goto X2.here hx rfl (pc0 := 60) (pc' := 64) rfl (hb hby at_60) (by decide) (by decide) k) ?_
    exact g0_64 hw q0 q1 q2 q3 x8 x10 x12 y0 (1 : Int32) Bd hml hZ T2 X2 e2
  · skip
    refine own_pre (F' := T2.setTop (mkF m 63 #[.val (.long q0), .second, .val (.long q1), .second, .val (.long q2), .second, .val (.long q3), .second, .val (.long x8), .second, .val (.long x10), .second, .val (.long x12), .second, .val (.int y0), .unset, .unset, .unset, .unset, .unset] [])) (fun _ k => XS.ifYes X2.here hx rfl (pc0 := 56) (pc' := 63) rfl (hb hby at_56) rfl ((if0 _ _).trans (feq (fun q => hc56 ((lw_eq _ _).mp q))).2) (by decide) (by decide) k) ?_
    refine own_pre (F' := T2.setTop (mkF m 64 #[.val (.long q0), .second, .val (.long q1), .second, .val (.long q2), .second, .val (.long q3), .second, .val (.long x8), .second, .val (.long x10), .second, .val (.long x12), .second, .val (.int y0), .unset, .unset, .unset, .unset, .unset] [(.int (0 : Int32))])) (fun _ k => XS.iconst X2.here hx rfl (hb hby at_63) k) ?_
    exact g0_64 hw q0 q1 q2 q3 x8 x10 x12 y0 (0 : Int32) Bd hml hZ T2 X2 e2
def f0_0 (q0 : Int64) (q1 : Int64) (q2 : Int64) (q3 : Int64) : Int32 := (if (f1_0 (q0 + q2) (q1 + q3)) = ((f1_0 q0 q1) + (f1_0 q2 q3)) then (f0_45 q0 q1 q2 q3 (f1_0 q0 q1) (1 : Int32)) else (f0_45 q0 q1 q2 q3 (f1_0 q0 q1) (0 : Int32)))
set_option maxRecDepth 65536 in
set_option maxHeartbeats 40000000 in
theorem g0_0 {p : Program} {l : Launch} {e : Env} {s : State} {m : MethodId} {below : List Frame} {meth : Method} {c : Code} {s₁ : State} {ws : List Jvm.Cond} {Z : State} {aw : Array Value} (hw : ∀ d ∈ tables_1, d.before aw Z = true) {h0 : Heap} (q0 : Int64) (q1 : Int64) (q2 : Int64) (q3 : Int64)
    (Bd : BodyLoose p l x (head1 (Jvm.Cond.code x code maxLocals ret :: ws) room_1) code maxLocals ret e s m #[(.long q0), (.long q1), (.long q2), (.long q3)] below meth c s₁) (hml : c.maxLocals = 20) (hZ : Z.Warmed39 s.vm) (T0 : State) (X0 : Stand p l e room_1 s m #[(.long q0), (.long q1), (.long q2), (.long q3)] below meth c T0 [] 0 0) (e0 : T0.heap = h0) :
    own_Go p e below s room_1.cells room_1.slots (some (.int (f0_0 q0 q1 q2 q3))) (own_K0 h0) (T0.setTop (mkF m 0 #[.val (.long q0), .second, .val (.long q1), .second, .val (.long q2), .second, .val (.long q3), .second, .unset, .unset, .unset, .unset, .unset, .unset, .unset, .unset, .unset, .unset, .unset, .unset] [])) := by
  have hx := Bd.exec
  have hby := Bd.bytes
  have hown : s.vm.findClass "com/example/vaultwright/vaultwright/http/HttpLimitsHeadCostPinLaw" = some m.cls := findClass_of_methodNamed Bd.named
  unfold f0_0
  refine own_pre (F' := T0.setTop (mkF m 1 #[.val (.long q0), .second, .val (.long q1), .second, .val (.long q2), .second, .val (.long q3), .second, .unset, .unset, .unset, .unset, .unset, .unset, .unset, .unset, .unset, .unset, .unset, .unset] [(.long q0)])) (fun _ k => XS.lloadN X0.here hx rfl (hb hby at_0) rfl k) ?_
  refine own_pre (F' := T0.setTop (mkF m 2 #[.val (.long q0), .second, .val (.long q1), .second, .val (.long q2), .second, .val (.long q3), .second, .unset, .unset, .unset, .unset, .unset, .unset, .unset, .unset, .unset, .unset, .unset, .unset] [(.long q1), (.long q0)])) (fun _ k => XS.lloadN X0.here hx rfl (hb hby at_1) rfl k) ?_
  obtain ⟨_, _, ⟨T3, L', k', n'⟩, -, X'', ⟨Lc', hQ', l', y', z'⟩, st'⟩ := Jvm.LawKit.callS X0 hx (y := (⟨"com/example/vaultwright/vaultwright/http/HttpLimits", "headCost", "(JJ)J"⟩ : MethodName)) hown (mvT hZ (hw _ (List.mem_of_getElem? (i := 0) rfl))) (mvT hZ (hw _ (List.mem_of_getElem? (i := 1) rfl))) (mvT hZ (hw _ (List.mem_of_getElem? (i := 2) rfl))) (mvT hZ (hw _ (List.mem_of_getElem? (i := 3) rfl))) (by decide) (backOf (W := 0) (rm1 l Z aw hw [] q0 q1 h0) hZ (hw _ (List.mem_of_getElem? (i := 3) rfl)) (hw _ (List.mem_of_getElem? (i := 2) rfl)) (by decide) (by decide)) (g := (mkF m 2 #[.val (.long q0), .second, .val (.long q1), .second, .val (.long q2), .second, .val (.long q3), .second, .unset, .unset, .unset, .unset, .unset, .unset, .unset, .unset, .unset, .unset, .unset, .unset] [(.long q1), (.long q0)])) rfl (by rw [hml]; rfl) (argsL := [(.long q0), (.long q1)]) (rest := []) (lenOf own_pd0 rfl) rfl (by show 2 * 0 + _ ≤ _; exact Nat.le_of_eq rfl) (hb hby at_2) (fun _ _ => ⟨rfl, e0, (by decide : 0 + 0 ≤ _), (by decide : 0 + 0 ≤ _)⟩)
  dsimp only [Pt.U, Pt.locs, Pt.cells, Pt.slots] at X'' l' y' z' st' hQ'
  subst l' y' z'
  obtain ⟨rfl, rfl, e3⟩ := hQ'
  have X3 : Stand p l e room_1 s m #[(.long q0), (.long q1), (.long q2), (.long q3)] below meth c T3 [] 0 0 := X''
  refine own_pre (F' := T3.setTop (mkF m 5 #[.val (.long q0), .second, .val (.long q1), .second, .val (.long q2), .second, .val (.long q3), .second, .unset, .unset, .unset, .unset, .unset, .unset, .unset, .unset, .unset, .unset, .unset, .unset] [(.long (f1_0 q0 q1))])) (fun t k => st' t k) ?_
  refine own_pre (F' := T3.setTop (mkF m 7 #[.val (.long q0), .second, .val (.long q1), .second, .val (.long q2), .second, .val (.long q3), .second, .val (.long (f1_0 q0 q1)), .second, .unset, .unset, .unset, .unset, .unset, .unset, .unset, .unset, .unset, .unset] [])) (fun _ k => XS.lstore X3.here hx rfl (hb hby at_5) rfl (l' := #[.val (.long q0), .second, .val (.long q1), .second, .val (.long q2), .second, .val (.long q3), .second, .val (.long (f1_0 q0 q1)), .second, .unset, .unset, .unset, .unset, .unset, .unset, .unset, .unset, .unset, .unset]) rfl k) ?_
  refine own_pre (F' := T3.setTop (mkF m 9 #[.val (.long q0), .second, .val (.long q1), .second, .val (.long q2), .second, .val (.long q3), .second, .val (.long (f1_0 q0 q1)), .second, .unset, .unset, .unset, .unset, .unset, .unset, .unset, .unset, .unset, .unset] [(.long q2)])) (fun _ k => XS.lload X3.here hx rfl (hb hby at_7) rfl k) ?_
  refine own_pre (F' := T3.setTop (mkF m 11 #[.val (.long q0), .second, .val (.long q1), .second, .val (.long q2), .second, .val (.long q3), .second, .val (.long (f1_0 q0 q1)), .second, .unset, .unset, .unset, .unset, .unset, .unset, .unset, .unset, .unset, .unset] [(.long q3), (.long q2)])) (fun _ k => XS.lload X3.here hx rfl (hb hby at_9) rfl k) ?_
  obtain ⟨_, _, ⟨T4, L', k', n'⟩, -, X'', ⟨Lc', hQ', l', y', z'⟩, st'⟩ := Jvm.LawKit.callS X3 hx (y := (⟨"com/example/vaultwright/vaultwright/http/HttpLimits", "headCost", "(JJ)J"⟩ : MethodName)) hown (mvT hZ (hw _ (List.mem_of_getElem? (i := 0) rfl))) (mvT hZ (hw _ (List.mem_of_getElem? (i := 1) rfl))) (mvT hZ (hw _ (List.mem_of_getElem? (i := 2) rfl))) (mvT hZ (hw _ (List.mem_of_getElem? (i := 3) rfl))) (by decide) (backOf (W := 0) (rm1 l Z aw hw [] q2 q3 h0) hZ (hw _ (List.mem_of_getElem? (i := 3) rfl)) (hw _ (List.mem_of_getElem? (i := 2) rfl)) (by decide) (by decide)) (g := (mkF m 11 #[.val (.long q0), .second, .val (.long q1), .second, .val (.long q2), .second, .val (.long q3), .second, .val (.long (f1_0 q0 q1)), .second, .unset, .unset, .unset, .unset, .unset, .unset, .unset, .unset, .unset, .unset] [(.long q3), (.long q2)])) rfl (by rw [hml]; rfl) (argsL := [(.long q2), (.long q3)]) (rest := []) (lenOf own_pd0 rfl) rfl (by show 2 * 0 + _ ≤ _; exact Nat.le_of_eq rfl) (hb hby at_11) (fun _ _ => ⟨rfl, e3, (by decide : 0 + 0 ≤ _), (by decide : 0 + 0 ≤ _)⟩)
  dsimp only [Pt.U, Pt.locs, Pt.cells, Pt.slots] at X'' l' y' z' st' hQ'
  subst l' y' z'
  obtain ⟨rfl, rfl, e4⟩ := hQ'
  have X4 : Stand p l e room_1 s m #[(.long q0), (.long q1), (.long q2), (.long q3)] below meth c T4 [] 0 0 := X''
  refine own_pre (F' := T4.setTop (mkF m 14 #[.val (.long q0), .second, .val (.long q1), .second, .val (.long q2), .second, .val (.long q3), .second, .val (.long (f1_0 q0 q1)), .second, .unset, .unset, .unset, .unset, .unset, .unset, .unset, .unset, .unset, .unset] [(.long (f1_0 q2 q3))])) (fun t k => st' t k) ?_
  refine own_pre (F' := T4.setTop (mkF m 16 #[.val (.long q0), .second, .val (.long q1), .second, .val (.long q2), .second, .val (.long q3), .second, .val (.long (f1_0 q0 q1)), .second, .val (.long (f1_0 q2 q3)), .second, .unset, .unset, .unset, .unset, .unset, .unset, .unset, .unset] [])) (fun _ k => XS.lstore X4.here hx rfl (hb hby at_14) rfl (l' := #[.val (.long q0), .second, .val (.long q1), .second, .val (.long q2), .second, .val (.long q3), .second, .val (.long (f1_0 q0 q1)), .second, .val (.long (f1_0 q2 q3)), .second, .unset, .unset, .unset, .unset, .unset, .unset, .unset, .unset]) rfl k) ?_
  refine own_pre (F' := T4.setTop (mkF m 17 #[.val (.long q0), .second, .val (.long q1), .second, .val (.long q2), .second, .val (.long q3), .second, .val (.long (f1_0 q0 q1)), .second, .val (.long (f1_0 q2 q3)), .second, .unset, .unset, .unset, .unset, .unset, .unset, .unset, .unset] [(.long q0)])) (fun _ k => XS.lloadN X4.here hx rfl (hb hby at_16) rfl k) ?_
  refine own_pre (F' := T4.setTop (mkF m 19 #[.val (.long q0), .second, .val (.long q1), .second, .val (.long q2), .second, .val (.long q3), .second, .val (.long (f1_0 q0 q1)), .second, .val (.long (f1_0 q2 q3)), .second, .unset, .unset, .unset, .unset, .unset, .unset, .unset, .unset] [(.long q2), (.long q0)])) (fun _ k => XS.lload X4.here hx rfl (hb hby at_17) rfl k) ?_
  refine own_pre (F' := T4.setTop (mkF m 20 #[.val (.long q0), .second, .val (.long q1), .second, .val (.long q2), .second, .val (.long q3), .second, .val (.long (f1_0 q0 q1)), .second, .val (.long (f1_0 q2 q3)), .second, .unset, .unset, .unset, .unset, .unset, .unset, .unset, .unset] [(.long (q0 + q2))])) (fun _ k => XS.ladd X4.here hx rfl (hb hby at_19) rfl k) ?_
  refine own_pre (F' := T4.setTop (mkF m 21 #[.val (.long q0), .second, .val (.long q1), .second, .val (.long q2), .second, .val (.long q3), .second, .val (.long (f1_0 q0 q1)), .second, .val (.long (f1_0 q2 q3)), .second, .unset, .unset, .unset, .unset, .unset, .unset, .unset, .unset] [(.long q1), (.long (q0 + q2))])) (fun _ k => XS.lloadN X4.here hx rfl (hb hby at_20) rfl k) ?_
  refine own_pre (F' := T4.setTop (mkF m 23 #[.val (.long q0), .second, .val (.long q1), .second, .val (.long q2), .second, .val (.long q3), .second, .val (.long (f1_0 q0 q1)), .second, .val (.long (f1_0 q2 q3)), .second, .unset, .unset, .unset, .unset, .unset, .unset, .unset, .unset] [(.long q3), (.long q1), (.long (q0 + q2))])) (fun _ k => XS.lload X4.here hx rfl (hb hby at_21) rfl k) ?_
  refine own_pre (F' := T4.setTop (mkF m 24 #[.val (.long q0), .second, .val (.long q1), .second, .val (.long q2), .second, .val (.long q3), .second, .val (.long (f1_0 q0 q1)), .second, .val (.long (f1_0 q2 q3)), .second, .unset, .unset, .unset, .unset, .unset, .unset, .unset, .unset] [(.long (q1 + q3)), (.long (q0 + q2))])) (fun _ k => XS.ladd X4.here hx rfl (hb hby at_23) rfl k) ?_
  obtain ⟨_, _, ⟨T5, L', k', n'⟩, -, X'', ⟨Lc', hQ', l', y', z'⟩, st'⟩ := Jvm.LawKit.callS X4 hx (y := (⟨"com/example/vaultwright/vaultwright/http/HttpLimits", "headCost", "(JJ)J"⟩ : MethodName)) hown (mvT hZ (hw _ (List.mem_of_getElem? (i := 0) rfl))) (mvT hZ (hw _ (List.mem_of_getElem? (i := 1) rfl))) (mvT hZ (hw _ (List.mem_of_getElem? (i := 2) rfl))) (mvT hZ (hw _ (List.mem_of_getElem? (i := 3) rfl))) (by decide) (backOf (W := 0) (rm1 l Z aw hw [] (q0 + q2) (q1 + q3) h0) hZ (hw _ (List.mem_of_getElem? (i := 3) rfl)) (hw _ (List.mem_of_getElem? (i := 2) rfl)) (by decide) (by decide)) (g := (mkF m 24 #[.val (.long q0), .second, .val (.long q1), .second, .val (.long q2), .second, .val (.long q3), .second, .val (.long (f1_0 q0 q1)), .second, .val (.long (f1_0 q2 q3)), .second, .unset, .unset, .unset, .unset, .unset, .unset, .unset, .unset] [(.long (q1 + q3)), (.long (q0 + q2))])) rfl (by rw [hml]; rfl) (argsL := [(.long (q0 + q2)), (.long (q1 + q3))]) (rest := []) (lenOf own_pd0 rfl) rfl (by show 2 * 0 + _ ≤ _; exact Nat.le_of_eq rfl) (hb hby at_24) (fun _ _ => ⟨rfl, e4, (by decide : 0 + 0 ≤ _), (by decide : 0 + 0 ≤ _)⟩)
  dsimp only [Pt.U, Pt.locs, Pt.cells, Pt.slots] at X'' l' y' z' st' hQ'
  subst l' y' z'
  obtain ⟨rfl, rfl, e5⟩ := hQ'
  have X5 : Stand p l e room_1 s m #[(.long q0), (.long q1), (.long q2), (.long q3)] below meth c T5 [] 0 0 := X''
  refine own_pre (F' := T5.setTop (mkF m 27 #[.val (.long q0), .second, .val (.long q1), .second, .val (.long q2), .second, .val (.long q3), .second, .val (.long (f1_0 q0 q1)), .second, .val (.long (f1_0 q2 q3)), .second, .unset, .unset, .unset, .unset, .unset, .unset, .unset, .unset] [(.long (f1_0 (q0 + q2) (q1 + q3)))])) (fun t k => st' t k) ?_
  refine own_pre (F' := T5.setTop (mkF m 29 #[.val (.long q0), .second, .val (.long q1), .second, .val (.long q2), .second, .val (.long q3), .second, .val (.long (f1_0 q0 q1)), .second, .val (.long (f1_0 q2 q3)), .second, .val (.long (f1_0 (q0 + q2) (q1 + q3))), .second, .unset, .unset, .unset, .unset, .unset, .unset] [])) (fun _ k => XS.lstore X5.here hx rfl (hb hby at_27) rfl (l' := #[.val (.long q0), .second, .val (.long q1), .second, .val (.long q2), .second, .val (.long q3), .second, .val (.long (f1_0 q0 q1)), .second, .val (.long (f1_0 q2 q3)), .second, .val (.long (f1_0 (q0 + q2) (q1 + q3))), .second, .unset, .unset, .unset, .unset, .unset, .unset]) rfl k) ?_
  refine own_pre (F' := T5.setTop (mkF m 31 #[.val (.long q0), .second, .val (.long q1), .second, .val (.long q2), .second, .val (.long q3), .second, .val (.long (f1_0 q0 q1)), .second, .val (.long (f1_0 q2 q3)), .second, .val (.long (f1_0 (q0 + q2) (q1 + q3))), .second, .unset, .unset, .unset, .unset, .unset, .unset] [(.long (f1_0 (q0 + q2) (q1 + q3)))])) (fun _ k => XS.lload X5.here hx rfl (hb hby at_29) rfl k) ?_
  refine own_pre (F' := T5.setTop (mkF m 33 #[.val (.long q0), .second, .val (.long q1), .second, .val (.long q2), .second, .val (.long q3), .second, .val (.long (f1_0 q0 q1)), .second, .val (.long (f1_0 q2 q3)), .second, .val (.long (f1_0 (q0 + q2) (q1 + q3))), .second, .unset, .unset, .unset, .unset, .unset, .unset] [(.long (f1_0 q0 q1)), (.long (f1_0 (q0 + q2) (q1 + q3)))])) (fun _ k => XS.lload X5.here hx rfl (hb hby at_31) rfl k) ?_
  refine own_pre (F' := T5.setTop (mkF m 35 #[.val (.long q0), .second, .val (.long q1), .second, .val (.long q2), .second, .val (.long q3), .second, .val (.long (f1_0 q0 q1)), .second, .val (.long (f1_0 q2 q3)), .second, .val (.long (f1_0 (q0 + q2) (q1 + q3))), .second, .unset, .unset, .unset, .unset, .unset, .unset] [(.long (f1_0 q2 q3)), (.long (f1_0 q0 q1)), (.long (f1_0 (q0 + q2) (q1 + q3)))])) (fun _ k => XS.lload X5.here hx rfl (hb hby at_33) rfl k) ?_
  refine own_pre (F' := T5.setTop (mkF m 36 #[.val (.long q0), .second, .val (.long q1), .second, .val (.long q2), .second, .val (.long q3), .second, .val (.long (f1_0 q0 q1)), .second, .val (.long (f1_0 q2 q3)), .second, .val (.long (f1_0 (q0 + q2) (q1 + q3))), .second, .unset, .unset, .unset, .unset, .unset, .unset] [(.long ((f1_0 q0 q1) + (f1_0 q2 q3))), (.long (f1_0 (q0 + q2) (q1 + q3)))])) (fun _ k => XS.ladd X5.here hx rfl (hb hby at_35) rfl k) ?_
  refine own_pre (F' := T5.setTop (mkF m 37 #[.val (.long q0), .second, .val (.long q1), .second, .val (.long q2), .second, .val (.long q3), .second, .val (.long (f1_0 q0 q1)), .second, .val (.long (f1_0 q2 q3)), .second, .val (.long (f1_0 (q0 + q2) (q1 + q3))), .second, .unset, .unset, .unset, .unset, .unset, .unset] [(.int (lcmpW (f1_0 (q0 + q2) (q1 + q3)) ((f1_0 q0 q1) + (f1_0 q2 q3))))])) (fun _ k => XS.lcmp X5.here hx rfl (hb hby at_36) rfl k) ?_
  refine own_iteI (fun hc37 => ?_) (fun hc37 => ?_)
  · skip
    refine own_pre (F' := T5.setTop (mkF m 40 #[.val (.long q0), .second, .val (.long q1), .second, .val (.long q2), .second, .val (.long q3), .second, .val (.long (f1_0 q0 q1)), .second, .val (.long (f1_0 q2 q3)), .second, .val (.long (f1_0 (q0 + q2) (q1 + q3))), .second, .unset, .unset, .unset, .unset, .unset, .unset] [])) (fun _ k => XS.ifNo X5.here hx rfl (hb hby at_37) rfl ((if0 _ _).trans (teq ((lw_eq _ _).mpr hc37)).2) k) ?_
    refine own_pre (F' := T5.setTop (mkF m 41 #[.val (.long q0), .second, .val (.long q1), .second, .val (.long q2), .second, .val (.long q3), .second, .val (.long (f1_0 q0 q1)), .second, .val (.long (f1_0 q2 q3)), .second, .val (.long (f1_0 (q0 + q2) (q1 + q3))), .second, .unset, .unset, .unset, .unset, .unset, .unset] [(.int (1 : Int32))])) (fun _ k => XS.iconst X5.here hx rfl (hb hby at_40) k) ?_
    refine own_pre (F' := T5.setTop (mkF m 45 #[.val (.long q0), .second, .val (.long q1), .second, .val (.long q2), .second, .val (.long q3), .second, .val (.long (f1_0 q0 q1)), .second, .val (.long (f1_0 q2 q3)), .second, .val (.long (f1_0 (q0 + q2) (q1 + q3))), .second, .unset, .unset, .unset, .unset, .unset, .unset] [(.int (1 : Int32))])) (fun _ k => XS.goto X5.here hx rfl (pc0 := 41) (pc' := 45) rfl (hb hby at_41) (by decide) (by decide) k) ?_
    exact g0_45 hw q0 q1 q2 q3 (f1_0 q0 q1) (f1_0 q2 q3) (f1_0 (q0 + q2) (q1 + q3)) (1 : Int32) Bd hml hZ T5 X5 e5
  · skip
    refine own_pre (F' := T5.setTop (mkF m 44 #[.val (.long q0), .second, .val (.long q1), .second, .val (.long q2), .second, .val (.long q3), .second, .val (.long (f1_0 q0 q1)), .second, .val (.long (f1_0 q2 q3)), .second, .val (.long (f1_0 (q0 + q2) (q1 + q3))), .second, .unset, .unset, .unset, .unset, .unset, .unset] [])) (fun _ k => XS.ifYes X5.here hx rfl (pc0 := 37) (pc' := 44) rfl (hb hby at_37) rfl ((if0 _ _).trans (feq (fun q => hc37 ((lw_eq _ _).mp q))).2) (by decide) (by decide) k) ?_
    refine own_pre (F' := T5.setTop (mkF m 45 #[.val (.long q0), .second, .val (.long q1), .second, .val (.long q2), .second, .val (.long q3), .second, .val (.long (f1_0 q0 q1)), .second, .val (.long (f1_0 q2 q3)), .second, .val (.long (f1_0 (q0 + q2) (q1 + q3))), .second, .unset, .unset, .unset, .unset, .unset, .unset] [(.int (0 : Int32))])) (fun _ k => XS.iconst X5.here hx rfl (hb hby at_44) k) ?_
    exact g0_45 hw q0 q1 q2 q3 (f1_0 q0 q1) (f1_0 q2 q3) (f1_0 (q0 + q2) (q1 + q3)) (0 : Int32) Bd hml hZ T5 X5 e5
theorem ef_0 (m : MethodId) (q0 : Int64) (q1 : Int64) (q2 : Int64) (q3 : Int64) : entryFrame m #[(.long q0), (.long q1), (.long q2), (.long q3)] maxLocals = mkF m 0 #[.val (.long q0), .second, .val (.long q1), .second, .val (.long q2), .second, .val (.long q3), .second, .unset, .unset, .unset, .unset, .unset, .unset, .unset, .unset, .unset, .unset, .unset, .unset] [] := by first | (simp [entryFrame, mkF, argsToLocals, Value.category, maxLocals]; done) | rfl
set_option maxRecDepth 65536 in
set_option maxHeartbeats 40000000 in
theorem rm0 (l : Launch) (Z : State) (aw : Array Value) (hw : ∀ d ∈ tables_1, d.before aw Z = true) (ws : List Jvm.Cond) (q0 : Int64) (q1 : Int64) (q2 : Int64) (q3 : Int64) (h0 : Heap) :
    MetFree l x (head1 (Jvm.Cond.code x code maxLocals ret :: ws) room_1) (fun a U => a = #[(.long q0), (.long q1), (.long q2), (.long q3)] ∧ Z.Warmed39 U.vm ∧ U.heap = h0) (fun _ _ _ _ _ => True) (fun _ U o U' => ∃ v L, o = .returned v ∧ own_Q (some (.int (f0_0 q0 q1 q2 q3))) (own_K0 h0) v U'.heap L ∧ FrameEnd U o U' L room_1.cells room_1.slots) := by
  refine MetFree.of_bodySF (plainFor_of_name own_pn1) hisR ?_
  intro p e s m args below meth c s₁ Bd hml0 hP hK
  obtain ⟨rfl, hZ, hh⟩ := hP
  have hml : c.maxLocals = 20 := hml0
  have e0 : s₁.heap = h0 := by rw [← hh, Bd.state]; rfl
  exact own_pre (fun t k => castTop (ef_0 m q0 q1 q2 q3) k) (g0_0 hw q0 q1 q2 q3 Bd hml hZ s₁ (Stand.of_body Bd) e0)
theorem own_shl7 (b : Int64) : (b <<< ((7:Int32) &&& 0x3f).toInt64) = 128 * b := by
  have h := c_lshl b 7 7 (by decide)
  have h2 := c_lmul 128 b
  have e : (128 : Int64).toInt = 128 := by decide
  have r1 := rng64 (b <<< ((7:Int32) &&& 0x3f).toInt64)
  have r2 := rng64 (128 * b)
  apply Int64.toInt_inj.mp
  rw [e] at h2
  omega
theorem own_t1 (a b c d : Int64) : f1_0 (a + c) (b + d) = f1_0 a b + f1_0 c d := by unfold f1_0; grind
theorem own_t2 (a b : Int64) : f1_0 a b = a + a + a + (b <<< ((7:Int32) &&& 0x3f).toInt64) := by
  rw [own_shl7]; unfold f1_0; grind
theorem own_law (a b c d : Int64) : f0_0 a b c d = 1 := by
  have h1 : f1_0 1 0 = 3 := by decide
  have h2 : f1_0 0 1 = 128 := by decide
  have h3 := own_t1 a b c d
  have h4 := own_t2 a b
  unfold f0_0; rw [if_pos h3]
  unfold f0_45; rw [if_pos h1]
  unfold f0_64; rw [if_pos h2]
  unfold f0_83; rw [if_pos h4]
  rfl
set_option maxRecDepth 65536 in
set_option maxHeartbeats 40000000 in
theorem comes_1 {Post : Tables → Env → Array Value → State → Outcome → State → Prop} (hpost : ∀ tb e args s v u, (limb_1_1.after args s (.returned v) u = true ∧ limb_1_2.after args s (.returned v) u = true ∧ True) → FrameEnd s (.returned v) u (Jvm.fieldLocs frame_1_writes args s ++ Jvm.arrayLocs frame_1_arrays args s ++ Jvm.staticLocs frame_1_statics s) 0 0 → Post tb e args s (.returned v) u) :
    ArmFor flags0 classFile x code maxLocals ret World_1 tables_1 room_1 Calls_1 rest_1 Pre_1 Post := by
  intro l hfl _ _ p e ha hc hk s m args below hf hA hF happ hP
  obtain ⟨hcalls, hrest, hpre⟩ := hP
  obtain ⟨-, -, -, hnamed, -, -, -, hat⟩ := (Spec.applies_iff hf).mp happ
  obtain ⟨hg, hn⟩ := and_e (Cond.before_iff.mp (show (Jvm.Cond.and given_1 narrow_1).before args s = true from hpre))
  obtain ⟨g1, g2⟩ := and_e hg
  obtain ⟨g3, g4⟩ := and_e g2
  obtain ⟨g5, g6⟩ := and_e g4
  obtain ⟨g7, g8⟩ := and_e g6
  obtain ⟨w0, w1, w2, w3, rfl⟩ : ∃ w0 w1 w2 w3 : Value, args = #[w0, w1, w2, w3] := by
    have hs : args.size = 4 := by simpa [Cond.value, given_1] using g1
    obtain ⟨L⟩ := args
    match L, hs with
    | [w0, w1, w2, w3], _ => exact ⟨w0, w1, w2, w3, rfl⟩
  have hw := fun d (hd : d ∈ tables_1) => atoms_spec (ws := Jvm.Cond.code x code maxLocals ret :: tables_1) hat d (List.mem_cons_of_mem _ hd)
  have hfit : Fit s := fun {y c} hc i hi => by
    obtain ⟨ha, rfl⟩ := Array.getElem?_eq_some_iff.mp hc
    have q := List.all_eq_true.mp ((Array.all_eq_true_iff_forall_mem.mp hF) _ (Array.getElem_mem ha)) i (List.mem_range.mpr hi)
    simpa [Array.getElem?_eq_getElem hi] using q
  obtain ⟨i0, ei0⟩ := isL_v g3
  obtain rfl : w0 = (.long i0) := Option.some.inj ei0
  obtain ⟨i1, ei1⟩ := isL_v g5
  obtain rfl : w1 = (.long i1) := Option.some.inj ei1
  obtain ⟨i2, ei2⟩ := isL_v g7
  obtain rfl : w2 = (.long i2) := Option.some.inj ei2
  obtain ⟨i3, ei3⟩ := isL_v g8
  obtain rfl : w3 = (.long i3) := Option.some.inj ei3
  obtain ⟨n, o, h1, h2, h3, v, L, rfl, ⟨hv, hK⟩, hq⟩ := rm0 l s _ hw tables_1 i0 i1 i2 i3 s.heap p e ha hc hk s m _ below hf ((Spec.applies_iff_loose hf).mp happ).1 ⟨rfl, State.Warmed39.refl s, rfl⟩ trivial
  rw [own_law] at hv
  subst hv
  refine ⟨n, _, h1, h2, h3, hpost _ _ _ _ _ _ ⟨Cond.after_iff.mpr rfl, Cond.after_iff.mpr (eq_i res_at (Term.int_eval (1)) rfl), trivial⟩ ⟨hq.1, hq.2.1, (hq.2.2.sift fun y hy => ?_).mono (by decide) (by decide)⟩⟩
  rw [hK.1] at hy
  cases hy
theorem main_1_1 : Claimed_1_1 := comes_1 fun _ _ _ _ _ _ h hF => ⟨h.1, hF⟩
theorem main_1_2 : Claimed_1_2 := comes_1 fun _ _ _ _ _ _ h hF => ⟨h.2.1, hF⟩
end Jvm.Pilot.@@N@@
namespace Jvm.Pilot.@@N@@
open Jvm Jvm.ClassFile Sem Op Lib Jvm.Free Jvm.Stand Jvm.Pilot.@@N@@.Jvm.D
/-! MADE BY PROGRAM (witnessworld.py) out of the Statement's table words and the real class files: 10 classes; the members and pool entries that the words name. The judged class is class 1, her method 1. -/
namespace start1
open Jvm.ClassFile
def u (s : String) : CpInfo := .utf8 (stringToUtf16 s)
/-- a pool by its gaps: so many unusable entries, then the entry; so many at the end -/
def gap : Nat → List CpInfo → List CpInfo
  | 0, r => r
  | n + 1, r => .unusable :: gap n r
def poolList (es : List (Nat × CpInfo)) (last : Nat) : List CpInfo := es.foldr (fun e r => gap e.1 (e.2 :: r)) (gap last [])
def pool (es : List (Nat × CpInfo)) (last : Nat) : Array CpInfo := ⟨poolList es last⟩
def fileOf (pool : Array CpInfo) (this : Nat) (attrs : Array Attribute := #[]) (ms : Array MethodInfo := #[]) (fl : Nat := 33) (sup : Nat := 0) (ifs : Array Nat := #[]) (fds : Array FieldInfo := #[]) : ClassFile where
  minorVersion := 0
  majorVersion := 65
  constantPool := pool
  accessFlags := fl
  thisClass := this
  superClass := sup
  interfaces := ifs
  fields := fds
  methods := ms
  attributes := attrs
def plain (name : String) (sup : Option ClassId) : Class where
  name := name
  kind := .ordinary
  loader := none
  accessFlags := 33
  super := sup
  interfaces := #[]
  cf := none
  fields := #[]
  methods := #[]
  instanceTypes := #[]
  staticTypes := #[]
  resolved := #[]
  callSites := []
  init := .initialized
  statics := none
  mirror := none

def pool0 : Array CpInfo := pool [(5, u "<init>"), (0, u "()V"), (1, .class_ 10), (1, u "java/lang/Object")] 113

def k0m0 : Method := { name := "<init>", desc := "()V", sig := { parameters := [], returnType := none }, accessFlags := 1, code := none }
/-- java/lang/Object -/
def k0 : Class := { plain "java/lang/Object" none with
  accessFlags := 33
  interfaces := #[]
  cf := some (fileOf pool0 8 #[] #[{ accessFlags := 1, nameIndex := 5, descriptorIndex := 6, attributes := #[] }] 33 0 #[] #[])
  fields := #[]
  methods := #[k0m0]
  instanceTypes := #[]
  staticTypes := #[]
  resolved := Array.replicate 124 none
  statics := none }

def pool1 : Array CpInfo := pool [(2, .class_ 4), (1, u "java/lang/Object"), (0, u "<init>"), (0, u "()V"), (0, .methodref 8 9), (0, .class_ 10), (0, .nameAndType 11 12), (0, u "com/example/vaultwright/vaultwright/http/HttpLimits"), (0, u "headCost"), (0, u "(JJ)J"), (0, .long 3), (1, .long 128), (1, .class_ 18), (0, u "com/example/vaultwright/vaultwright/http/HttpLimitsHeadCostPinLaw"), (2, u "law"), (0, u "(JJJJ)Z")] 3

def k1m0 : Method := { name := "<init>", desc := "()V", sig := { parameters := [], returnType := none }, accessFlags := 2, code := none }
def k1c1 : Code := { maxStack := 6, maxLocals := 20, code := code, exceptionTable := #[], attributes := #[] }
def k1m1 : Method := { name := "law", desc := "(JJJJ)Z", sig := { parameters := [.long, .long, .long, .long], returnType := some .boolean }, accessFlags := 9, code := some k1c1 }
/-- com/example/vaultwright/vaultwright/http/HttpLimitsHeadCostPinLaw -/
def k1 : Class := { plain "com/example/vaultwright/vaultwright/http/HttpLimitsHeadCostPinLaw" (some 0) with
  accessFlags := 49
  interfaces := #[]
  cf := some (fileOf pool1 17 #[] #[{ accessFlags := 2, nameIndex := 5, descriptorIndex := 6, attributes := #[] }, { accessFlags := 9, nameIndex := 21, descriptorIndex := 22, attributes := #[] }] 49 2 #[] #[])
  fields := #[]
  methods := #[k1m0, k1m1]
  instanceTypes := #[]
  staticTypes := #[]
  resolved := Array.replicate 26 none
  statics := none }

def pool2 : Array CpInfo := pool [(2, .class_ 4), (1, u "java/lang/Object"), (0, u "<init>"), (0, u "()V"), (0, .class_ 8), (0, u "java/lang/Record")] 13

def k2m0 : Method := { name := "<init>", desc := "()V", sig := { parameters := [], returnType := none }, accessFlags := 4, code := none }
/-- java/lang/Record -/
def k2 : Class := { plain "java/lang/Record" (some 0) with
  accessFlags := 1057
  interfaces := #[]
  cf := some (fileOf pool2 7 #[] #[{ accessFlags := 4, nameIndex := 5, descriptorIndex := 6, attributes := #[] }] 1057 2 #[] #[])
  fields := #[]
  methods := #[k2m0]
  instanceTypes := #[]
  staticTypes := #[]
  resolved := Array.replicate 22 none
  statics := none }

def pool3 : Array CpInfo := pool [(2, .class_ 4), (1, u "java/lang/Record"), (25, .class_ 32), (1, u "com/example/vaultwright/vaultwright/http/HttpLimits"), (0, u "callArrival"), (0, u "Ljava/time/Duration;"), (2, u "idle"), (2, u "maxHeadBytes"), (0, u "I"), (2, u "headBudgetBytes"), (0, u "J"), (2, u "maxBodyBytes"), (2, u "bodyBudgetBytes"), (2, u "maxConnections"), (0, .long 3), (1, .long 128), (13, u "HEAD_ALLOWANCE_BYTES"), (2, u "BODY_ALLOWANCE_BYTES"), (1, u "HEAD_BYTE_COST"), (1, u "HEAD_LINE_COST"), (6, u "headCost"), (0, u "(JJ)J")] 39

def k3c0 : Code := { maxStack := 6, maxLocals := 4, code := prog_27_method_2_code, exceptionTable := #[], attributes := #[] }
def k3m0 : Method := { name := "headCost", desc := "(JJ)J", sig := { parameters := [.long, .long], returnType := some .long }, accessFlags := 9, code := some k3c0 }
/-- com/example/vaultwright/vaultwright/http/HttpLimits -/
def k3 : Class := { plain "com/example/vaultwright/vaultwright/http/HttpLimits" (some 2) with
  accessFlags := 49
  interfaces := #[]
  cf := some (fileOf pool3 30 #[] #[{ accessFlags := 9, nameIndex := 85, descriptorIndex := 86, attributes := #[] }] 49 2 #[] #[{ accessFlags := 18, nameIndex := 33, descriptorIndex := 34, attributes := #[] }, { accessFlags := 18, nameIndex := 37, descriptorIndex := 34, attributes := #[] }, { accessFlags := 18, nameIndex := 40, descriptorIndex := 41, attributes := #[] }, { accessFlags := 18, nameIndex := 44, descriptorIndex := 45, attributes := #[] }, { accessFlags := 18, nameIndex := 48, descriptorIndex := 41, attributes := #[] }, { accessFlags := 18, nameIndex := 51, descriptorIndex := 45, attributes := #[] }, { accessFlags := 18, nameIndex := 54, descriptorIndex := 41, attributes := #[] }, { accessFlags := 25, nameIndex := 71, descriptorIndex := 41, attributes := #[] }, { accessFlags := 25, nameIndex := 74, descriptorIndex := 41, attributes := #[] }, { accessFlags := 26, nameIndex := 76, descriptorIndex := 41, attributes := #[] }, { accessFlags := 26, nameIndex := 78, descriptorIndex := 41, attributes := #[] }])
  fields := #[{ name := "callArrival", type := (.object "java/time/Duration"), accessFlags := 18, slot := 0, constantValue := 0 }, { name := "idle", type := (.object "java/time/Duration"), accessFlags := 18, slot := 1, constantValue := 0 }, { name := "maxHeadBytes", type := .int, accessFlags := 18, slot := 2, constantValue := 0 }, { name := "headBudgetBytes", type := .long, accessFlags := 18, slot := 3, constantValue := 0 }, { name := "maxBodyBytes", type := .int, accessFlags := 18, slot := 4, constantValue := 0 }, { name := "bodyBudgetBytes", type := .long, accessFlags := 18, slot := 5, constantValue := 0 }, { name := "maxConnections", type := .int, accessFlags := 18, slot := 6, constantValue := 0 }, { name := "HEAD_ALLOWANCE_BYTES", type := .int, accessFlags := 25, slot := 0, constantValue := 0 }, { name := "BODY_ALLOWANCE_BYTES", type := .int, accessFlags := 25, slot := 1, constantValue := 0 }, { name := "HEAD_BYTE_COST", type := .int, accessFlags := 26, slot := 2, constantValue := 0 }, { name := "HEAD_LINE_COST", type := .int, accessFlags := 26, slot := 3, constantValue := 0 }]
  methods := #[k3m0]
  instanceTypes := #[(.object "java/time/Duration"), (.object "java/time/Duration"), .int, .long, .int, .long, .int]
  staticTypes := #[.int, .int, .int, .int]
  resolved := Array.replicate 126 none
  statics := none }

def pool4 : Array CpInfo := pool [(1, u "java/lang/Cloneable"), (0, .class_ 1), (0, u "java/lang/Object"), (0, .class_ 3)] 3

/-- java/lang/Cloneable -/
def k4 : Class := { plain "java/lang/Cloneable" (some 0) with
  accessFlags := 1537
  interfaces := #[]
  cf := some (fileOf pool4 2 #[] #[] 1537 4 #[] #[])
  fields := #[]
  methods := #[]
  instanceTypes := #[]
  staticTypes := #[]
  resolved := Array.replicate 8 none
  statics := none }

def pool5 : Array CpInfo := pool [(1, u "java/io/Serializable"), (0, .class_ 1), (0, u "java/lang/Object"), (0, .class_ 3)] 3

/-- java/io/Serializable -/
def k5 : Class := { plain "java/io/Serializable" (some 0) with
  accessFlags := 1537
  interfaces := #[]
  cf := some (fileOf pool5 2 #[] #[] 1537 4 #[] #[])
  fields := #[]
  methods := #[]
  instanceTypes := #[]
  staticTypes := #[]
  resolved := Array.replicate 8 none
  statics := none }

/-- the primitive byte -/
def k6 : Class := { plain "byte" none with kind := .primitive 'B', accessFlags := 0x411 }
/-- [B -/
def k7 : Class := { plain "[B" (some 0) with kind := .array 6 .byte, interfaces := #[4, 5], accessFlags := 1041 }

/-- the primitive int -/
def k8 : Class := { plain "int" none with kind := .primitive 'I', accessFlags := 0x411 }
/-- [I -/
def k9 : Class := { plain "[I" (some 0) with kind := .array 8 .int, interfaces := #[4, 5], accessFlags := 1041 }

def heap : Heap := #[]
def classes : Array Class := #[k0, k1, k2, k3, k4, k5, k6, k7, k8, k9]
def interned : List (Array UInt16 × Addr) := []
def slotsUsed : Nat := 0
def theMethod : MethodId := ⟨1, 1⟩
def args0 : Array Value := #[.long 5, .long 7, .long 9, .long 3]
def aboutOver (below : List Frame) : State where
  vm := { classes := classes, interned := interned.toArray }
  heap := heap
  slotsUsed := slotsUsed
  threads := #[{ frames := .invoking theMethod args0 :: below }]
def below0 : List Frame := [.native { method := ⟨0, 0⟩, args := #[] }]
def about1 : State := aboutOver below0
def p0 : Program := .bare "" "" ""
def e0 : Env := launch0.env 0 0 0
theorem w_frames : about1.frames = Frame.invoking theMethod args0 :: below0 := rfl
set_option maxRecDepth 65536 in
theorem w_args : argsFit about1.vm theMethod args0 = true := by decide +kernel
set_option maxRecDepth 65536 in
theorem w_heap : heapFits about1 = true := by decide +kernel
set_option maxRecDepth 65536 in
theorem w_runnable : about1.curStatus? = some .runnable := by decide +kernel
set_option maxRecDepth 65536 in
theorem w_alone : about1.alone = true := by decide +kernel
set_option maxRecDepth 65536 in
theorem w_named : about1.methodNamed? x = some theMethod := by decide +kernel
set_option maxRecDepth 65536 in
theorem w_hears : about1.hears theMethod below0 = true := by decide +kernel
set_option maxRecDepth 65536 in
theorem w_ripe : about1.ripe theMethod args0 below0 = true := by decide +kernel
theorem w_running : about1.status = .running := rfl
set_option maxRecDepth 65536 in
theorem w_room : about1.hasRoom e0.platform room_1 = true :=
  launch0.hasRoom_least _ room_1 (by decide +kernel) (by decide +kernel) (by decide +kernel) (by decide +kernel) (by decide +kernel) (by decide +kernel)
theorem allAtoms_all (ts : List Jvm.Cond) (a : Array Jvm.Value) (st : Jvm.State) : (allAtoms ts).before a st = ts.all (fun c => c.before a st) := by
  induction ts with
  | nil => rfl
  | cons c t ih =>
    show (Jvm.Cond.and c (allAtoms t)).before a st = _
    rw [Jvm.Cond.before_and, ih, List.all_cons]
def words1 : List Jvm.Cond := Jvm.Cond.code x code maxLocals ret :: tables_1
/-- a 'code' word, met by the world's own term for the bytes: nothing is compared byte by byte -/
theorem code_word {y : MethodName} {bytes : ByteArray} {mx : Nat} {rt : Option FieldType} {a : Array Value} {s : State} {m : MethodId} {meth : Method} {c : Code} (h1 : s.methodNamed? y = some m) (h2 : s.vm.method? m = some meth) (h3 : meth.code = some c) (h4 : c.code = bytes)
    (h5 : (c.maxLocals == mx && c.exceptionTable.isEmpty && decide (c.maxStack ≤ mostOperands) && decide (meth.sig.returnType = rt) && !meth.locks && decide (parseMethodDescriptor y.desc = some meth.sig)) = true) : (Jvm.Cond.code y bytes mx rt).before a s = true := by
  simp only [Bool.and_eq_true, beq_iff_eq, Bool.not_eq_true', decide_eq_true_eq] at h5
  obtain ⟨⟨⟨⟨⟨g1, g2⟩, g3⟩, g4⟩, g5⟩, g6⟩ := h5
  simp [Cond.before, Cond.holds, Cond.value, h1, h2, h3, h4, g1, g2, g3, g4, g5, g6]
def isCode : Jvm.Cond → Bool
  | .code _ _ _ _ => true
  | _ => false
theorem all_split {L : List Jvm.Cond} {P : Jvm.Cond → Bool} (h1 : L.all (fun c => isCode c || P c) = true) (h2 : ∀ c ∈ L.filter isCode, P c = true) : L.all P = true := by
  refine List.all_eq_true.mpr fun c hc => ?_
  have h := List.all_eq_true.mp h1 c hc
  rcases Bool.eq_false_or_eq_true (isCode c) with hi | hi
  · exact h2 c (List.mem_filter.mpr ⟨hc, hi⟩)
  · simpa [hi] using h
set_option maxRecDepth 65536 in
theorem w_c0 : (Jvm.Cond.code x code maxLocals ret).before args0 about1 = true := code_word (m := ⟨1, 1⟩) (meth := k1m1) (c := k1c1) (by decide +kernel) rfl rfl rfl (by decide +kernel)
set_option maxRecDepth 65536 in
theorem w_c1 : (Jvm.Cond.code ({ cls := "com/example/vaultwright/vaultwright/http/HttpLimits", name := "headCost", desc := "(JJ)J" } : Jvm.MethodName) prog_27_method_2_code (4 : Nat) (Option.some Jvm.ClassFile.FieldType.long)).before args0 about1 = true := code_word (m := ⟨3, 0⟩) (meth := k3m0) (c := k3c0) (by decide +kernel) rfl rfl rfl (by decide +kernel)
def codes1 : List Jvm.Cond := [Jvm.Cond.code x code maxLocals ret, Jvm.Cond.code ({ cls := "com/example/vaultwright/vaultwright/http/HttpLimits", name := "headCost", desc := "(JJ)J" } : Jvm.MethodName) prog_27_method_2_code (4 : Nat) (Option.some Jvm.ClassFile.FieldType.long)]
set_option maxRecDepth 65536 in
theorem codes_eq : words1.filter isCode = codes1 := rfl
theorem w_codes : ∀ c ∈ words1.filter isCode, c.before args0 about1 = true := by
  rw [codes_eq]
  intro c hc
  simp only [codes1, List.mem_cons, List.not_mem_nil, or_false] at hc
  rcases hc with rfl | rfl
  · exact w_c0
  · exact w_c1
set_option maxRecDepth 65536 in
theorem w_t1 : words1.all (fun c => isCode c || c.before args0 about1) = true := by decide +kernel
theorem w_tables : (allAtoms (Jvm.Cond.code x code maxLocals ret :: tables_1)).before args0 about1 = true := by
  rw [allAtoms_all]
  show words1.all (fun c => c.before args0 about1) = true
  refine all_split ?_ w_codes
  rw [w_t1]
set_option maxRecDepth 65536 in
theorem w_case : (Jvm.Cond.and given_1 narrow_1).before args0 about1 = true := by decide +kernel
theorem w_applies : (headSpec (Jvm.Cond.code x code maxLocals ret :: tables_1) room_1).applies x e0.platform about1 = true :=
  (Spec.applies_iff w_frames).mpr ⟨w_running, w_runnable, w_alone, w_named, w_hears, w_ripe, w_room, w_tables⟩
theorem atStart : AtStart classFile x code maxLocals ret World_1 tables_1 room_1 Calls_1 rest_1 Pre_1 launch0 p0 e0 about1 theMethod args0 below0 :=
  ⟨lists_1, trivial, launch0.admits_env _ _ _, launch0.least_env, fairChoices_fair.cas, fairChoices_fair.clock, w_frames, w_args, w_heap, w_applies, trivial, trivial, w_case⟩
end start1
theorem witness_1 : WitnessClaimed_1 := ⟨start1.p0, start1.e0, start1.about1, start1.theMethod, start1.args0, start1.below0, start1.atStart⟩
end Jvm.Pilot.@@N@@
