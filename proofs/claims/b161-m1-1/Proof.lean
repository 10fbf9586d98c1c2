import JvmDerived
import JvmDerived.Pilot.@@N@@Statement
import JvmDerived.Pilot.@@N@@Code
set_option linter.unusedVariables false
set_option linter.unusedSimpArgs false
namespace Jvm.RoadKit
open Sem ClassFile Op Lib Jvm.Stand Jvm.Free Jvm.LawKit
section New
variable {p : Program} {l : Launch} {e : Env} {R : Room} {s : State} {m : MethodId} {args : Array Value} {below : List Frame} {meth : Method} {c : Code} {T : State} {locs : List Loc} {cells slots : Nat}
/-- what a body hands back: the value r, and K of the heap and the places at its end -/
def own_Q (r : Option Value) (K : Heap → List Loc → Prop) (v : Option Value) (h : Heap) (L : List Loc) : Prop := v = r ∧ K h L
/-- nothing is written, nothing is made -/
def own_K0 (h0 : Heap) (h : Heap) (L : List Loc) : Prop := L = [] ∧ h = h0
/-- from F on the run returns r with K -/
def own_Go (p : Program) (e : Env) (below : List Frame) (s : State) (C N : Nat) (r : Option Value) (K : Heap → List Loc → Prop) (F : State) : Prop :=
  ∃ s₂ o, Steps p.tables e below F s₂ ∧ s₂.status = .running ∧ Ended s₂ below o ∧ ∃ v L, o = .returned v ∧ own_Q r K v s₂.heap L ∧ FrameEnd s o s₂ L C N
theorem own_pre {C N : Nat} {r : Option Value} {K : Heap → List Loc → Prop} {F F' : State} (h : ∀ t, Steps p.tables e below F' t → Steps p.tables e below F t) (g : own_Go p e below s C N r K F') : own_Go p e below s C N r K F := by
  obtain ⟨t, o, a, b⟩ := g
  exact ⟨t, o, h t a, b⟩
theorem own_iteI {C N : Nat} {K : Heap → List Loc → Prop} {F : State} {P : Prop} [Decidable P] {a b : Int32} (h1 : P → own_Go p e below s C N (some (.int a)) K F) (h2 : ¬ P → own_Go p e below s C N (some (.int b)) K F) : own_Go p e below s C N (some (.int (if P then a else b))) K F := by
  by_cases q : P
  · rw [if_pos q]; exact h1 q
  · rw [if_neg q]; exact h2 q
theorem own_iteJ {C N : Nat} {K : Heap → List Loc → Prop} {F : State} {P : Prop} [Decidable P] {a b : Int64} (h1 : P → own_Go p e below s C N (some (.long a)) K F) (h2 : ¬ P → own_Go p e below s C N (some (.long b)) K F) : own_Go p e below s C N (some (.long (if P then a else b))) K F := by
  by_cases q : P
  · rw [if_pos q]; exact h1 q
  · rw [if_neg q]; exact h2 q
theorem own_iteR {C N : Nat} {K : Heap → List Loc → Prop} {F : State} {P : Prop} [Decidable P] {a b : Addr} (h1 : P → own_Go p e below s C N (some (.ref a)) K F) (h2 : ¬ P → own_Go p e below s C N (some (.ref b)) K F) : own_Go p e below s C N (some (.ref (if P then a else b))) K F := by
  by_cases q : P
  · rw [if_pos q]; exact h1 q
  · rw [if_neg q]; exact h2 q
theorem own_iteV {C N : Nat} {K : Heap → List Loc → Prop} {F : State} {P : Prop} [Decidable P] {a b : Value} (h1 : P → own_Go p e below s C N (some a) K F) (h2 : ¬ P → own_Go p e below s C N (some b) K F) : own_Go p e below s C N (some (if P then a else b)) K F := by
  by_cases q : P
  · rw [if_pos q]; exact h1 q
  · rw [if_neg q]; exact h2 q
theorem own_ret (X : Stand p l e R s m args below meth c T locs cells slots) (hx : p.tables.exec = Jvm.exec) (hlocks : meth.locks = false) {pc : Nat} {Ls : Array Slot} {w : Value} {t : FieldType} {i : Instr} {rest : List Value} {C N : Nat} {K : Heap → List Loc → Prop} (hret : meth.sig.returnType = some t) (hn : narrow t w = w)
    (hi : (i = .ireturn ∧ (t = .int ∨ t = .boolean ∨ t = .byte ∨ t = .char ∨ t = .short) ∧ ∃ z, w = .int z) ∨ (i = .lreturn ∧ t = .long ∧ ∃ z, w = .long z) ∨ (i = .areturn ∧ t.isReference = true ∧ w.isRef = true))
    (hd : decode c.code pc = .ok (i, 1)) (hK : K T.heap locs) (hC : cells ≤ C) (hN : slots ≤ N) : own_Go p e below s C N (some w) K (T.setTop (mkF m pc Ls (w :: rest))) := by
  obtain ⟨fs, hr, hrun, hended, hW, hsame⟩ := X.leave (v := some w) (fun h => by rw [hret] at h; cases h)
  refine ⟨_, _, retOut X hx hret hn ?_ hd hr, hrun, hended, _, _, rfl, ⟨rfl, hK⟩, ⟨_, rfl⟩, hW, hsame.mono hC hN⟩
  rcases hi with h | h | h
  · exact Or.inl h
  · exact Or.inr (Or.inl h)
  · exact Or.inr (Or.inr (Or.inr (Or.inr h)))
theorem own_retN (X : Stand p l e R s m args below meth c T locs cells slots) (hx : p.tables.exec = Jvm.exec) (hlocks : meth.locks = false) {pc : Nat} {Ls : Array Slot} {z : Int32} {t : FieldType} {rest : List Value} {C N : Nat} {K : Heap → List Loc → Prop} (hret : meth.sig.returnType = some t) (ht : t = .boolean ∨ t = .byte ∨ t = .char ∨ t = .short)
    (hd : decode c.code pc = .ok (.ireturn, 1)) (hK : K T.heap locs) (hC : cells ≤ C) (hN : slots ≤ N) : own_Go p e below s C N (some (.int (nar t z))) K (T.setTop (mkF m pc Ls (.int z :: rest))) := by
  obtain ⟨fs, hr, hrun, hended, hW, hsame⟩ := X.leave (v := some (.int (nar t z))) (fun h => by rw [hret] at h; cases h)
  exact ⟨_, _, retN X hx hret ht hd hr, hrun, hended, _, _, rfl, ⟨rfl, hK⟩, ⟨_, rfl⟩, hW, hsame.mono hC hN⟩
theorem own_retV (X : Stand p l e R s m args below meth c T locs cells slots) (hx : p.tables.exec = Jvm.exec) (hlocks : meth.locks = false) {pc : Nat} {Ls : Array Slot} {C N : Nat} {K : Heap → List Loc → Prop} (hret : meth.sig.returnType = none)
    (hd : decode c.code pc = .ok (.return_, 1)) (hK : K T.heap locs) (hC : cells ≤ C) (hN : slots ≤ N) : own_Go p e below s C N none K (T.setTop (mkF m pc Ls [])) := by
  obtain ⟨fs, hr, hrun, hended, hW, hsame⟩ := X.leave (v := none) (fun _ => rfl)
  exact ⟨_, _, X.returnOut hx hret hd hr, hrun, hended, _, _, rfl, ⟨rfl, hK⟩, ⟨_, rfl⟩, hW, hsame.mono hC hN⟩
theorem own_lremM {g : JFrame} {target : State} (X : Stand p l e R s m args below meth c T locs cells slots) (hx : p.tables.exec = Jvm.exec) (hg : g.method = m) {x y : Int64} {rest : List Value} (hd : decode c.code g.pc = .ok (.lrem, 1)) (hs : g.stack = .long y :: .long x :: rest) (hy : y ≠ 0)
    (hr : Steps p.tables e below (T.setTop { g with pc := g.pc + 1, stack := .long (x % y) :: rest }) target) : Steps p.tables e below (T.setTop g) target :=
  XS.lrem X.here hx hg hd hs hy (by rw [lrem_mod]; exact hr)
theorem own_nar (z : Int32) : nar .boolean z = z &&& 1 := rfl
end New
end Jvm.RoadKit
namespace Jvm.Pilot.@@N@@
open Jvm Jvm.ClassFile Sem Op Lib Jvm.Free Jvm.Stand Jvm.LawKit Jvm.RoadKit Bundle Jvm.Pilot.@@N@@.Jvm.D
theorem own_eqI {t : Term} {n : Int32} {args : Array Value} {s : State} (h : (Jvm.Cond.eq t (.int n)).value args s none s [] = some true) : t.eval args s none [] s = some (.int n) := by
  simp only [Cond.value] at h
  have hn : (Term.int n).eval args s none [] s = some (.int n) := rfl
  rw [hn] at h
  cases ht : t.eval args s none [] s with
  | none => simp [ht] at h
  | some v => cases v <;> simp [ht] at h ⊢; exact h
/-! body 1 -/
theorem d1_0 : decode prog_7_method_4_code 0 = .ok (.aload_n 0, 1) := by decide +kernel
theorem d1_1 : decode prog_7_method_4_code 1 = .ok (.getstatic 7, 3) := by decide +kernel
theorem d1_4 : decode prog_7_method_4_code 4 = .ok (.if_acmp .eq 7, 3) := by decide +kernel
theorem d1_7 : decode prog_7_method_4_code 7 = .ok (.iconst 1, 1) := by decide +kernel
theorem d1_8 : decode prog_7_method_4_code 8 = .ok (.goto 4, 3) := by decide +kernel
theorem d1_11 : decode prog_7_method_4_code 11 = .ok (.iconst 0, 1) := by decide +kernel
theorem d1_12 : decode prog_7_method_4_code 12 = .ok (.ireturn, 1) := by decide +kernel
theorem own_pn0 : plainName "com/example/ord3/ord3/Role" = true := by first | (simp [plainName, overriddenIn]; done) | decide +kernel
def f1_0 (a0 : Addr) (w_LOOKING : Addr) : Int32 := (if a0 = w_LOOKING then (0 : Int32) else (1 : Int32))
set_option maxRecDepth 65536 in
set_option maxHeartbeats 40000000 in
theorem g1_0 {p : Program} {l : Launch} {e : Env} {s : State} {m : MethodId} {below : List Frame} {meth : Method} {c : Code} {s₁ : State} {ws : List Jvm.Cond} {Z : State} {aw : Array Value} (hw : ∀ d ∈ tables_1, d.before aw Z = true) {h0 : Heap} (a0 : Addr) (w_LOOKING : Addr) (Sw_LOOKING : Sta Z h0 "com/example/ord3/ord3/Role" "LOOKING" "Lcom/example/ord3/ord3/Role;" (.ref w_LOOKING))
    (Bd : BodyLoose p l (⟨"com/example/ord3/ord3/Role", "servesSessions", "()Z"⟩ : MethodName) (head1 (Jvm.Cond.code (⟨"com/example/ord3/ord3/Role", "servesSessions", "()Z"⟩ : MethodName) prog_7_method_4_code 1 (some .boolean) :: ws) ({ frames := 0, cells := 0, slots := 0, locals := 0 } : Room)) prog_7_method_4_code 1 (some .boolean) e s m #[(.ref a0)] below meth c s₁) (hml : c.maxLocals = 1) (hZ : Z.Warmed39 s.vm) (T0 : State) (X0 : Stand p l e ({ frames := 0, cells := 0, slots := 0, locals := 0 } : Room) s m #[(.ref a0)] below meth c T0 [] 0 0) (e0 : T0.heap = h0) :
    own_Go p e below s ({ frames := 0, cells := 0, slots := 0, locals := 0 } : Room).cells ({ frames := 0, cells := 0, slots := 0, locals := 0 } : Room).slots (some (.int (f1_0 a0 w_LOOKING))) (own_K0 h0) (T0.setTop (mkF m 0 #[.val (.ref a0)] [])) := by
  have hx := Bd.exec
  have hby := Bd.bytes
  have hown : s.vm.findClass "com/example/ord3/ord3/Role" = some m.cls := findClass_of_methodNamed Bd.named
  unfold f1_0
  refine own_pre (F' := T0.setTop (mkF m 1 #[.val (.ref a0)] [(.ref a0)])) (fun _ k => XS.aloadN X0.here hx rfl (hb hby d1_0) rfl rfl k) ?_
  obtain ⟨T1, X1, e1, st'⟩ := getS2 X0 hx hZ hown (host := "") (Or.inl (hw _ (List.mem_of_getElem? (i := 8) rfl))) Via.refl e0 Sw_LOOKING (g := (mkF m 1 #[.val (.ref a0)] [(.ref a0)])) rfl (hb hby d1_1)
  refine own_pre (F' := T1.setTop (mkF m 4 #[.val (.ref a0)] [(.ref w_LOOKING), (.ref a0)])) (fun t k => st' t k) ?_
  refine own_iteI (fun ha4 => ?_) (fun ha4 => ?_)
  · skip
    refine own_pre (F' := T1.setTop (mkF m 11 #[.val (.ref a0)] [])) (fun _ k => Jvm.RoadKit.acmp (g := (mkF m 4 #[.val (.ref a0)] [(.ref w_LOOKING), (.ref a0)])) X1 hx rfl rfl rfl (pc0 := 4) (pc' := 11) (same := true) rfl (hb hby d1_4) rfl (decide_eq_true (congrArg Value.ref ha4)) (by decide) (by decide) k) ?_
    refine own_pre (F' := T1.setTop (mkF m 12 #[.val (.ref a0)] [(.int (0 : Int32))])) (fun _ k => XS.iconst X1.here hx rfl (hb hby d1_11) k) ?_
    exact own_ret X1 hx Bd.notSynchronized Bd.returns rfl (Or.inl ⟨rfl, by simp, _, rfl⟩) (hb hby d1_12) ⟨rfl, e1⟩ (by decide) (by decide)
  · skip
    refine own_pre (F' := T1.setTop (mkF m 7 #[.val (.ref a0)] [])) (fun _ k => Jvm.RoadKit.acmp (g := (mkF m 4 #[.val (.ref a0)] [(.ref w_LOOKING), (.ref a0)])) X1 hx rfl rfl rfl (pc0 := 4) (pc' := 7) (same := false) rfl (hb hby d1_4) rfl (decide_eq_false fun q => ha4 (Value.ref.inj q)) (by decide) (by decide) k) ?_
    refine own_pre (F' := T1.setTop (mkF m 8 #[.val (.ref a0)] [(.int (1 : Int32))])) (fun _ k => XS.iconst X1.here hx rfl (hb hby d1_7) k) ?_
    refine own_pre (F' := T1.setTop (mkF m 12 #[.val (.ref a0)] [(.int (1 : Int32))])) (fun _ k => XS.goto X1.here hx rfl (pc0 := 8) (pc' := 12) rfl (hb hby d1_8) (by decide) (by decide) k) ?_
    exact own_ret X1 hx Bd.notSynchronized Bd.returns rfl (Or.inl ⟨rfl, by simp, _, rfl⟩) (hb hby d1_12) ⟨rfl, e1⟩ (by decide) (by decide)
theorem ef_1 (m : MethodId) (a0 : Addr) : entryFrame m #[(.ref a0)] 1 = mkF m 0 #[.val (.ref a0)] [] := by first | (simp [entryFrame, mkF, argsToLocals, Value.category]; done) | rfl
set_option maxRecDepth 65536 in
set_option maxHeartbeats 40000000 in
theorem rm1 (l : Launch) (Z : State) (aw : Array Value) (hw : ∀ d ∈ tables_1, d.before aw Z = true) (ws : List Jvm.Cond) (a0 : Addr) (w_LOOKING : Addr) (h0 : Heap) (Sw_LOOKING : Sta Z h0 "com/example/ord3/ord3/Role" "LOOKING" "Lcom/example/ord3/ord3/Role;" (.ref w_LOOKING)) :
    MetFree l (⟨"com/example/ord3/ord3/Role", "servesSessions", "()Z"⟩ : MethodName) (head1 (Jvm.Cond.code (⟨"com/example/ord3/ord3/Role", "servesSessions", "()Z"⟩ : MethodName) prog_7_method_4_code 1 (some .boolean) :: ws) ({ frames := 0, cells := 0, slots := 0, locals := 0 } : Room)) (fun a U => a = #[(.ref a0)] ∧ Z.Warmed39 U.vm ∧ U.heap = h0) (fun _ _ _ _ _ => True) (fun _ U o U' => ∃ v L, o = .returned v ∧ own_Q (some (.int (f1_0 a0 w_LOOKING))) (own_K0 h0) v U'.heap L ∧ FrameEnd U o U' L ({ frames := 0, cells := 0, slots := 0, locals := 0 } : Room).cells ({ frames := 0, cells := 0, slots := 0, locals := 0 } : Room).slots) := by
  refine MetFree.of_bodySF (plainFor_of_name own_pn0) hisR ?_
  intro p e s m args below meth c s₁ Bd hml0 hP hK
  obtain ⟨rfl, hZ, hh⟩ := hP
  have hml : c.maxLocals = 1 := hml0
  have e0 : s₁.heap = h0 := by rw [← hh, Bd.state]; rfl
  exact own_pre (fun t k => castTop (ef_1 m a0) k) (g1_0 hw a0 w_LOOKING Sw_LOOKING Bd hml hZ s₁ (Stand.of_body Bd) e0)
theorem own_pd0 : parseMethodDescriptor "()Z" = some ⟨[], some .boolean⟩ := by decide +kernel
/-! body 0 -/
theorem own_pn1 : plainName "com/example/ord3/ord3/RoleServesSessionsPinLaw" = true := by first | (simp [plainName, overriddenIn]; done) | decide +kernel
def f0_0 (p0 : Int32) (w_STANDALONE : Addr) (w_LOOKING : Addr) (w_FOLLOWING : Addr) (w_LEADING : Addr) : Int32 := (if (p0 &&& (3 : Int32)) = (0 : Int32) then (if (f1_0 w_STANDALONE w_LOOKING) = (1 : Int32) then (1 : Int32) else (0 : Int32)) else (if (p0 &&& (3 : Int32)) = (1 : Int32) then (if (f1_0 w_LOOKING w_LOOKING) = (0 : Int32) then (1 : Int32) else (0 : Int32)) else (if (p0 &&& (3 : Int32)) = (2 : Int32) then (if (f1_0 w_FOLLOWING w_LOOKING) = (1 : Int32) then (1 : Int32) else (0 : Int32)) else (if (f1_0 w_LEADING w_LOOKING) = (1 : Int32) then (1 : Int32) else (0 : Int32)))))
set_option maxRecDepth 65536 in
set_option maxHeartbeats 40000000 in
theorem g0_0 {p : Program} {l : Launch} {e : Env} {s : State} {m : MethodId} {below : List Frame} {meth : Method} {c : Code} {s₁ : State} {ws : List Jvm.Cond} {Z : State} {aw : Array Value} (hw : ∀ d ∈ tables_1, d.before aw Z = true) {h0 : Heap} (p0 : Int32) (w_STANDALONE : Addr) (w_LOOKING : Addr) (w_FOLLOWING : Addr) (w_LEADING : Addr) (Sw_STANDALONE : Sta Z h0 "com/example/ord3/ord3/Role" "STANDALONE" "Lcom/example/ord3/ord3/Role;" (.ref w_STANDALONE)) (Sw_LOOKING : Sta Z h0 "com/example/ord3/ord3/Role" "LOOKING" "Lcom/example/ord3/ord3/Role;" (.ref w_LOOKING)) (Sw_FOLLOWING : Sta Z h0 "com/example/ord3/ord3/Role" "FOLLOWING" "Lcom/example/ord3/ord3/Role;" (.ref w_FOLLOWING)) (Sw_LEADING : Sta Z h0 "com/example/ord3/ord3/Role" "LEADING" "Lcom/example/ord3/ord3/Role;" (.ref w_LEADING)) (Ew_STANDALONE : Exa Z h0 w_STANDALONE "com/example/ord3/ord3/Role") (Ew_LOOKING : Exa Z h0 w_LOOKING "com/example/ord3/ord3/Role") (Ew_FOLLOWING : Exa Z h0 w_FOLLOWING "com/example/ord3/ord3/Role") (Ew_LEADING : Exa Z h0 w_LEADING "com/example/ord3/ord3/Role")
    (Bd : BodyLoose p l x (head1 (Jvm.Cond.code x code maxLocals ret :: ws) room_1) code maxLocals ret e s m #[(.int p0)] below meth c s₁) (hml : c.maxLocals = 4) (hZ : Z.Warmed39 s.vm) (T0 : State) (X0 : Stand p l e room_1 s m #[(.int p0)] below meth c T0 [] 0 0) (e0 : T0.heap = h0) :
    own_Go p e below s room_1.cells room_1.slots (some (.int (f0_0 p0 w_STANDALONE w_LOOKING w_FOLLOWING w_LEADING))) (own_K0 h0) (T0.setTop (mkF m 0 #[.val (.int p0), .unset, .unset, .unset] [])) := by
  have hx := Bd.exec
  have hby := Bd.bytes
  have hown : s.vm.findClass "com/example/ord3/ord3/RoleServesSessionsPinLaw" = some m.cls := findClass_of_methodNamed Bd.named
  unfold f0_0
  refine own_pre (F' := T0.setTop (mkF m 1 #[.val (.int p0), .unset, .unset, .unset] [(.int p0)])) (fun _ k => XS.iloadN X0.here hx rfl (hb hby at_0) rfl k) ?_
  refine own_pre (F' := T0.setTop (mkF m 2 #[.val (.int p0), .unset, .unset, .unset] [(.int (3 : Int32)), (.int p0)])) (fun _ k => XS.iconst X0.here hx rfl (hb hby at_1) k) ?_
  refine own_pre (F' := T0.setTop (mkF m 3 #[.val (.int p0), .unset, .unset, .unset] [(.int (p0 &&& (3 : Int32)))])) (fun _ k => XS.iand X0.here hx rfl (hb hby at_2) rfl k) ?_
  refine own_pre (F' := T0.setTop (mkF m 4 #[.val (.int p0), .val (.int (p0 &&& (3 : Int32))), .unset, .unset] [])) (fun _ k => XS.istoreN X0.here hx rfl (hb hby at_3) rfl (l' := #[.val (.int p0), .val (.int (p0 &&& (3 : Int32))), .unset, .unset]) rfl k) ?_
  refine own_pre (F' := T0.setTop (mkF m 5 #[.val (.int p0), .val (.int (p0 &&& (3 : Int32))), .unset, .unset] [(.int (p0 &&& (3 : Int32)))])) (fun _ k => XS.iloadN X0.here hx rfl (hb hby at_4) rfl k) ?_
  refine own_iteI (fun hc5 => ?_) (fun hc5 => ?_)
  · skip
    refine own_pre (F' := T0.setTop (mkF m 8 #[.val (.int p0), .val (.int (p0 &&& (3 : Int32))), .unset, .unset] [])) (fun _ k => XS.ifNo X0.here hx rfl (hb hby at_5) rfl ((if0 _ _).trans (teq hc5).2) k) ?_
    obtain ⟨T1, X1, e1, st'⟩ := getS2 X0 hx hZ hown (host := "") (Or.inl (hw _ (List.mem_of_getElem? (i := 0) rfl))) Via.refl e0 Sw_STANDALONE (g := (mkF m 8 #[.val (.int p0), .val (.int (p0 &&& (3 : Int32))), .unset, .unset] [])) rfl (hb hby at_8)
    refine own_pre (F' := T1.setTop (mkF m 11 #[.val (.int p0), .val (.int (p0 &&& (3 : Int32))), .unset, .unset] [(.ref w_STANDALONE)])) (fun t k => st' t k) ?_
    refine own_pre (F' := T1.setTop (mkF m 12 #[.val (.int p0), .val (.int (p0 &&& (3 : Int32))), .val (.ref w_STANDALONE), .unset] [])) (fun _ k => XS.astoreN X1.here hx rfl (hb hby at_11) rfl rfl (l' := #[.val (.int p0), .val (.int (p0 &&& (3 : Int32))), .val (.ref w_STANDALONE), .unset]) rfl k) ?_
    refine own_pre (F' := T1.setTop (mkF m 13 #[.val (.int p0), .val (.int (p0 &&& (3 : Int32))), .val (.ref w_STANDALONE), .unset] [(.int (1 : Int32))])) (fun _ k => XS.iconst X1.here hx rfl (hb hby at_12) k) ?_
    refine own_pre (F' := T1.setTop (mkF m 14 #[.val (.int p0), .val (.int (p0 &&& (3 : Int32))), .val (.ref w_STANDALONE), .val (.int (1 : Int32))] [])) (fun _ k => XS.istoreN X1.here hx rfl (hb hby at_13) rfl (l' := #[.val (.int p0), .val (.int (p0 &&& (3 : Int32))), .val (.ref w_STANDALONE), .val (.int (1 : Int32))]) rfl k) ?_
    refine own_pre (F' := T1.setTop (mkF m 51 #[.val (.int p0), .val (.int (p0 &&& (3 : Int32))), .val (.ref w_STANDALONE), .val (.int (1 : Int32))] [])) (fun _ k => XS.goto X1.here hx rfl (pc0 := 14) (pc' := 51) rfl (hb hby at_14) (by decide) (by decide) k) ?_
    refine own_pre (F' := T1.setTop (mkF m 52 #[.val (.int p0), .val (.int (p0 &&& (3 : Int32))), .val (.ref w_STANDALONE), .val (.int (1 : Int32))] [(.ref w_STANDALONE)])) (fun _ k => XS.aloadN X1.here hx rfl (hb hby at_51) rfl rfl k) ?_
    obtain ⟨cq', kq', qa', qb', qc'⟩ := isOf hZ e1 Ew_STANDALONE
    obtain ⟨_, _, ⟨T2, L', k', n'⟩, -, X'', ⟨Lc', hQ', l', y', z'⟩, st'⟩ := X1.virtualBack hx (y := (⟨"com/example/ord3/ord3/Role", "servesSessions", "()Z"⟩ : MethodName)) (z := (⟨"com/example/ord3/ord3/Role", "servesSessions", "()Z"⟩ : MethodName)) hown (mvT hZ (hw _ (List.mem_of_getElem? (i := 3) rfl))) (mvT hZ (hw _ (List.mem_of_getElem? (i := 4) rfl))) (notFace_of_selects (args := #[]) (mvT hZ (hw _ (List.mem_of_getElem? (i := 6) rfl)))) (mvT hZ (hw _ (List.mem_of_getElem? (i := 6) rfl))) (mvT hZ (hw _ (List.mem_of_getElem? (i := 5) rfl))) (by decide) (backOf (W := 0) (rm1 l Z aw hw [] w_STANDALONE w_LOOKING h0 Sw_LOOKING) hZ (hw _ (List.mem_of_getElem? (i := 7) rfl)) (hw _ (List.mem_of_getElem? (i := 1) rfl)) (by decide) (by decide)) qa' qc' (g := (mkF m 52 #[.val (.int p0), .val (.int (p0 &&& (3 : Int32))), .val (.ref w_STANDALONE), .val (.int (1 : Int32))] [(.ref w_STANDALONE)])) rfl (by rw [hml]; rfl) (Steps.refl _) (argsL := []) (rest := []) (lenOf own_pd0 rfl) rfl (by show 2 * 0 + _ ≤ _; exact Nat.le_of_eq rfl) (hb hby at_52) (fun _ _ => ⟨rfl, e1, (by decide : 0 + 0 ≤ _), (by decide : 0 + 0 ≤ _)⟩)
    dsimp only [Pt.U, Pt.locs, Pt.cells, Pt.slots] at X'' l' y' z' st' hQ'
    subst l' y' z'
    obtain ⟨rfl, rfl, e2⟩ := hQ'
    have X2 : Stand p l e room_1 s m #[(.int p0)] below meth c T2 [] 0 0 := X''
    refine own_pre (F' := T2.setTop (mkF m 55 #[.val (.int p0), .val (.int (p0 &&& (3 : Int32))), .val (.ref w_STANDALONE), .val (.int (1 : Int32))] [(.int (f1_0 w_STANDALONE w_LOOKING))])) (fun t k => st'.trans k) ?_
    refine own_pre (F' := T2.setTop (mkF m 56 #[.val (.int p0), .val (.int (p0 &&& (3 : Int32))), .val (.ref w_STANDALONE), .val (.int (1 : Int32))] [(.int (1 : Int32)), (.int (f1_0 w_STANDALONE w_LOOKING))])) (fun _ k => XS.iloadN X2.here hx rfl (hb hby at_55) rfl k) ?_
    refine own_iteI (fun hc56 => ?_) (fun hc56 => ?_)
    · skip
      refine own_pre (F' := T2.setTop (mkF m 59 #[.val (.int p0), .val (.int (p0 &&& (3 : Int32))), .val (.ref w_STANDALONE), .val (.int (1 : Int32))] [])) (fun _ k => XS.icmpNo X2.here hx rfl (hb hby at_56) rfl (teq hc56).2 k) ?_
      refine own_pre (F' := T2.setTop (mkF m 60 #[.val (.int p0), .val (.int (p0 &&& (3 : Int32))), .val (.ref w_STANDALONE), .val (.int (1 : Int32))] [(.int (1 : Int32))])) (fun _ k => XS.iconst X2.here hx rfl (hb hby at_59) k) ?_
      refine own_pre (F' := T2.setTop (mkF m 64 #[.val (.int p0), .val (.int (p0 &&& (3 : Int32))), .val (.ref w_STANDALONE), .val (.int (1 : Int32))] [(.int (1 : Int32))])) (fun _ k => XS.goto X2.here hx rfl (pc0 := 60) (pc' := 64) rfl (hb hby at_60) (by decide) (by decide) k) ?_
      exact own_ret X2 hx Bd.notSynchronized Bd.returns rfl (Or.inl ⟨rfl, by simp, _, rfl⟩) (hb hby at_64) ⟨rfl, e2⟩ (by decide) (by decide)
    · skip
      refine own_pre (F' := T2.setTop (mkF m 63 #[.val (.int p0), .val (.int (p0 &&& (3 : Int32))), .val (.ref w_STANDALONE), .val (.int (1 : Int32))] [])) (fun _ k => XS.icmpYes X2.here hx rfl (pc0 := 56) (pc' := 63) rfl (hb hby at_56) rfl (feq hc56).2 (by decide) (by decide) k) ?_
      refine own_pre (F' := T2.setTop (mkF m 64 #[.val (.int p0), .val (.int (p0 &&& (3 : Int32))), .val (.ref w_STANDALONE), .val (.int (1 : Int32))] [(.int (0 : Int32))])) (fun _ k => XS.iconst X2.here hx rfl (hb hby at_63) k) ?_
      exact own_ret X2 hx Bd.notSynchronized Bd.returns rfl (Or.inl ⟨rfl, by simp, _, rfl⟩) (hb hby at_64) ⟨rfl, e2⟩ (by decide) (by decide)
  · skip
    refine own_pre (F' := T0.setTop (mkF m 17 #[.val (.int p0), .val (.int (p0 &&& (3 : Int32))), .unset, .unset] [])) (fun _ k => XS.ifYes X0.here hx rfl (pc0 := 5) (pc' := 17) rfl (hb hby at_5) rfl ((if0 _ _).trans (feq hc5).2) (by decide) (by decide) k) ?_
    refine own_pre (F' := T0.setTop (mkF m 18 #[.val (.int p0), .val (.int (p0 &&& (3 : Int32))), .unset, .unset] [(.int (p0 &&& (3 : Int32)))])) (fun _ k => XS.iloadN X0.here hx rfl (hb hby at_17) rfl k) ?_
    refine own_pre (F' := T0.setTop (mkF m 19 #[.val (.int p0), .val (.int (p0 &&& (3 : Int32))), .unset, .unset] [(.int (1 : Int32)), (.int (p0 &&& (3 : Int32)))])) (fun _ k => XS.iconst X0.here hx rfl (hb hby at_18) k) ?_
    refine own_iteI (fun hc19 => ?_) (fun hc19 => ?_)
    · skip
      refine own_pre (F' := T0.setTop (mkF m 22 #[.val (.int p0), .val (.int (p0 &&& (3 : Int32))), .unset, .unset] [])) (fun _ k => XS.icmpNo X0.here hx rfl (hb hby at_19) rfl (teq hc19).2 k) ?_
      obtain ⟨T3, X3, e3, st'⟩ := getS2 X0 hx hZ hown (host := "") (Or.inl (hw _ (List.mem_of_getElem? (i := 14) rfl))) Via.refl e0 Sw_LOOKING (g := (mkF m 22 #[.val (.int p0), .val (.int (p0 &&& (3 : Int32))), .unset, .unset] [])) rfl (hb hby at_22)
      refine own_pre (F' := T3.setTop (mkF m 25 #[.val (.int p0), .val (.int (p0 &&& (3 : Int32))), .unset, .unset] [(.ref w_LOOKING)])) (fun t k => st' t k) ?_
      refine own_pre (F' := T3.setTop (mkF m 26 #[.val (.int p0), .val (.int (p0 &&& (3 : Int32))), .val (.ref w_LOOKING), .unset] [])) (fun _ k => XS.astoreN X3.here hx rfl (hb hby at_25) rfl rfl (l' := #[.val (.int p0), .val (.int (p0 &&& (3 : Int32))), .val (.ref w_LOOKING), .unset]) rfl k) ?_
      refine own_pre (F' := T3.setTop (mkF m 27 #[.val (.int p0), .val (.int (p0 &&& (3 : Int32))), .val (.ref w_LOOKING), .unset] [(.int (0 : Int32))])) (fun _ k => XS.iconst X3.here hx rfl (hb hby at_26) k) ?_
      refine own_pre (F' := T3.setTop (mkF m 28 #[.val (.int p0), .val (.int (p0 &&& (3 : Int32))), .val (.ref w_LOOKING), .val (.int (0 : Int32))] [])) (fun _ k => XS.istoreN X3.here hx rfl (hb hby at_27) rfl (l' := #[.val (.int p0), .val (.int (p0 &&& (3 : Int32))), .val (.ref w_LOOKING), .val (.int (0 : Int32))]) rfl k) ?_
      refine own_pre (F' := T3.setTop (mkF m 51 #[.val (.int p0), .val (.int (p0 &&& (3 : Int32))), .val (.ref w_LOOKING), .val (.int (0 : Int32))] [])) (fun _ k => XS.goto X3.here hx rfl (pc0 := 28) (pc' := 51) rfl (hb hby at_28) (by decide) (by decide) k) ?_
      refine own_pre (F' := T3.setTop (mkF m 52 #[.val (.int p0), .val (.int (p0 &&& (3 : Int32))), .val (.ref w_LOOKING), .val (.int (0 : Int32))] [(.ref w_LOOKING)])) (fun _ k => XS.aloadN X3.here hx rfl (hb hby at_51) rfl rfl k) ?_
      obtain ⟨cq', kq', qa', qb', qc'⟩ := isOf hZ e3 Ew_LOOKING
      obtain ⟨_, _, ⟨T4, L', k', n'⟩, -, X'', ⟨Lc', hQ', l', y', z'⟩, st'⟩ := X3.virtualBack hx (y := (⟨"com/example/ord3/ord3/Role", "servesSessions", "()Z"⟩ : MethodName)) (z := (⟨"com/example/ord3/ord3/Role", "servesSessions", "()Z"⟩ : MethodName)) hown (mvT hZ (hw _ (List.mem_of_getElem? (i := 3) rfl))) (mvT hZ (hw _ (List.mem_of_getElem? (i := 4) rfl))) (notFace_of_selects (args := #[]) (mvT hZ (hw _ (List.mem_of_getElem? (i := 6) rfl)))) (mvT hZ (hw _ (List.mem_of_getElem? (i := 6) rfl))) (mvT hZ (hw _ (List.mem_of_getElem? (i := 5) rfl))) (by decide) (backOf (W := 0) (rm1 l Z aw hw [] w_LOOKING w_LOOKING h0 Sw_LOOKING) hZ (hw _ (List.mem_of_getElem? (i := 7) rfl)) (hw _ (List.mem_of_getElem? (i := 1) rfl)) (by decide) (by decide)) qa' qc' (g := (mkF m 52 #[.val (.int p0), .val (.int (p0 &&& (3 : Int32))), .val (.ref w_LOOKING), .val (.int (0 : Int32))] [(.ref w_LOOKING)])) rfl (by rw [hml]; rfl) (Steps.refl _) (argsL := []) (rest := []) (lenOf own_pd0 rfl) rfl (by show 2 * 0 + _ ≤ _; exact Nat.le_of_eq rfl) (hb hby at_52) (fun _ _ => ⟨rfl, e3, (by decide : 0 + 0 ≤ _), (by decide : 0 + 0 ≤ _)⟩)
      dsimp only [Pt.U, Pt.locs, Pt.cells, Pt.slots] at X'' l' y' z' st' hQ'
      subst l' y' z'
      obtain ⟨rfl, rfl, e4⟩ := hQ'
      have X4 : Stand p l e room_1 s m #[(.int p0)] below meth c T4 [] 0 0 := X''
      refine own_pre (F' := T4.setTop (mkF m 55 #[.val (.int p0), .val (.int (p0 &&& (3 : Int32))), .val (.ref w_LOOKING), .val (.int (0 : Int32))] [(.int (f1_0 w_LOOKING w_LOOKING))])) (fun t k => st'.trans k) ?_
      refine own_pre (F' := T4.setTop (mkF m 56 #[.val (.int p0), .val (.int (p0 &&& (3 : Int32))), .val (.ref w_LOOKING), .val (.int (0 : Int32))] [(.int (0 : Int32)), (.int (f1_0 w_LOOKING w_LOOKING))])) (fun _ k => XS.iloadN X4.here hx rfl (hb hby at_55) rfl k) ?_
      refine own_iteI (fun hc56 => ?_) (fun hc56 => ?_)
      · skip
        refine own_pre (F' := T4.setTop (mkF m 59 #[.val (.int p0), .val (.int (p0 &&& (3 : Int32))), .val (.ref w_LOOKING), .val (.int (0 : Int32))] [])) (fun _ k => XS.icmpNo X4.here hx rfl (hb hby at_56) rfl (teq hc56).2 k) ?_
        refine own_pre (F' := T4.setTop (mkF m 60 #[.val (.int p0), .val (.int (p0 &&& (3 : Int32))), .val (.ref w_LOOKING), .val (.int (0 : Int32))] [(.int (1 : Int32))])) (fun _ k => XS.iconst X4.here hx rfl (hb hby at_59) k) ?_
        refine own_pre (F' := T4.setTop (mkF m 64 #[.val (.int p0), .val (.int (p0 &&& (3 : Int32))), .val (.ref w_LOOKING), .val (.int (0 : Int32))] [(.int (1 : Int32))])) (fun _ k => XS.goto X4.here hx rfl (pc0 := 60) (pc' := 64) rfl (hb hby at_60) (by decide) (by decide) k) ?_
        exact own_ret X4 hx Bd.notSynchronized Bd.returns rfl (Or.inl ⟨rfl, by simp, _, rfl⟩) (hb hby at_64) ⟨rfl, e4⟩ (by decide) (by decide)
      · skip
        refine own_pre (F' := T4.setTop (mkF m 63 #[.val (.int p0), .val (.int (p0 &&& (3 : Int32))), .val (.ref w_LOOKING), .val (.int (0 : Int32))] [])) (fun _ k => XS.icmpYes X4.here hx rfl (pc0 := 56) (pc' := 63) rfl (hb hby at_56) rfl (feq hc56).2 (by decide) (by decide) k) ?_
        refine own_pre (F' := T4.setTop (mkF m 64 #[.val (.int p0), .val (.int (p0 &&& (3 : Int32))), .val (.ref w_LOOKING), .val (.int (0 : Int32))] [(.int (0 : Int32))])) (fun _ k => XS.iconst X4.here hx rfl (hb hby at_63) k) ?_
        exact own_ret X4 hx Bd.notSynchronized Bd.returns rfl (Or.inl ⟨rfl, by simp, _, rfl⟩) (hb hby at_64) ⟨rfl, e4⟩ (by decide) (by decide)
    · skip
      refine own_pre (F' := T0.setTop (mkF m 31 #[.val (.int p0), .val (.int (p0 &&& (3 : Int32))), .unset, .unset] [])) (fun _ k => XS.icmpYes X0.here hx rfl (pc0 := 19) (pc' := 31) rfl (hb hby at_19) rfl (feq hc19).2 (by decide) (by decide) k) ?_
      refine own_pre (F' := T0.setTop (mkF m 32 #[.val (.int p0), .val (.int (p0 &&& (3 : Int32))), .unset, .unset] [(.int (p0 &&& (3 : Int32)))])) (fun _ k => XS.iloadN X0.here hx rfl (hb hby at_31) rfl k) ?_
      refine own_pre (F' := T0.setTop (mkF m 33 #[.val (.int p0), .val (.int (p0 &&& (3 : Int32))), .unset, .unset] [(.int (2 : Int32)), (.int (p0 &&& (3 : Int32)))])) (fun _ k => XS.iconst X0.here hx rfl (hb hby at_32) k) ?_
      refine own_iteI (fun hc33 => ?_) (fun hc33 => ?_)
      · skip
        refine own_pre (F' := T0.setTop (mkF m 36 #[.val (.int p0), .val (.int (p0 &&& (3 : Int32))), .unset, .unset] [])) (fun _ k => XS.icmpNo X0.here hx rfl (hb hby at_33) rfl (teq hc33).2 k) ?_
        obtain ⟨T5, X5, e5, st'⟩ := getS2 X0 hx hZ hown (host := "") (Or.inl (hw _ (List.mem_of_getElem? (i := 12) rfl))) Via.refl e0 Sw_FOLLOWING (g := (mkF m 36 #[.val (.int p0), .val (.int (p0 &&& (3 : Int32))), .unset, .unset] [])) rfl (hb hby at_36)
        refine own_pre (F' := T5.setTop (mkF m 39 #[.val (.int p0), .val (.int (p0 &&& (3 : Int32))), .unset, .unset] [(.ref w_FOLLOWING)])) (fun t k => st' t k) ?_
        refine own_pre (F' := T5.setTop (mkF m 40 #[.val (.int p0), .val (.int (p0 &&& (3 : Int32))), .val (.ref w_FOLLOWING), .unset] [])) (fun _ k => XS.astoreN X5.here hx rfl (hb hby at_39) rfl rfl (l' := #[.val (.int p0), .val (.int (p0 &&& (3 : Int32))), .val (.ref w_FOLLOWING), .unset]) rfl k) ?_
        refine own_pre (F' := T5.setTop (mkF m 41 #[.val (.int p0), .val (.int (p0 &&& (3 : Int32))), .val (.ref w_FOLLOWING), .unset] [(.int (1 : Int32))])) (fun _ k => XS.iconst X5.here hx rfl (hb hby at_40) k) ?_
        refine own_pre (F' := T5.setTop (mkF m 42 #[.val (.int p0), .val (.int (p0 &&& (3 : Int32))), .val (.ref w_FOLLOWING), .val (.int (1 : Int32))] [])) (fun _ k => XS.istoreN X5.here hx rfl (hb hby at_41) rfl (l' := #[.val (.int p0), .val (.int (p0 &&& (3 : Int32))), .val (.ref w_FOLLOWING), .val (.int (1 : Int32))]) rfl k) ?_
        refine own_pre (F' := T5.setTop (mkF m 51 #[.val (.int p0), .val (.int (p0 &&& (3 : Int32))), .val (.ref w_FOLLOWING), .val (.int (1 : Int32))] [])) (fun _ k => XS.goto X5.here hx rfl (pc0 := 42) (pc' := 51) rfl (hb hby at_42) (by decide) (by decide) k) ?_
        refine own_pre (F' := T5.setTop (mkF m 52 #[.val (.int p0), .val (.int (p0 &&& (3 : Int32))), .val (.ref w_FOLLOWING), .val (.int (1 : Int32))] [(.ref w_FOLLOWING)])) (fun _ k => XS.aloadN X5.here hx rfl (hb hby at_51) rfl rfl k) ?_
        obtain ⟨cq', kq', qa', qb', qc'⟩ := isOf hZ e5 Ew_FOLLOWING
        obtain ⟨_, _, ⟨T6, L', k', n'⟩, -, X'', ⟨Lc', hQ', l', y', z'⟩, st'⟩ := X5.virtualBack hx (y := (⟨"com/example/ord3/ord3/Role", "servesSessions", "()Z"⟩ : MethodName)) (z := (⟨"com/example/ord3/ord3/Role", "servesSessions", "()Z"⟩ : MethodName)) hown (mvT hZ (hw _ (List.mem_of_getElem? (i := 3) rfl))) (mvT hZ (hw _ (List.mem_of_getElem? (i := 4) rfl))) (notFace_of_selects (args := #[]) (mvT hZ (hw _ (List.mem_of_getElem? (i := 6) rfl)))) (mvT hZ (hw _ (List.mem_of_getElem? (i := 6) rfl))) (mvT hZ (hw _ (List.mem_of_getElem? (i := 5) rfl))) (by decide) (backOf (W := 0) (rm1 l Z aw hw [] w_FOLLOWING w_LOOKING h0 Sw_LOOKING) hZ (hw _ (List.mem_of_getElem? (i := 7) rfl)) (hw _ (List.mem_of_getElem? (i := 1) rfl)) (by decide) (by decide)) qa' qc' (g := (mkF m 52 #[.val (.int p0), .val (.int (p0 &&& (3 : Int32))), .val (.ref w_FOLLOWING), .val (.int (1 : Int32))] [(.ref w_FOLLOWING)])) rfl (by rw [hml]; rfl) (Steps.refl _) (argsL := []) (rest := []) (lenOf own_pd0 rfl) rfl (by show 2 * 0 + _ ≤ _; exact Nat.le_of_eq rfl) (hb hby at_52) (fun _ _ => ⟨rfl, e5, (by decide : 0 + 0 ≤ _), (by decide : 0 + 0 ≤ _)⟩)
        dsimp only [Pt.U, Pt.locs, Pt.cells, Pt.slots] at X'' l' y' z' st' hQ'
        subst l' y' z'
        obtain ⟨rfl, rfl, e6⟩ := hQ'
        have X6 : Stand p l e room_1 s m #[(.int p0)] below meth c T6 [] 0 0 := X''
        refine own_pre (F' := T6.setTop (mkF m 55 #[.val (.int p0), .val (.int (p0 &&& (3 : Int32))), .val (.ref w_FOLLOWING), .val (.int (1 : Int32))] [(.int (f1_0 w_FOLLOWING w_LOOKING))])) (fun t k => st'.trans k) ?_
        refine own_pre (F' := T6.setTop (mkF m 56 #[.val (.int p0), .val (.int (p0 &&& (3 : Int32))), .val (.ref w_FOLLOWING), .val (.int (1 : Int32))] [(.int (1 : Int32)), (.int (f1_0 w_FOLLOWING w_LOOKING))])) (fun _ k => XS.iloadN X6.here hx rfl (hb hby at_55) rfl k) ?_
        refine own_iteI (fun hc56 => ?_) (fun hc56 => ?_)
        · skip
          refine own_pre (F' := T6.setTop (mkF m 59 #[.val (.int p0), .val (.int (p0 &&& (3 : Int32))), .val (.ref w_FOLLOWING), .val (.int (1 : Int32))] [])) (fun _ k => XS.icmpNo X6.here hx rfl (hb hby at_56) rfl (teq hc56).2 k) ?_
          refine own_pre (F' := T6.setTop (mkF m 60 #[.val (.int p0), .val (.int (p0 &&& (3 : Int32))), .val (.ref w_FOLLOWING), .val (.int (1 : Int32))] [(.int (1 : Int32))])) (fun _ k => XS.iconst X6.here hx rfl (hb hby at_59) k) ?_
          refine own_pre (F' := T6.setTop (mkF m 64 #[.val (.int p0), .val (.int (p0 &&& (3 : Int32))), .val (.ref w_FOLLOWING), .val (.int (1 : Int32))] [(.int (1 : Int32))])) (fun _ k => XS.goto X6.here hx rfl (pc0 := 60) (pc' := 64) rfl (hb hby at_60) (by decide) (by decide) k) ?_
          exact own_ret X6 hx Bd.notSynchronized Bd.returns rfl (Or.inl ⟨rfl, by simp, _, rfl⟩) (hb hby at_64) ⟨rfl, e6⟩ (by decide) (by decide)
        · skip
          refine own_pre (F' := T6.setTop (mkF m 63 #[.val (.int p0), .val (.int (p0 &&& (3 : Int32))), .val (.ref w_FOLLOWING), .val (.int (1 : Int32))] [])) (fun _ k => XS.icmpYes X6.here hx rfl (pc0 := 56) (pc' := 63) rfl (hb hby at_56) rfl (feq hc56).2 (by decide) (by decide) k) ?_
          refine own_pre (F' := T6.setTop (mkF m 64 #[.val (.int p0), .val (.int (p0 &&& (3 : Int32))), .val (.ref w_FOLLOWING), .val (.int (1 : Int32))] [(.int (0 : Int32))])) (fun _ k => XS.iconst X6.here hx rfl (hb hby at_63) k) ?_
          exact own_ret X6 hx Bd.notSynchronized Bd.returns rfl (Or.inl ⟨rfl, by simp, _, rfl⟩) (hb hby at_64) ⟨rfl, e6⟩ (by decide) (by decide)
      · skip
        refine own_pre (F' := T0.setTop (mkF m 45 #[.val (.int p0), .val (.int (p0 &&& (3 : Int32))), .unset, .unset] [])) (fun _ k => XS.icmpYes X0.here hx rfl (pc0 := 33) (pc' := 45) rfl (hb hby at_33) rfl (feq hc33).2 (by decide) (by decide) k) ?_
        obtain ⟨T7, X7, e7, st'⟩ := getS2 X0 hx hZ hown (host := "") (Or.inl (hw _ (List.mem_of_getElem? (i := 10) rfl))) Via.refl e0 Sw_LEADING (g := (mkF m 45 #[.val (.int p0), .val (.int (p0 &&& (3 : Int32))), .unset, .unset] [])) rfl (hb hby at_45)
        refine own_pre (F' := T7.setTop (mkF m 48 #[.val (.int p0), .val (.int (p0 &&& (3 : Int32))), .unset, .unset] [(.ref w_LEADING)])) (fun t k => st' t k) ?_
        refine own_pre (F' := T7.setTop (mkF m 49 #[.val (.int p0), .val (.int (p0 &&& (3 : Int32))), .val (.ref w_LEADING), .unset] [])) (fun _ k => XS.astoreN X7.here hx rfl (hb hby at_48) rfl rfl (l' := #[.val (.int p0), .val (.int (p0 &&& (3 : Int32))), .val (.ref w_LEADING), .unset]) rfl k) ?_
        refine own_pre (F' := T7.setTop (mkF m 50 #[.val (.int p0), .val (.int (p0 &&& (3 : Int32))), .val (.ref w_LEADING), .unset] [(.int (1 : Int32))])) (fun _ k => XS.iconst X7.here hx rfl (hb hby at_49) k) ?_
        refine own_pre (F' := T7.setTop (mkF m 51 #[.val (.int p0), .val (.int (p0 &&& (3 : Int32))), .val (.ref w_LEADING), .val (.int (1 : Int32))] [])) (fun _ k => XS.istoreN X7.here hx rfl (hb hby at_50) rfl (l' := #[.val (.int p0), .val (.int (p0 &&& (3 : Int32))), .val (.ref w_LEADING), .val (.int (1 : Int32))]) rfl k) ?_
        refine own_pre (F' := T7.setTop (mkF m 52 #[.val (.int p0), .val (.int (p0 &&& (3 : Int32))), .val (.ref w_LEADING), .val (.int (1 : Int32))] [(.ref w_LEADING)])) (fun _ k => XS.aloadN X7.here hx rfl (hb hby at_51) rfl rfl k) ?_
        obtain ⟨cq', kq', qa', qb', qc'⟩ := isOf hZ e7 Ew_LEADING
        obtain ⟨_, _, ⟨T8, L', k', n'⟩, -, X'', ⟨Lc', hQ', l', y', z'⟩, st'⟩ := X7.virtualBack hx (y := (⟨"com/example/ord3/ord3/Role", "servesSessions", "()Z"⟩ : MethodName)) (z := (⟨"com/example/ord3/ord3/Role", "servesSessions", "()Z"⟩ : MethodName)) hown (mvT hZ (hw _ (List.mem_of_getElem? (i := 3) rfl))) (mvT hZ (hw _ (List.mem_of_getElem? (i := 4) rfl))) (notFace_of_selects (args := #[]) (mvT hZ (hw _ (List.mem_of_getElem? (i := 6) rfl)))) (mvT hZ (hw _ (List.mem_of_getElem? (i := 6) rfl))) (mvT hZ (hw _ (List.mem_of_getElem? (i := 5) rfl))) (by decide) (backOf (W := 0) (rm1 l Z aw hw [] w_LEADING w_LOOKING h0 Sw_LOOKING) hZ (hw _ (List.mem_of_getElem? (i := 7) rfl)) (hw _ (List.mem_of_getElem? (i := 1) rfl)) (by decide) (by decide)) qa' qc' (g := (mkF m 52 #[.val (.int p0), .val (.int (p0 &&& (3 : Int32))), .val (.ref w_LEADING), .val (.int (1 : Int32))] [(.ref w_LEADING)])) rfl (by rw [hml]; rfl) (Steps.refl _) (argsL := []) (rest := []) (lenOf own_pd0 rfl) rfl (by show 2 * 0 + _ ≤ _; exact Nat.le_of_eq rfl) (hb hby at_52) (fun _ _ => ⟨rfl, e7, (by decide : 0 + 0 ≤ _), (by decide : 0 + 0 ≤ _)⟩)
        dsimp only [Pt.U, Pt.locs, Pt.cells, Pt.slots] at X'' l' y' z' st' hQ'
        subst l' y' z'
        obtain ⟨rfl, rfl, e8⟩ := hQ'
        have X8 : Stand p l e room_1 s m #[(.int p0)] below meth c T8 [] 0 0 := X''
        refine own_pre (F' := T8.setTop (mkF m 55 #[.val (.int p0), .val (.int (p0 &&& (3 : Int32))), .val (.ref w_LEADING), .val (.int (1 : Int32))] [(.int (f1_0 w_LEADING w_LOOKING))])) (fun t k => st'.trans k) ?_
        refine own_pre (F' := T8.setTop (mkF m 56 #[.val (.int p0), .val (.int (p0 &&& (3 : Int32))), .val (.ref w_LEADING), .val (.int (1 : Int32))] [(.int (1 : Int32)), (.int (f1_0 w_LEADING w_LOOKING))])) (fun _ k => XS.iloadN X8.here hx rfl (hb hby at_55) rfl k) ?_
        refine own_iteI (fun hc56 => ?_) (fun hc56 => ?_)
        · skip
          refine own_pre (F' := T8.setTop (mkF m 59 #[.val (.int p0), .val (.int (p0 &&& (3 : Int32))), .val (.ref w_LEADING), .val (.int (1 : Int32))] [])) (fun _ k => XS.icmpNo X8.here hx rfl (hb hby at_56) rfl (teq hc56).2 k) ?_
          refine own_pre (F' := T8.setTop (mkF m 60 #[.val (.int p0), .val (.int (p0 &&& (3 : Int32))), .val (.ref w_LEADING), .val (.int (1 : Int32))] [(.int (1 : Int32))])) (fun _ k => XS.iconst X8.here hx rfl (hb hby at_59) k) ?_
          refine own_pre (F' := T8.setTop (mkF m 64 #[.val (.int p0), .val (.int (p0 &&& (3 : Int32))), .val (.ref w_LEADING), .val (.int (1 : Int32))] [(.int (1 : Int32))])) (fun _ k => XS.goto X8.here hx rfl (pc0 := 60) (pc' := 64) rfl (hb hby at_60) (by decide) (by decide) k) ?_
          exact own_ret X8 hx Bd.notSynchronized Bd.returns rfl (Or.inl ⟨rfl, by simp, _, rfl⟩) (hb hby at_64) ⟨rfl, e8⟩ (by decide) (by decide)
        · skip
          refine own_pre (F' := T8.setTop (mkF m 63 #[.val (.int p0), .val (.int (p0 &&& (3 : Int32))), .val (.ref w_LEADING), .val (.int (1 : Int32))] [])) (fun _ k => XS.icmpYes X8.here hx rfl (pc0 := 56) (pc' := 63) rfl (hb hby at_56) rfl (feq hc56).2 (by decide) (by decide) k) ?_
          refine own_pre (F' := T8.setTop (mkF m 64 #[.val (.int p0), .val (.int (p0 &&& (3 : Int32))), .val (.ref w_LEADING), .val (.int (1 : Int32))] [(.int (0 : Int32))])) (fun _ k => XS.iconst X8.here hx rfl (hb hby at_63) k) ?_
          exact own_ret X8 hx Bd.notSynchronized Bd.returns rfl (Or.inl ⟨rfl, by simp, _, rfl⟩) (hb hby at_64) ⟨rfl, e8⟩ (by decide) (by decide)
theorem ef_0 (m : MethodId) (p0 : Int32) : entryFrame m #[(.int p0)] maxLocals = mkF m 0 #[.val (.int p0), .unset, .unset, .unset] [] := by first | (simp [entryFrame, mkF, argsToLocals, Value.category, maxLocals]; done) | rfl
set_option maxRecDepth 65536 in
set_option maxHeartbeats 40000000 in
theorem rm0 (l : Launch) (Z : State) (aw : Array Value) (hw : ∀ d ∈ tables_1, d.before aw Z = true) (ws : List Jvm.Cond) (p0 : Int32) (w_STANDALONE : Addr) (w_LOOKING : Addr) (w_FOLLOWING : Addr) (w_LEADING : Addr) (h0 : Heap) (Sw_STANDALONE : Sta Z h0 "com/example/ord3/ord3/Role" "STANDALONE" "Lcom/example/ord3/ord3/Role;" (.ref w_STANDALONE)) (Sw_LOOKING : Sta Z h0 "com/example/ord3/ord3/Role" "LOOKING" "Lcom/example/ord3/ord3/Role;" (.ref w_LOOKING)) (Sw_FOLLOWING : Sta Z h0 "com/example/ord3/ord3/Role" "FOLLOWING" "Lcom/example/ord3/ord3/Role;" (.ref w_FOLLOWING)) (Sw_LEADING : Sta Z h0 "com/example/ord3/ord3/Role" "LEADING" "Lcom/example/ord3/ord3/Role;" (.ref w_LEADING)) (Ew_STANDALONE : Exa Z h0 w_STANDALONE "com/example/ord3/ord3/Role") (Ew_LOOKING : Exa Z h0 w_LOOKING "com/example/ord3/ord3/Role") (Ew_FOLLOWING : Exa Z h0 w_FOLLOWING "com/example/ord3/ord3/Role") (Ew_LEADING : Exa Z h0 w_LEADING "com/example/ord3/ord3/Role") :
    MetFree l x (head1 (Jvm.Cond.code x code maxLocals ret :: ws) room_1) (fun a U => a = #[(.int p0)] ∧ Z.Warmed39 U.vm ∧ U.heap = h0) (fun _ _ _ _ _ => True) (fun _ U o U' => ∃ v L, o = .returned v ∧ own_Q (some (.int (f0_0 p0 w_STANDALONE w_LOOKING w_FOLLOWING w_LEADING))) (own_K0 h0) v U'.heap L ∧ FrameEnd U o U' L room_1.cells room_1.slots) := by
  refine MetFree.of_bodySF (plainFor_of_name own_pn1) hisR ?_
  intro p e s m args below meth c s₁ Bd hml0 hP hK
  obtain ⟨rfl, hZ, hh⟩ := hP
  have hml : c.maxLocals = 4 := hml0
  have e0 : s₁.heap = h0 := by rw [← hh, Bd.state]; rfl
  exact own_pre (fun t k => castTop (ef_0 m p0) k) (g0_0 hw p0 w_STANDALONE w_LOOKING w_FOLLOWING w_LEADING Sw_STANDALONE Sw_LOOKING Sw_FOLLOWING Sw_LEADING Ew_STANDALONE Ew_LOOKING Ew_FOLLOWING Ew_LEADING Bd hml hZ s₁ (Stand.of_body Bd) e0)
theorem own_law (k : Int32) (ws wl wf wd : Addr) (h1 : ws ≠ wl) (h2 : wf ≠ wl) (h3 : wd ≠ wl) : f0_0 k ws wl wf wd = 1 := by
  simp only [f0_0, f1_0]
  (repeat' split) <;> simp_all
set_option maxRecDepth 65536 in
set_option maxHeartbeats 40000000 in
theorem comes_1 {Post : Tables → Env → Array Value → State → Outcome → State → Prop} (hpost : ∀ tb e args s v u, (limb_1_1.after args s (.returned v) u = true ∧ limb_1_2.after args s (.returned v) u = true ∧ True) → FrameEnd s (.returned v) u (Jvm.fieldLocs frame_1_writes args s ++ Jvm.arrayLocs frame_1_arrays args s ++ Jvm.staticLocs frame_1_statics s) 0 0 → Post tb e args s (.returned v) u) :
    ArmFor flags0 classFile x code maxLocals ret World_1 tables_1 room_1 Calls_1 rest_1 Pre_1 Post := by
  intro l hfl _ _ p e ha hc hk s m args below hf hA hF happ hP
  obtain ⟨hcalls, hrest, hpre⟩ := hP
  obtain ⟨-, -, -, hnamed, -, -, -, hat⟩ := (Spec.applies_iff hf).mp happ
  obtain ⟨hg, hn⟩ := and_e (Cond.before_iff.mp (show (Jvm.Cond.and given_1 narrow_1).before args s = true from hpre))
  obtain ⟨g1, g2⟩ := and_e hg
  obtain ⟨w0, rfl⟩ : ∃ w0 : Value, args = #[w0] := by
    have hs : args.size = 1 := by simpa [Cond.value, given_1] using g1
    obtain ⟨L⟩ := args
    match L, hs with
    | [w0], _ => exact ⟨w0, rfl⟩
  have hw := fun d (hd : d ∈ tables_1) => atoms_spec (ws := Jvm.Cond.code x code maxLocals ret :: tables_1) hat d (List.mem_cons_of_mem _ hd)
  have hfit : Fit s := fun {y c} hc i hi => by
    obtain ⟨ha, rfl⟩ := Array.getElem?_eq_some_iff.mp hc
    have q := List.all_eq_true.mp ((Array.all_eq_true_iff_forall_mem.mp hF) _ (Array.getElem_mem ha)) i (List.mem_range.mpr hi)
    simpa [Array.getElem?_eq_getElem hi] using q
  obtain ⟨i0, ei0⟩ := is_v g2
  obtain rfl : w0 = (.int i0) := Option.some.inj ei0
  obtain ⟨n2, n3⟩ := and_e hn
  obtain ⟨w_STANDALONE, ev_w_STANDALONE⟩ := exa_v n2
  have Ew_STANDALONE := Exa.start ev_w_STANDALONE n2
  have Sw_STANDALONE := Sta.start ev_w_STANDALONE (Or.inr ⟨(hw _ (List.mem_of_getElem? (i := 1) rfl)), (hw _ (List.mem_of_getElem? (i := 2) rfl))⟩)
  obtain ⟨n4, n5⟩ := and_e n3
  obtain ⟨w_LOOKING, ev_w_LOOKING⟩ := exa_v n4
  have Ew_LOOKING := Exa.start ev_w_LOOKING n4
  have Sw_LOOKING := Sta.start ev_w_LOOKING (Or.inr ⟨(hw _ (List.mem_of_getElem? (i := 1) rfl)), (hw _ (List.mem_of_getElem? (i := 9) rfl))⟩)
  obtain ⟨n6, n7⟩ := and_e n5
  have Fw_STANDALONE_ordinal := Fld.start ((fld_at ev_w_STANDALONE).symm.trans (own_eqI n6))
  obtain ⟨n8, n9⟩ := and_e n7
  have Fw_LOOKING_ordinal := Fld.start ((fld_at ev_w_LOOKING).symm.trans (own_eqI n8))
  obtain ⟨n10, n11⟩ := and_e n9
  obtain ⟨w_LEADING, ev_w_LEADING⟩ := exa_v n10
  have Ew_LEADING := Exa.start ev_w_LEADING n10
  have Sw_LEADING := Sta.start ev_w_LEADING (Or.inr ⟨(hw _ (List.mem_of_getElem? (i := 1) rfl)), (hw _ (List.mem_of_getElem? (i := 11) rfl))⟩)
  obtain ⟨n12, n13⟩ := and_e n11
  have Fw_LEADING_ordinal := Fld.start ((fld_at ev_w_LEADING).symm.trans (own_eqI n12))
  obtain ⟨n14, n15⟩ := and_e n13
  obtain ⟨w_FOLLOWING, ev_w_FOLLOWING⟩ := exa_v n14
  have Ew_FOLLOWING := Exa.start ev_w_FOLLOWING n14
  have Sw_FOLLOWING := Sta.start ev_w_FOLLOWING (Or.inr ⟨(hw _ (List.mem_of_getElem? (i := 1) rfl)), (hw _ (List.mem_of_getElem? (i := 13) rfl))⟩)
  have Fw_FOLLOWING_ordinal := Fld.start ((fld_at ev_w_FOLLOWING).symm.trans (own_eqI n15))
  obtain ⟨n, o, h1, h2, h3, v, L, rfl, ⟨hv, hK⟩, hq⟩ := rm0 l s _ hw tables_1 i0 w_STANDALONE w_LOOKING w_FOLLOWING w_LEADING s.heap Sw_STANDALONE Sw_LOOKING Sw_FOLLOWING Sw_LEADING Ew_STANDALONE Ew_LOOKING Ew_FOLLOWING Ew_LEADING p e ha hc hk s m _ below hf ((Spec.applies_iff_loose hf).mp happ).1 ⟨rfl, State.Warmed39.refl s, rfl⟩ trivial
  rw [own_law _ _ _ _ _ (Fw_STANDALONE_ordinal.ne Fw_LOOKING_ordinal (by decide)) (Fw_FOLLOWING_ordinal.ne Fw_LOOKING_ordinal (by decide)) (Fw_LEADING_ordinal.ne Fw_LOOKING_ordinal (by decide))] at hv
  subst hv
  refine ⟨n, _, h1, h2, h3, hpost _ _ _ _ _ _ ⟨Cond.after_iff.mpr rfl, Cond.after_iff.mpr (eq_i res_at (Term.int_eval (1)) rfl), trivial⟩ ⟨hq.1, hq.2.1, (hq.2.2.sift fun y hy => ?_).mono (by decide) (by decide)⟩⟩
  rw [hK.1] at hy
  cases hy
theorem main_1_1 : Claimed_1_1 := comes_1 fun _ _ _ _ _ _ h hF => ⟨h.1, hF⟩
theorem main_1_2 : Claimed_1_2 := comes_1 fun _ _ _ _ _ _ h hF => ⟨h.2.1, hF⟩
end Jvm.Pilot.@@N@@
namespace Jvm.Pilot.@@N@@
open Jvm Jvm.ClassFile Sem Op Lib Jvm.Free Jvm.Stand Jvm.Pilot.@@N@@.Jvm.D
/-! MADE BY PROGRAM (witnessworld.py) out of the Statement's table words and the real class files: 12 classes; the members and pool entries that the words name. The judged class is class 1, her method 1. -/
namespace start1
open Jvm.ClassFile
def u (s : String) : CpInfo := .utf8 (stringToUtf16 s)
/-- a pool by its gaps: so many unusable entries, then the entry; so many at the end -/
def gap : Nat → List CpInfo → List CpInfo
  | 0, r => r
  | n + 1, r => .unusable :: gap n r
def poolList (es : List (Nat × CpInfo)) (last : Nat) : List CpInfo := es.foldr (fun e r => gap e.1 (e.2 :: r)) (gap last [])
def pool (es : List (Nat × CpInfo)) (last : Nat) : Array CpInfo := ⟨poolList es last⟩
def fileOf (pool : Array CpInfo) (this : Nat) (attrs : Array Attribute := #[]) (ms : Array MethodInfo := #[]) (fl : Nat := 33) (sup : Nat := 0) (ifs : Array Nat := #[]) (fds : Array FieldInfo := #[]) : ClassFile where
  minorVersion := 0
  majorVersion := 65
  constantPool := pool
  accessFlags := fl
  thisClass := this
  superClass := sup
  interfaces := ifs
  fields := fds
  methods := ms
  attributes := attrs
def plain (name : String) (sup : Option ClassId) : Class where
  name := name
  kind := .ordinary
  loader := none
  accessFlags := 33
  super := sup
  interfaces := #[]
  cf := none
  fields := #[]
  methods := #[]
  instanceTypes := #[]
  staticTypes := #[]
  resolved := #[]
  callSites := []
  init := .initialized
  statics := none
  mirror := none

def pool0 : Array CpInfo := pool [(5, u "<init>"), (0, u "()V"), (1, .class_ 10), (1, u "java/lang/Object")] 113

def k0m0 : Method := { name := "<init>", desc := "()V", sig := { parameters := [], returnType := none }, accessFlags := 1, code := none }
/-- java/lang/Object -/
def k0 : Class := { plain "java/lang/Object" none with
  accessFlags := 33
  interfaces := #[]
  cf := some (fileOf pool0 8 #[] #[{ accessFlags := 1, nameIndex := 5, descriptorIndex := 6, attributes := #[] }] 33 0 #[] #[])
  fields := #[]
  methods := #[k0m0]
  instanceTypes := #[]
  staticTypes := #[]
  resolved := Array.replicate 124 none
  statics := none }

def pool1 : Array CpInfo := pool [(2, .class_ 4), (1, u "java/lang/Object"), (0, u "<init>"), (0, u "()V"), (0, .fieldref 8 9), (0, .class_ 10), (0, .nameAndType 11 12), (0, u "com/example/ord3/ord3/Role"), (0, u "STANDALONE"), (0, u "Lcom/example/ord3/ord3/Role;"), (0, .fieldref 8 14), (0, .nameAndType 15 12), (0, u "LOOKING"), (0, .fieldref 8 17), (0, .nameAndType 18 12), (0, u "FOLLOWING"), (0, .fieldref 8 20), (0, .nameAndType 21 12), (0, u "LEADING"), (0, .methodref 8 23), (0, .nameAndType 24 25), (0, u "servesSessions"), (0, u "()Z"), (0, .class_ 27), (0, u "com/example/ord3/ord3/RoleServesSessionsPinLaw"), (2, u "law"), (0, u "(I)Z")] 3

def k1m0 : Method := { name := "<init>", desc := "()V", sig := { parameters := [], returnType := none }, accessFlags := 1, code := none }
def k1c1 : Code := { maxStack := 2, maxLocals := 4, code := code, exceptionTable := #[], attributes := #[] }
def k1m1 : Method := { name := "law", desc := "(I)Z", sig := { parameters := [.int], returnType := some .boolean }, accessFlags := 9, code := some k1c1 }
/-- com/example/ord3/ord3/RoleServesSessionsPinLaw -/
def k1 : Class := { plain "com/example/ord3/ord3/RoleServesSessionsPinLaw" (some 0) with
  accessFlags := 49
  interfaces := #[]
  cf := some (fileOf pool1 26 #[] #[{ accessFlags := 1, nameIndex := 5, descriptorIndex := 6, attributes := #[] }, { accessFlags := 9, nameIndex := 30, descriptorIndex := 31, attributes := #[] }] 49 2 #[] #[])
  fields := #[]
  methods := #[k1m0, k1m1]
  instanceTypes := #[]
  staticTypes := #[]
  resolved := Array.replicate 35 none
  statics := none }

def pool2 : Array CpInfo := pool [(1, .class_ 2), (0, u "java/lang/constant/Constable"), (0, .class_ 4), (0, u "java/lang/Object")] 6

/-- java/lang/constant/Constable -/
def k2 : Class := { plain "java/lang/constant/Constable" (some 0) with
  accessFlags := 1537
  interfaces := #[]
  cf := some (fileOf pool2 1 #[] #[] 1537 3 #[] #[])
  fields := #[]
  methods := #[]
  instanceTypes := #[]
  staticTypes := #[]
  resolved := Array.replicate 11 none
  statics := none }

def pool3 : Array CpInfo := pool [(1, .class_ 2), (0, u "java/lang/Comparable"), (0, .class_ 4), (0, u "java/lang/Object")] 7

/-- java/lang/Comparable -/
def k3 : Class := { plain "java/lang/Comparable" (some 0) with
  accessFlags := 1537
  interfaces := #[]
  cf := some (fileOf pool3 1 #[] #[] 1537 3 #[] #[])
  fields := #[]
  methods := #[]
  instanceTypes := #[]
  staticTypes := #[]
  resolved := Array.replicate 12 none
  statics := none }

def pool4 : Array CpInfo := pool [(1, .class_ 2), (0, u "java/io/Serializable"), (0, .class_ 4), (0, u "java/lang/Object")] 2

/-- java/io/Serializable -/
def k4 : Class := { plain "java/io/Serializable" (some 0) with
  accessFlags := 1537
  interfaces := #[]
  cf := some (fileOf pool4 1 #[] #[] 1537 3 #[] #[])
  fields := #[]
  methods := #[]
  instanceTypes := #[]
  staticTypes := #[]
  resolved := Array.replicate 7 none
  statics := none }

def pool5 : Array CpInfo := pool [(2, .class_ 4), (1, u "java/lang/Enum"), (0, u "name"), (0, u "Ljava/lang/String;"), (2, u "ordinal"), (0, u "I"), (1, .class_ 14), (1, u "java/lang/Object"), (4, u "hash"), (86, .class_ 108), (1, u "java/lang/Enum$EnumDesc"), (2, .class_ 112), (0, u "java/lang/constant/Constable"), (0, .class_ 114), (0, u "java/lang/Comparable"), (0, .class_ 116), (0, u "java/io/Serializable")] 87

/-- java/lang/Enum -/
def k5 : Class := { plain "java/lang/Enum" (some 0) with
  accessFlags := 1057
  interfaces := #[2, 3, 4]
  cf := some (fileOf pool5 2 #[.nestMembers #[106]] #[] 1057 12 #[111, 113, 115] #[{ accessFlags := 18, nameIndex := 5, descriptorIndex := 6, attributes := #[] }, { accessFlags := 18, nameIndex := 9, descriptorIndex := 10, attributes := #[] }, { accessFlags := 2, nameIndex := 19, descriptorIndex := 10, attributes := #[] }])
  fields := #[{ name := "name", type := (.object "java/lang/String"), accessFlags := 18, slot := 0, constantValue := 0 }, { name := "ordinal", type := .int, accessFlags := 18, slot := 1, constantValue := 0 }, { name := "hash", type := .int, accessFlags := 2, slot := 2, constantValue := 0 }]
  methods := #[]
  instanceTypes := #[(.object "java/lang/String"), .int, .int]
  staticTypes := #[]
  resolved := Array.replicate 204 none
  statics := none }

def pool6 : Array CpInfo := pool [(1, .class_ 2), (0, u "com/example/ord3/ord3/Role"), (2, u "STANDALONE"), (0, u "Lcom/example/ord3/ord3/Role;"), (0, .fieldref 1 8), (0, .nameAndType 9 6), (0, u "LOOKING"), (2, u "FOLLOWING"), (2, u "LEADING"), (2, u "$VALUES"), (0, u "[Lcom/example/ord3/ord3/Role;"), (6, .class_ 28), (1, u "java/lang/Enum"), (8, u "mode"), (0, u "Ljava/lang/String;"), (26, u "servesSessions"), (0, u "()Z")] 7

def k6c0 : Code := { maxStack := 2, maxLocals := 1, code := prog_7_method_4_code, exceptionTable := #[], attributes := #[] }
def k6m0 : Method := { name := "servesSessions", desc := "()Z", sig := { parameters := [], returnType := some .boolean }, accessFlags := 0, code := some k6c0 }
/-- com/example/ord3/ord3/Role -/
def k6 : Class := { plain "com/example/ord3/ord3/Role" (some 5) with
  accessFlags := 16432
  interfaces := #[]
  cf := some (fileOf pool6 1 #[] #[{ accessFlags := 0, nameIndex := 65, descriptorIndex := 66, attributes := #[] }] 16432 26 #[] #[{ accessFlags := 16409, nameIndex := 5, descriptorIndex := 6, attributes := #[] }, { accessFlags := 16409, nameIndex := 9, descriptorIndex := 6, attributes := #[] }, { accessFlags := 16409, nameIndex := 12, descriptorIndex := 6, attributes := #[] }, { accessFlags := 16409, nameIndex := 15, descriptorIndex := 6, attributes := #[] }, { accessFlags := 18, nameIndex := 37, descriptorIndex := 38, attributes := #[] }, { accessFlags := 4122, nameIndex := 18, descriptorIndex := 19, attributes := #[] }])
  fields := #[{ name := "STANDALONE", type := (.object "com/example/ord3/ord3/Role"), accessFlags := 16409, slot := 0, constantValue := 0 }, { name := "LOOKING", type := (.object "com/example/ord3/ord3/Role"), accessFlags := 16409, slot := 1, constantValue := 0 }, { name := "FOLLOWING", type := (.object "com/example/ord3/ord3/Role"), accessFlags := 16409, slot := 2, constantValue := 0 }, { name := "LEADING", type := (.object "com/example/ord3/ord3/Role"), accessFlags := 16409, slot := 3, constantValue := 0 }, { name := "mode", type := (.object "java/lang/String"), accessFlags := 18, slot := 3, constantValue := 0 }, { name := "$VALUES", type := (.array (.object "com/example/ord3/ord3/Role")), accessFlags := 4122, slot := 4, constantValue := 0 }]
  methods := #[k6m0]
  instanceTypes := #[(.object "java/lang/String"), .int, .int, (.object "java/lang/String")]
  staticTypes := #[(.object "com/example/ord3/ord3/Role"), (.object "com/example/ord3/ord3/Role"), (.object "com/example/ord3/ord3/Role"), (.object "com/example/ord3/ord3/Role"), (.array (.object "com/example/ord3/ord3/Role"))]
  resolved := Array.replicate 74 none
  statics := some 0 }

def pool7 : Array CpInfo := pool [(1, u "java/lang/Cloneable"), (0, .class_ 1), (0, u "java/lang/Object"), (0, .class_ 3)] 3

/-- java/lang/Cloneable -/
def k7 : Class := { plain "java/lang/Cloneable" (some 0) with
  accessFlags := 1537
  interfaces := #[]
  cf := some (fileOf pool7 2 #[] #[] 1537 4 #[] #[])
  fields := #[]
  methods := #[]
  instanceTypes := #[]
  staticTypes := #[]
  resolved := Array.replicate 8 none
  statics := none }

/-- the primitive byte -/
def k8 : Class := { plain "byte" none with kind := .primitive 'B', accessFlags := 0x411 }
/-- [B -/
def k9 : Class := { plain "[B" (some 0) with kind := .array 8 .byte, interfaces := #[7, 4], accessFlags := 1041 }

/-- the primitive int -/
def k10 : Class := { plain "int" none with kind := .primitive 'I', accessFlags := 0x411 }
/-- [I -/
def k11 : Class := { plain "[I" (some 0) with kind := .array 10 .int, interfaces := #[7, 4], accessFlags := 1041 }

def heap : Heap := #[{ cls := 6, slots := #[.ref 1, .ref 2, .ref 3, .ref 4, .null], vm := .statics 6 },
  { cls := 6, slots := #[.null, .int 0, .int 0, .null], vm := .none },
  { cls := 6, slots := #[.null, .int 1, .int 0, .null], vm := .none },
  { cls := 6, slots := #[.null, .int 2, .int 0, .null], vm := .none },
  { cls := 6, slots := #[.null, .int 3, .int 0, .null], vm := .none }]
def classes : Array Class := #[k0, k1, k2, k3, k4, k5, k6, k7, k8, k9, k10, k11]
def interned : List (Array UInt16 × Addr) := []
def slotsUsed : Nat := 21
def theMethod : MethodId := ⟨1, 1⟩
def args0 : Array Value := #[.int 5]
def aboutOver (below : List Frame) : State where
  vm := { classes := classes, interned := interned.toArray }
  heap := heap
  slotsUsed := slotsUsed
  threads := #[{ frames := .invoking theMethod args0 :: below }]
def below0 : List Frame := [.native { method := ⟨0, 0⟩, args := #[] }]
def about1 : State := aboutOver below0
def p0 : Program := .bare "" "" ""
def e0 : Env := launch0.env 0 0 0
theorem w_frames : about1.frames = Frame.invoking theMethod args0 :: below0 := rfl
set_option maxRecDepth 65536 in
theorem w_args : argsFit about1.vm theMethod args0 = true := by decide +kernel
set_option maxRecDepth 65536 in
theorem w_heap : heapFits about1 = true := by decide +kernel
set_option maxRecDepth 65536 in
theorem w_runnable : about1.curStatus? = some .runnable := by decide +kernel
set_option maxRecDepth 65536 in
theorem w_alone : about1.alone = true := by decide +kernel
set_option maxRecDepth 65536 in
theorem w_named : about1.methodNamed? x = some theMethod := by decide +kernel
set_option maxRecDepth 65536 in
theorem w_hears : about1.hears theMethod below0 = true := by decide +kernel
set_option maxRecDepth 65536 in
theorem w_ripe : about1.ripe theMethod args0 below0 = true := by decide +kernel
theorem w_running : about1.status = .running := rfl
set_option maxRecDepth 65536 in
theorem w_room : about1.hasRoom e0.platform room_1 = true :=
  launch0.hasRoom_least _ room_1 (by decide +kernel) (by decide +kernel) (by decide +kernel) (by decide +kernel) (by decide +kernel) (by decide +kernel)
theorem allAtoms_all (ts : List Jvm.Cond) (a : Array Jvm.Value) (st : Jvm.State) : (allAtoms ts).before a st = ts.all (fun c => c.before a st) := by
  induction ts with
  | nil => rfl
  | cons c t ih =>
    show (Jvm.Cond.and c (allAtoms t)).before a st = _
    rw [Jvm.Cond.before_and, ih, List.all_cons]
def words1 : List Jvm.Cond := Jvm.Cond.code x code maxLocals ret :: tables_1
/-- a 'code' word, met by the world's own term for the bytes: nothing is compared byte by byte -/
theorem code_word {y : MethodName} {bytes : ByteArray} {mx : Nat} {rt : Option FieldType} {a : Array Value} {s : State} {m : MethodId} {meth : Method} {c : Code} (h1 : s.methodNamed? y = some m) (h2 : s.vm.method? m = some meth) (h3 : meth.code = some c) (h4 : c.code = bytes)
    (h5 : (c.maxLocals == mx && c.exceptionTable.isEmpty && decide (c.maxStack ≤ mostOperands) && decide (meth.sig.returnType = rt) && !meth.locks && decide (parseMethodDescriptor y.desc = some meth.sig)) = true) : (Jvm.Cond.code y bytes mx rt).before a s = true := by
  simp only [Bool.and_eq_true, beq_iff_eq, Bool.not_eq_true', decide_eq_true_eq] at h5
  obtain ⟨⟨⟨⟨⟨g1, g2⟩, g3⟩, g4⟩, g5⟩, g6⟩ := h5
  simp [Cond.before, Cond.holds, Cond.value, h1, h2, h3, h4, g1, g2, g3, g4, g5, g6]
def isCode : Jvm.Cond → Bool
  | .code _ _ _ _ => true
  | _ => false
theorem all_split {L : List Jvm.Cond} {P : Jvm.Cond → Bool} (h1 : L.all (fun c => isCode c || P c) = true) (h2 : ∀ c ∈ L.filter isCode, P c = true) : L.all P = true := by
  refine List.all_eq_true.mpr fun c hc => ?_
  have h := List.all_eq_true.mp h1 c hc
  rcases Bool.eq_false_or_eq_true (isCode c) with hi | hi
  · exact h2 c (List.mem_filter.mpr ⟨hc, hi⟩)
  · simpa [hi] using h
set_option maxRecDepth 65536 in
theorem w_c0 : (Jvm.Cond.code x code maxLocals ret).before args0 about1 = true := code_word (m := ⟨1, 1⟩) (meth := k1m1) (c := k1c1) (by decide +kernel) rfl rfl rfl (by decide +kernel)
set_option maxRecDepth 65536 in
theorem w_c1 : (Jvm.Cond.code ({ cls := "com/example/ord3/ord3/Role", name := "servesSessions", desc := "()Z" } : Jvm.MethodName) prog_7_method_4_code (1 : Nat) (Option.some Jvm.ClassFile.FieldType.boolean)).before args0 about1 = true := code_word (m := ⟨6, 0⟩) (meth := k6m0) (c := k6c0) (by decide +kernel) rfl rfl rfl (by decide +kernel)
def codes1 : List Jvm.Cond := [Jvm.Cond.code x code maxLocals ret, Jvm.Cond.code ({ cls := "com/example/ord3/ord3/Role", name := "servesSessions", desc := "()Z" } : Jvm.MethodName) prog_7_method_4_code (1 : Nat) (Option.some Jvm.ClassFile.FieldType.boolean)]
set_option maxRecDepth 65536 in
theorem codes_eq : words1.filter isCode = codes1 := rfl
theorem w_codes : ∀ c ∈ words1.filter isCode, c.before args0 about1 = true := by
  rw [codes_eq]
  intro c hc
  simp only [codes1, List.mem_cons, List.not_mem_nil, or_false] at hc
  rcases hc with rfl | rfl
  · exact w_c0
  · exact w_c1
set_option maxRecDepth 65536 in
theorem w_t1 : words1.all (fun c => isCode c || c.before args0 about1) = true := by decide +kernel
theorem w_tables : (allAtoms (Jvm.Cond.code x code maxLocals ret :: tables_1)).before args0 about1 = true := by
  rw [allAtoms_all]
  show words1.all (fun c => c.before args0 about1) = true
  refine all_split ?_ w_codes
  rw [w_t1]
set_option maxRecDepth 65536 in
theorem w_case : (Jvm.Cond.and given_1 narrow_1).before args0 about1 = true := by decide +kernel
theorem w_applies : (headSpec (Jvm.Cond.code x code maxLocals ret :: tables_1) room_1).applies x e0.platform about1 = true :=
  (Spec.applies_iff w_frames).mpr ⟨w_running, w_runnable, w_alone, w_named, w_hears, w_ripe, w_room, w_tables⟩
theorem atStart : AtStart classFile x code maxLocals ret World_1 tables_1 room_1 Calls_1 rest_1 Pre_1 launch0 p0 e0 about1 theMethod args0 below0 :=
  ⟨lists_1, trivial, launch0.admits_env _ _ _, launch0.least_env, fairChoices_fair.cas, fairChoices_fair.clock, w_frames, w_args, w_heap, w_applies, trivial, trivial, w_case⟩
end start1
theorem witness_1 : WitnessClaimed_1 := ⟨start1.p0, start1.e0, start1.about1, start1.theMethod, start1.args0, start1.below0, start1.atStart⟩
end Jvm.Pilot.@@N@@
