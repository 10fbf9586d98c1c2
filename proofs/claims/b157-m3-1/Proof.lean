import JvmDerived
import JvmDerived.Pilot.@@N@@Statement
import JvmDerived.Pilot.@@N@@Code
set_option linter.unusedVariables false
set_option linter.unusedSimpArgs false
namespace Jvm.RoadKit
open Sem ClassFile Op Lib Jvm.Stand Jvm.Free Jvm.LawKit
section New
variable {p : Program} {l : Launch} {e : Env} {R : Room} {s : State} {m : MethodId} {args : Array Value} {below : List Frame} {meth : Method} {c : Code} {T : State} {locs : List Loc} {cells slots : Nat}
/-- what a body hands back: the value r, and K of the heap and the places at its end -/
def own_Q (r : Option Value) (K : Heap → List Loc → Prop) (v : Option Value) (h : Heap) (L : List Loc) : Prop := v = r ∧ K h L
/-- nothing is written, nothing is made -/
def own_K0 (h0 : Heap) (h : Heap) (L : List Loc) : Prop := L = [] ∧ h = h0
/-- from F on the run returns r with K -/
def own_Go (p : Program) (e : Env) (below : List Frame) (s : State) (C N : Nat) (r : Option Value) (K : Heap → List Loc → Prop) (F : State) : Prop :=
  ∃ s₂ o, Steps p.tables e below F s₂ ∧ s₂.status = .running ∧ Ended s₂ below o ∧ ∃ v L, o = .returned v ∧ own_Q r K v s₂.heap L ∧ FrameEnd s o s₂ L C N
theorem own_pre {C N : Nat} {r : Option Value} {K : Heap → List Loc → Prop} {F F' : State} (h : ∀ t, Steps p.tables e below F' t → Steps p.tables e below F t) (g : own_Go p e below s C N r K F') : own_Go p e below s C N r K F := by
  obtain ⟨t, o, a, b⟩ := g
  exact ⟨t, o, h t a, b⟩
theorem own_iteI {C N : Nat} {K : Heap → List Loc → Prop} {F : State} {P : Prop} [Decidable P] {a b : Int32} (h1 : P → own_Go p e below s C N (some (.int a)) K F) (h2 : ¬ P → own_Go p e below s C N (some (.int b)) K F) : own_Go p e below s C N (some (.int (if P then a else b))) K F := by
  by_cases q : P
  · rw [if_pos q]; exact h1 q
  · rw [if_neg q]; exact h2 q
theorem own_iteJ {C N : Nat} {K : Heap → List Loc → Prop} {F : State} {P : Prop} [Decidable P] {a b : Int64} (h1 : P → own_Go p e below s C N (some (.long a)) K F) (h2 : ¬ P → own_Go p e below s C N (some (.long b)) K F) : own_Go p e below s C N (some (.long (if P then a else b))) K F := by
  by_cases q : P
  · rw [if_pos q]; exact h1 q
  · rw [if_neg q]; exact h2 q
theorem own_iteR {C N : Nat} {K : Heap → List Loc → Prop} {F : State} {P : Prop} [Decidable P] {a b : Addr} (h1 : P → own_Go p e below s C N (some (.ref a)) K F) (h2 : ¬ P → own_Go p e below s C N (some (.ref b)) K F) : own_Go p e below s C N (some (.ref (if P then a else b))) K F := by
  by_cases q : P
  · rw [if_pos q]; exact h1 q
  · rw [if_neg q]; exact h2 q
theorem own_iteV {C N : Nat} {K : Heap → List Loc → Prop} {F : State} {P : Prop} [Decidable P] {a b : Value} (h1 : P → own_Go p e below s C N (some a) K F) (h2 : ¬ P → own_Go p e below s C N (some b) K F) : own_Go p e below s C N (some (if P then a else b)) K F := by
  by_cases q : P
  · rw [if_pos q]; exact h1 q
  · rw [if_neg q]; exact h2 q
theorem own_ret (X : Stand p l e R s m args below meth c T locs cells slots) (hx : p.tables.exec = Jvm.exec) (hlocks : meth.locks = false) {pc : Nat} {Ls : Array Slot} {w : Value} {t : FieldType} {i : Instr} {rest : List Value} {C N : Nat} {K : Heap → List Loc → Prop} (hret : meth.sig.returnType = some t) (hn : narrow t w = w)
    (hi : (i = .ireturn ∧ (t = .int ∨ t = .boolean ∨ t = .byte ∨ t = .char ∨ t = .short) ∧ ∃ z, w = .int z) ∨ (i = .lreturn ∧ t = .long ∧ ∃ z, w = .long z) ∨ (i = .areturn ∧ t.isReference = true ∧ w.isRef = true))
    (hd : decode c.code pc = .ok (i, 1)) (hK : K T.heap locs) (hC : cells ≤ C) (hN : slots ≤ N) : own_Go p e below s C N (some w) K (T.setTop (mkF m pc Ls (w :: rest))) := by
  obtain ⟨fs, hr, hrun, hended, hW, hsame⟩ := X.leave (v := some w) (fun h => by rw [hret] at h; cases h)
  refine ⟨_, _, retOut X hx hret hn ?_ hd hr, hrun, hended, _, _, rfl, ⟨rfl, hK⟩, ⟨_, rfl⟩, hW, hsame.mono hC hN⟩
  rcases hi with h | h | h
  · exact Or.inl h
  · exact Or.inr (Or.inl h)
  · exact Or.inr (Or.inr (Or.inr (Or.inr h)))
theorem own_retN (X : Stand p l e R s m args below meth c T locs cells slots) (hx : p.tables.exec = Jvm.exec) (hlocks : meth.locks = false) {pc : Nat} {Ls : Array Slot} {z : Int32} {t : FieldType} {rest : List Value} {C N : Nat} {K : Heap → List Loc → Prop} (hret : meth.sig.returnType = some t) (ht : t = .boolean ∨ t = .byte ∨ t = .char ∨ t = .short)
    (hd : decode c.code pc = .ok (.ireturn, 1)) (hK : K T.heap locs) (hC : cells ≤ C) (hN : slots ≤ N) : own_Go p e below s C N (some (.int (nar t z))) K (T.setTop (mkF m pc Ls (.int z :: rest))) := by
  obtain ⟨fs, hr, hrun, hended, hW, hsame⟩ := X.leave (v := some (.int (nar t z))) (fun h => by rw [hret] at h; cases h)
  exact ⟨_, _, retN X hx hret ht hd hr, hrun, hended, _, _, rfl, ⟨rfl, hK⟩, ⟨_, rfl⟩, hW, hsame.mono hC hN⟩
theorem own_retV (X : Stand p l e R s m args below meth c T locs cells slots) (hx : p.tables.exec = Jvm.exec) (hlocks : meth.locks = false) {pc : Nat} {Ls : Array Slot} {C N : Nat} {K : Heap → List Loc → Prop} (hret : meth.sig.returnType = none)
    (hd : decode c.code pc = .ok (.return_, 1)) (hK : K T.heap locs) (hC : cells ≤ C) (hN : slots ≤ N) : own_Go p e below s C N none K (T.setTop (mkF m pc Ls [])) := by
  obtain ⟨fs, hr, hrun, hended, hW, hsame⟩ := X.leave (v := none) (fun _ => rfl)
  exact ⟨_, _, X.returnOut hx hret hd hr, hrun, hended, _, _, rfl, ⟨rfl, hK⟩, ⟨_, rfl⟩, hW, hsame.mono hC hN⟩
theorem own_lremM {g : JFrame} {target : State} (X : Stand p l e R s m args below meth c T locs cells slots) (hx : p.tables.exec = Jvm.exec) (hg : g.method = m) {x y : Int64} {rest : List Value} (hd : decode c.code g.pc = .ok (.lrem, 1)) (hs : g.stack = .long y :: .long x :: rest) (hy : y ≠ 0)
    (hr : Steps p.tables e below (T.setTop { g with pc := g.pc + 1, stack := .long (x % y) :: rest }) target) : Steps p.tables e below (T.setTop g) target :=
  XS.lrem X.here hx hg hd hs hy (by rw [lrem_mod]; exact hr)
theorem own_cat {v : Value} (h : v.isRef = true) : v.category = 1 := by rcases ref_cases h with rfl | ⟨a, rfl⟩ <;> rfl
theorem own_nar (z : Int32) : nar .boolean z = z &&& 1 := rfl
end New
end Jvm.RoadKit
namespace Jvm.Pilot.@@N@@
open Jvm Jvm.ClassFile Sem Op Lib Jvm.Free Jvm.Stand Jvm.LawKit Jvm.RoadKit Bundle Jvm.Pilot.@@N@@.Jvm.D
theorem own_eqI {t : Term} {n : Int32} {args : Array Value} {s : State} (h : (Jvm.Cond.eq t (.int n)).value args s none s [] = some true) : t.eval args s none [] s = some (.int n) := by
  simp only [Cond.value] at h
  have hn : (Term.int n).eval args s none [] s = some (.int n) := rfl
  rw [hn] at h
  cases ht : t.eval args s none [] s with
  | none => simp [ht] at h
  | some v => cases v <;> simp [ht] at h ⊢; exact h
/-! body 1 -/
theorem d1_0 : decode method_3_code 0 = .ok (.iload_n 0, 1) := by decide +kernel
theorem d1_1 : decode method_3_code 1 = .ok (.ifCond .ne 7, 3) := by decide +kernel
theorem d1_4 : decode method_3_code 4 = .ok (.getstatic 20, 3) := by decide +kernel
theorem d1_7 : decode method_3_code 7 = .ok (.areturn, 1) := by decide +kernel
theorem d1_8 : decode method_3_code 8 = .ok (.iload_n 0, 1) := by decide +kernel
theorem d1_9 : decode method_3_code 9 = .ok (.iconst 1, 1) := by decide +kernel
theorem d1_10 : decode method_3_code 10 = .ok (.if_icmp .ne 7, 3) := by decide +kernel
theorem d1_13 : decode method_3_code 13 = .ok (.getstatic 24, 3) := by decide +kernel
theorem d1_16 : decode method_3_code 16 = .ok (.areturn, 1) := by decide +kernel
theorem d1_17 : decode method_3_code 17 = .ok (.iload_n 0, 1) := by decide +kernel
theorem d1_18 : decode method_3_code 18 = .ok (.iconst 2, 1) := by decide +kernel
theorem d1_19 : decode method_3_code 19 = .ok (.if_icmp .ne 7, 3) := by decide +kernel
theorem d1_22 : decode method_3_code 22 = .ok (.getstatic 27, 3) := by decide +kernel
theorem d1_25 : decode method_3_code 25 = .ok (.areturn, 1) := by decide +kernel
theorem d1_26 : decode method_3_code 26 = .ok (.iload_n 0, 1) := by decide +kernel
theorem d1_27 : decode method_3_code 27 = .ok (.iconst 3, 1) := by decide +kernel
theorem d1_28 : decode method_3_code 28 = .ok (.if_icmp .ne 7, 3) := by decide +kernel
theorem d1_31 : decode method_3_code 31 = .ok (.getstatic 30, 3) := by decide +kernel
theorem d1_34 : decode method_3_code 34 = .ok (.areturn, 1) := by decide +kernel
theorem d1_35 : decode method_3_code 35 = .ok (.iload_n 0, 1) := by decide +kernel
theorem d1_36 : decode method_3_code 36 = .ok (.iconst 4, 1) := by decide +kernel
theorem d1_37 : decode method_3_code 37 = .ok (.if_icmp .ne 7, 3) := by decide +kernel
theorem d1_40 : decode method_3_code 40 = .ok (.getstatic 33, 3) := by decide +kernel
theorem d1_43 : decode method_3_code 43 = .ok (.areturn, 1) := by decide +kernel
theorem d1_44 : decode method_3_code 44 = .ok (.iload_n 0, 1) := by decide +kernel
theorem d1_45 : decode method_3_code 45 = .ok (.iconst 5, 1) := by decide +kernel
theorem d1_46 : decode method_3_code 46 = .ok (.if_icmp .ne 7, 3) := by decide +kernel
theorem d1_49 : decode method_3_code 49 = .ok (.getstatic 36, 3) := by decide +kernel
theorem d1_52 : decode method_3_code 52 = .ok (.areturn, 1) := by decide +kernel
theorem d1_53 : decode method_3_code 53 = .ok (.getstatic 39, 3) := by decide +kernel
theorem d1_56 : decode method_3_code 56 = .ok (.areturn, 1) := by decide +kernel
theorem own_pn0 : plainName "com/example/tsugiki/tsugiki/node/NodeKindIsNamedPinLaw" = true := by first | (simp [plainName, overriddenIn]; done) | decide +kernel
def f1_0 (p0 : Int32) (w_DOCUMENT : Addr) (w_ELEMENT : Addr) (w_NAMESPACE : Addr) (w_ATTRIBUTE : Addr) (w_TEXT : Addr) (w_COMMENT : Addr) (w_PROCESSING_INSTRUCTION : Addr) : Addr := (if p0 = (0 : Int32) then w_DOCUMENT else (if p0 = (1 : Int32) then w_ELEMENT else (if p0 = (2 : Int32) then w_NAMESPACE else (if p0 = (3 : Int32) then w_ATTRIBUTE else (if p0 = (4 : Int32) then w_TEXT else (if p0 = (5 : Int32) then w_COMMENT else w_PROCESSING_INSTRUCTION))))))
set_option maxRecDepth 65536 in
set_option maxHeartbeats 40000000 in
theorem g1_0 {p : Program} {l : Launch} {e : Env} {s : State} {m : MethodId} {below : List Frame} {meth : Method} {c : Code} {s₁ : State} {ws : List Jvm.Cond} {Z : State} {aw : Array Value} (hw : ∀ d ∈ tables_1, d.before aw Z = true) {h0 : Heap} (p0 : Int32) (w_DOCUMENT : Addr) (w_ELEMENT : Addr) (w_NAMESPACE : Addr) (w_ATTRIBUTE : Addr) (w_TEXT : Addr) (w_COMMENT : Addr) (w_PROCESSING_INSTRUCTION : Addr) (Sw_DOCUMENT : Sta Z h0 "com/example/tsugiki/tsugiki/node/NodeKind" "DOCUMENT" "Lcom/example/tsugiki/tsugiki/node/NodeKind;" (.ref w_DOCUMENT)) (Sw_ELEMENT : Sta Z h0 "com/example/tsugiki/tsugiki/node/NodeKind" "ELEMENT" "Lcom/example/tsugiki/tsugiki/node/NodeKind;" (.ref w_ELEMENT)) (Sw_NAMESPACE : Sta Z h0 "com/example/tsugiki/tsugiki/node/NodeKind" "NAMESPACE" "Lcom/example/tsugiki/tsugiki/node/NodeKind;" (.ref w_NAMESPACE)) (Sw_ATTRIBUTE : Sta Z h0 "com/example/tsugiki/tsugiki/node/NodeKind" "ATTRIBUTE" "Lcom/example/tsugiki/tsugiki/node/NodeKind;" (.ref w_ATTRIBUTE)) (Sw_TEXT : Sta Z h0 "com/example/tsugiki/tsugiki/node/NodeKind" "TEXT" "Lcom/example/tsugiki/tsugiki/node/NodeKind;" (.ref w_TEXT)) (Sw_COMMENT : Sta Z h0 "com/example/tsugiki/tsugiki/node/NodeKind" "COMMENT" "Lcom/example/tsugiki/tsugiki/node/NodeKind;" (.ref w_COMMENT)) (Sw_PROCESSING_INSTRUCTION : Sta Z h0 "com/example/tsugiki/tsugiki/node/NodeKind" "PROCESSING_INSTRUCTION" "Lcom/example/tsugiki/tsugiki/node/NodeKind;" (.ref w_PROCESSING_INSTRUCTION))
    (Bd : BodyLoose p l (⟨"com/example/tsugiki/tsugiki/node/NodeKindIsNamedPinLaw", "pick", "(I)Lcom/example/tsugiki/tsugiki/node/NodeKind;"⟩ : MethodName) (head1 (Jvm.Cond.code (⟨"com/example/tsugiki/tsugiki/node/NodeKindIsNamedPinLaw", "pick", "(I)Lcom/example/tsugiki/tsugiki/node/NodeKind;"⟩ : MethodName) method_3_code 1 (some (.object "com/example/tsugiki/tsugiki/node/NodeKind")) :: ws) ({ frames := 0, cells := 0, slots := 0, locals := 0 } : Room)) method_3_code 1 (some (.object "com/example/tsugiki/tsugiki/node/NodeKind")) e s m #[(.int p0)] below meth c s₁) (hml : c.maxLocals = 1) (hZ : Z.Warmed39 s.vm) (T0 : State) (X0 : Stand p l e ({ frames := 0, cells := 0, slots := 0, locals := 0 } : Room) s m #[(.int p0)] below meth c T0 [] 0 0) (e0 : T0.heap = h0) :
    own_Go p e below s ({ frames := 0, cells := 0, slots := 0, locals := 0 } : Room).cells ({ frames := 0, cells := 0, slots := 0, locals := 0 } : Room).slots (some (.ref (f1_0 p0 w_DOCUMENT w_ELEMENT w_NAMESPACE w_ATTRIBUTE w_TEXT w_COMMENT w_PROCESSING_INSTRUCTION))) (own_K0 h0) (T0.setTop (mkF m 0 #[.val (.int p0)] [])) := by
  have hx := Bd.exec
  have hby := Bd.bytes
  have hown : s.vm.findClass "com/example/tsugiki/tsugiki/node/NodeKindIsNamedPinLaw" = some m.cls := findClass_of_methodNamed Bd.named
  unfold f1_0
  refine own_pre (F' := T0.setTop (mkF m 1 #[.val (.int p0)] [(.int p0)])) (fun _ k => XS.iloadN X0.here hx rfl (hb hby d1_0) rfl k) ?_
  refine own_iteR (fun hc1 => ?_) (fun hc1 => ?_)
  · skip
    refine own_pre (F' := T0.setTop (mkF m 4 #[.val (.int p0)] [])) (fun _ k => XS.ifNo X0.here hx rfl (hb hby d1_1) rfl ((if0 _ _).trans (teq hc1).2) k) ?_
    obtain ⟨T1, X1, e1, st'⟩ := getS2 X0 hx hZ hown (host := "") (Or.inl (hw _ (List.mem_of_getElem? (i := 5) rfl))) Via.refl e0 Sw_DOCUMENT (g := (mkF m 4 #[.val (.int p0)] [])) rfl (hb hby d1_4)
    refine own_pre (F' := T1.setTop (mkF m 7 #[.val (.int p0)] [(.ref w_DOCUMENT)])) (fun t k => st' t k) ?_
    exact own_ret X1 hx Bd.notSynchronized Bd.returns rfl (Or.inr (Or.inr ⟨rfl, rfl, rfl⟩)) (hb hby d1_7) ⟨rfl, e1⟩ (by decide) (by decide)
  · skip
    refine own_pre (F' := T0.setTop (mkF m 8 #[.val (.int p0)] [])) (fun _ k => XS.ifYes X0.here hx rfl (pc0 := 1) (pc' := 8) rfl (hb hby d1_1) rfl ((if0 _ _).trans (feq hc1).2) (by decide) (by decide) k) ?_
    refine own_pre (F' := T0.setTop (mkF m 9 #[.val (.int p0)] [(.int p0)])) (fun _ k => XS.iloadN X0.here hx rfl (hb hby d1_8) rfl k) ?_
    refine own_pre (F' := T0.setTop (mkF m 10 #[.val (.int p0)] [(.int (1 : Int32)), (.int p0)])) (fun _ k => XS.iconst X0.here hx rfl (hb hby d1_9) k) ?_
    refine own_iteR (fun hc10 => ?_) (fun hc10 => ?_)
    · skip
      refine own_pre (F' := T0.setTop (mkF m 13 #[.val (.int p0)] [])) (fun _ k => XS.icmpNo X0.here hx rfl (hb hby d1_10) rfl (teq hc10).2 k) ?_
      obtain ⟨T2, X2, e2, st'⟩ := getS2 X0 hx hZ hown (host := "") (Or.inl (hw _ (List.mem_of_getElem? (i := 28) rfl))) Via.refl e0 Sw_ELEMENT (g := (mkF m 13 #[.val (.int p0)] [])) rfl (hb hby d1_13)
      refine own_pre (F' := T2.setTop (mkF m 16 #[.val (.int p0)] [(.ref w_ELEMENT)])) (fun t k => st' t k) ?_
      exact own_ret X2 hx Bd.notSynchronized Bd.returns rfl (Or.inr (Or.inr ⟨rfl, rfl, rfl⟩)) (hb hby d1_16) ⟨rfl, e2⟩ (by decide) (by decide)
    · skip
      refine own_pre (F' := T0.setTop (mkF m 17 #[.val (.int p0)] [])) (fun _ k => XS.icmpYes X0.here hx rfl (pc0 := 10) (pc' := 17) rfl (hb hby d1_10) rfl (feq hc10).2 (by decide) (by decide) k) ?_
      refine own_pre (F' := T0.setTop (mkF m 18 #[.val (.int p0)] [(.int p0)])) (fun _ k => XS.iloadN X0.here hx rfl (hb hby d1_17) rfl k) ?_
      refine own_pre (F' := T0.setTop (mkF m 19 #[.val (.int p0)] [(.int (2 : Int32)), (.int p0)])) (fun _ k => XS.iconst X0.here hx rfl (hb hby d1_18) k) ?_
      refine own_iteR (fun hc19 => ?_) (fun hc19 => ?_)
      · skip
        refine own_pre (F' := T0.setTop (mkF m 22 #[.val (.int p0)] [])) (fun _ k => XS.icmpNo X0.here hx rfl (hb hby d1_19) rfl (teq hc19).2 k) ?_
        obtain ⟨T3, X3, e3, st'⟩ := getS2 X0 hx hZ hown (host := "") (Or.inl (hw _ (List.mem_of_getElem? (i := 27) rfl))) Via.refl e0 Sw_NAMESPACE (g := (mkF m 22 #[.val (.int p0)] [])) rfl (hb hby d1_22)
        refine own_pre (F' := T3.setTop (mkF m 25 #[.val (.int p0)] [(.ref w_NAMESPACE)])) (fun t k => st' t k) ?_
        exact own_ret X3 hx Bd.notSynchronized Bd.returns rfl (Or.inr (Or.inr ⟨rfl, rfl, rfl⟩)) (hb hby d1_25) ⟨rfl, e3⟩ (by decide) (by decide)
      · skip
        refine own_pre (F' := T0.setTop (mkF m 26 #[.val (.int p0)] [])) (fun _ k => XS.icmpYes X0.here hx rfl (pc0 := 19) (pc' := 26) rfl (hb hby d1_19) rfl (feq hc19).2 (by decide) (by decide) k) ?_
        refine own_pre (F' := T0.setTop (mkF m 27 #[.val (.int p0)] [(.int p0)])) (fun _ k => XS.iloadN X0.here hx rfl (hb hby d1_26) rfl k) ?_
        refine own_pre (F' := T0.setTop (mkF m 28 #[.val (.int p0)] [(.int (3 : Int32)), (.int p0)])) (fun _ k => XS.iconst X0.here hx rfl (hb hby d1_27) k) ?_
        refine own_iteR (fun hc28 => ?_) (fun hc28 => ?_)
        · skip
          refine own_pre (F' := T0.setTop (mkF m 31 #[.val (.int p0)] [])) (fun _ k => XS.icmpNo X0.here hx rfl (hb hby d1_28) rfl (teq hc28).2 k) ?_
          obtain ⟨T4, X4, e4, st'⟩ := getS2 X0 hx hZ hown (host := "") (Or.inl (hw _ (List.mem_of_getElem? (i := 21) rfl))) Via.refl e0 Sw_ATTRIBUTE (g := (mkF m 31 #[.val (.int p0)] [])) rfl (hb hby d1_31)
          refine own_pre (F' := T4.setTop (mkF m 34 #[.val (.int p0)] [(.ref w_ATTRIBUTE)])) (fun t k => st' t k) ?_
          exact own_ret X4 hx Bd.notSynchronized Bd.returns rfl (Or.inr (Or.inr ⟨rfl, rfl, rfl⟩)) (hb hby d1_34) ⟨rfl, e4⟩ (by decide) (by decide)
        · skip
          refine own_pre (F' := T0.setTop (mkF m 35 #[.val (.int p0)] [])) (fun _ k => XS.icmpYes X0.here hx rfl (pc0 := 28) (pc' := 35) rfl (hb hby d1_28) rfl (feq hc28).2 (by decide) (by decide) k) ?_
          refine own_pre (F' := T0.setTop (mkF m 36 #[.val (.int p0)] [(.int p0)])) (fun _ k => XS.iloadN X0.here hx rfl (hb hby d1_35) rfl k) ?_
          refine own_pre (F' := T0.setTop (mkF m 37 #[.val (.int p0)] [(.int (4 : Int32)), (.int p0)])) (fun _ k => XS.iconst X0.here hx rfl (hb hby d1_36) k) ?_
          refine own_iteR (fun hc37 => ?_) (fun hc37 => ?_)
          · skip
            refine own_pre (F' := T0.setTop (mkF m 40 #[.val (.int p0)] [])) (fun _ k => XS.icmpNo X0.here hx rfl (hb hby d1_37) rfl (teq hc37).2 k) ?_
            obtain ⟨T5, X5, e5, st'⟩ := getS2 X0 hx hZ hown (host := "") (Or.inl (hw _ (List.mem_of_getElem? (i := 25) rfl))) Via.refl e0 Sw_TEXT (g := (mkF m 40 #[.val (.int p0)] [])) rfl (hb hby d1_40)
            refine own_pre (F' := T5.setTop (mkF m 43 #[.val (.int p0)] [(.ref w_TEXT)])) (fun t k => st' t k) ?_
            exact own_ret X5 hx Bd.notSynchronized Bd.returns rfl (Or.inr (Or.inr ⟨rfl, rfl, rfl⟩)) (hb hby d1_43) ⟨rfl, e5⟩ (by decide) (by decide)
          · skip
            refine own_pre (F' := T0.setTop (mkF m 44 #[.val (.int p0)] [])) (fun _ k => XS.icmpYes X0.here hx rfl (pc0 := 37) (pc' := 44) rfl (hb hby d1_37) rfl (feq hc37).2 (by decide) (by decide) k) ?_
            refine own_pre (F' := T0.setTop (mkF m 45 #[.val (.int p0)] [(.int p0)])) (fun _ k => XS.iloadN X0.here hx rfl (hb hby d1_44) rfl k) ?_
            refine own_pre (F' := T0.setTop (mkF m 46 #[.val (.int p0)] [(.int (5 : Int32)), (.int p0)])) (fun _ k => XS.iconst X0.here hx rfl (hb hby d1_45) k) ?_
            refine own_iteR (fun hc46 => ?_) (fun hc46 => ?_)
            · skip
              refine own_pre (F' := T0.setTop (mkF m 49 #[.val (.int p0)] [])) (fun _ k => XS.icmpNo X0.here hx rfl (hb hby d1_46) rfl (teq hc46).2 k) ?_
              obtain ⟨T6, X6, e6, st'⟩ := getS2 X0 hx hZ hown (host := "") (Or.inl (hw _ (List.mem_of_getElem? (i := 22) rfl))) Via.refl e0 Sw_COMMENT (g := (mkF m 49 #[.val (.int p0)] [])) rfl (hb hby d1_49)
              refine own_pre (F' := T6.setTop (mkF m 52 #[.val (.int p0)] [(.ref w_COMMENT)])) (fun t k => st' t k) ?_
              exact own_ret X6 hx Bd.notSynchronized Bd.returns rfl (Or.inr (Or.inr ⟨rfl, rfl, rfl⟩)) (hb hby d1_52) ⟨rfl, e6⟩ (by decide) (by decide)
            · skip
              refine own_pre (F' := T0.setTop (mkF m 53 #[.val (.int p0)] [])) (fun _ k => XS.icmpYes X0.here hx rfl (pc0 := 46) (pc' := 53) rfl (hb hby d1_46) rfl (feq hc46).2 (by decide) (by decide) k) ?_
              obtain ⟨T7, X7, e7, st'⟩ := getS2 X0 hx hZ hown (host := "") (Or.inl (hw _ (List.mem_of_getElem? (i := 24) rfl))) Via.refl e0 Sw_PROCESSING_INSTRUCTION (g := (mkF m 53 #[.val (.int p0)] [])) rfl (hb hby d1_53)
              refine own_pre (F' := T7.setTop (mkF m 56 #[.val (.int p0)] [(.ref w_PROCESSING_INSTRUCTION)])) (fun t k => st' t k) ?_
              exact own_ret X7 hx Bd.notSynchronized Bd.returns rfl (Or.inr (Or.inr ⟨rfl, rfl, rfl⟩)) (hb hby d1_56) ⟨rfl, e7⟩ (by decide) (by decide)
theorem ef_1 (m : MethodId) (p0 : Int32) : entryFrame m #[(.int p0)] 1 = mkF m 0 #[.val (.int p0)] [] := by first | (simp [entryFrame, mkF, argsToLocals, Value.category]; done) | rfl
set_option maxRecDepth 65536 in
set_option maxHeartbeats 40000000 in
theorem rm1 (l : Launch) (Z : State) (aw : Array Value) (hw : ∀ d ∈ tables_1, d.before aw Z = true) (ws : List Jvm.Cond) (p0 : Int32) (w_DOCUMENT : Addr) (w_ELEMENT : Addr) (w_NAMESPACE : Addr) (w_ATTRIBUTE : Addr) (w_TEXT : Addr) (w_COMMENT : Addr) (w_PROCESSING_INSTRUCTION : Addr) (h0 : Heap) (Sw_DOCUMENT : Sta Z h0 "com/example/tsugiki/tsugiki/node/NodeKind" "DOCUMENT" "Lcom/example/tsugiki/tsugiki/node/NodeKind;" (.ref w_DOCUMENT)) (Sw_ELEMENT : Sta Z h0 "com/example/tsugiki/tsugiki/node/NodeKind" "ELEMENT" "Lcom/example/tsugiki/tsugiki/node/NodeKind;" (.ref w_ELEMENT)) (Sw_NAMESPACE : Sta Z h0 "com/example/tsugiki/tsugiki/node/NodeKind" "NAMESPACE" "Lcom/example/tsugiki/tsugiki/node/NodeKind;" (.ref w_NAMESPACE)) (Sw_ATTRIBUTE : Sta Z h0 "com/example/tsugiki/tsugiki/node/NodeKind" "ATTRIBUTE" "Lcom/example/tsugiki/tsugiki/node/NodeKind;" (.ref w_ATTRIBUTE)) (Sw_TEXT : Sta Z h0 "com/example/tsugiki/tsugiki/node/NodeKind" "TEXT" "Lcom/example/tsugiki/tsugiki/node/NodeKind;" (.ref w_TEXT)) (Sw_COMMENT : Sta Z h0 "com/example/tsugiki/tsugiki/node/NodeKind" "COMMENT" "Lcom/example/tsugiki/tsugiki/node/NodeKind;" (.ref w_COMMENT)) (Sw_PROCESSING_INSTRUCTION : Sta Z h0 "com/example/tsugiki/tsugiki/node/NodeKind" "PROCESSING_INSTRUCTION" "Lcom/example/tsugiki/tsugiki/node/NodeKind;" (.ref w_PROCESSING_INSTRUCTION)) :
    MetFree l (⟨"com/example/tsugiki/tsugiki/node/NodeKindIsNamedPinLaw", "pick", "(I)Lcom/example/tsugiki/tsugiki/node/NodeKind;"⟩ : MethodName) (head1 (Jvm.Cond.code (⟨"com/example/tsugiki/tsugiki/node/NodeKindIsNamedPinLaw", "pick", "(I)Lcom/example/tsugiki/tsugiki/node/NodeKind;"⟩ : MethodName) method_3_code 1 (some (.object "com/example/tsugiki/tsugiki/node/NodeKind")) :: ws) ({ frames := 0, cells := 0, slots := 0, locals := 0 } : Room)) (fun a U => a = #[(.int p0)] ∧ Z.Warmed39 U.vm ∧ U.heap = h0) (fun _ _ _ _ _ => True) (fun _ U o U' => ∃ v L, o = .returned v ∧ own_Q (some (.ref (f1_0 p0 w_DOCUMENT w_ELEMENT w_NAMESPACE w_ATTRIBUTE w_TEXT w_COMMENT w_PROCESSING_INSTRUCTION))) (own_K0 h0) v U'.heap L ∧ FrameEnd U o U' L ({ frames := 0, cells := 0, slots := 0, locals := 0 } : Room).cells ({ frames := 0, cells := 0, slots := 0, locals := 0 } : Room).slots) := by
  refine MetFree.of_bodySF (plainFor_of_name own_pn0) hisR ?_
  intro p e s m args below meth c s₁ Bd hml0 hP hK
  obtain ⟨rfl, hZ, hh⟩ := hP
  have hml : c.maxLocals = 1 := hml0
  have e0 : s₁.heap = h0 := by rw [← hh, Bd.state]; rfl
  exact own_pre (fun t k => castTop (ef_1 m p0) k) (g1_0 hw p0 w_DOCUMENT w_ELEMENT w_NAMESPACE w_ATTRIBUTE w_TEXT w_COMMENT w_PROCESSING_INSTRUCTION Sw_DOCUMENT Sw_ELEMENT Sw_NAMESPACE Sw_ATTRIBUTE Sw_TEXT Sw_COMMENT Sw_PROCESSING_INSTRUCTION Bd hml hZ s₁ (Stand.of_body Bd) e0)
/-! body 2 -/
theorem d2_0 : decode prog_44_method_6_code 0 = .ok (.aload_n 0, 1) := by decide +kernel
theorem d2_1 : decode prog_44_method_6_code 1 = .ok (.getstatic 7, 3) := by decide +kernel
theorem d2_4 : decode prog_44_method_6_code 4 = .ok (.if_acmp .eq 24, 3) := by decide +kernel
theorem d2_7 : decode prog_44_method_6_code 7 = .ok (.aload_n 0, 1) := by decide +kernel
theorem d2_8 : decode prog_44_method_6_code 8 = .ok (.getstatic 10, 3) := by decide +kernel
theorem d2_11 : decode prog_44_method_6_code 11 = .ok (.if_acmp .eq 17, 3) := by decide +kernel
theorem d2_14 : decode prog_44_method_6_code 14 = .ok (.aload_n 0, 1) := by decide +kernel
theorem d2_15 : decode prog_44_method_6_code 15 = .ok (.getstatic 13, 3) := by decide +kernel
theorem d2_18 : decode prog_44_method_6_code 18 = .ok (.if_acmp .eq 10, 3) := by decide +kernel
theorem d2_21 : decode prog_44_method_6_code 21 = .ok (.aload_n 0, 1) := by decide +kernel
theorem d2_22 : decode prog_44_method_6_code 22 = .ok (.getstatic 22, 3) := by decide +kernel
theorem d2_25 : decode prog_44_method_6_code 25 = .ok (.if_acmp .ne 7, 3) := by decide +kernel
theorem d2_28 : decode prog_44_method_6_code 28 = .ok (.iconst 1, 1) := by decide +kernel
theorem d2_29 : decode prog_44_method_6_code 29 = .ok (.goto 4, 3) := by decide +kernel
theorem d2_32 : decode prog_44_method_6_code 32 = .ok (.iconst 0, 1) := by decide +kernel
theorem d2_33 : decode prog_44_method_6_code 33 = .ok (.ireturn, 1) := by decide +kernel
theorem own_pn1 : plainName "com/example/tsugiki/tsugiki/node/NodeKind" = true := by first | (simp [plainName, overriddenIn]; done) | decide +kernel
def f2_28 (a0 : Addr) (w_ELEMENT : Addr) (w_NAMESPACE : Addr) (w_ATTRIBUTE : Addr) (w_PROCESSING_INSTRUCTION : Addr) : Int32 := (1 : Int32)
set_option maxRecDepth 65536 in
set_option maxHeartbeats 40000000 in
theorem g2_28 {p : Program} {l : Launch} {e : Env} {s : State} {m : MethodId} {below : List Frame} {meth : Method} {c : Code} {s₁ : State} {ws : List Jvm.Cond} {Z : State} {aw : Array Value} (hw : ∀ d ∈ tables_1, d.before aw Z = true) {h0 : Heap} (a0 : Addr) (w_ELEMENT : Addr) (w_NAMESPACE : Addr) (w_ATTRIBUTE : Addr) (w_PROCESSING_INSTRUCTION : Addr) (Sw_ELEMENT : Sta Z h0 "com/example/tsugiki/tsugiki/node/NodeKind" "ELEMENT" "Lcom/example/tsugiki/tsugiki/node/NodeKind;" (.ref w_ELEMENT)) (Sw_NAMESPACE : Sta Z h0 "com/example/tsugiki/tsugiki/node/NodeKind" "NAMESPACE" "Lcom/example/tsugiki/tsugiki/node/NodeKind;" (.ref w_NAMESPACE)) (Sw_ATTRIBUTE : Sta Z h0 "com/example/tsugiki/tsugiki/node/NodeKind" "ATTRIBUTE" "Lcom/example/tsugiki/tsugiki/node/NodeKind;" (.ref w_ATTRIBUTE)) (Sw_PROCESSING_INSTRUCTION : Sta Z h0 "com/example/tsugiki/tsugiki/node/NodeKind" "PROCESSING_INSTRUCTION" "Lcom/example/tsugiki/tsugiki/node/NodeKind;" (.ref w_PROCESSING_INSTRUCTION))
    (Bd : BodyLoose p l (⟨"com/example/tsugiki/tsugiki/node/NodeKind", "isNamed", "()Z"⟩ : MethodName) (head1 (Jvm.Cond.code (⟨"com/example/tsugiki/tsugiki/node/NodeKind", "isNamed", "()Z"⟩ : MethodName) prog_44_method_6_code 1 (some .boolean) :: ws) ({ frames := 0, cells := 0, slots := 0, locals := 0 } : Room)) prog_44_method_6_code 1 (some .boolean) e s m #[(.ref a0)] below meth c s₁) (hml : c.maxLocals = 1) (hZ : Z.Warmed39 s.vm) (T0 : State) (X0 : Stand p l e ({ frames := 0, cells := 0, slots := 0, locals := 0 } : Room) s m #[(.ref a0)] below meth c T0 [] 0 0) (e0 : T0.heap = h0) :
    own_Go p e below s ({ frames := 0, cells := 0, slots := 0, locals := 0 } : Room).cells ({ frames := 0, cells := 0, slots := 0, locals := 0 } : Room).slots (some (.int (f2_28 a0 w_ELEMENT w_NAMESPACE w_ATTRIBUTE w_PROCESSING_INSTRUCTION))) (own_K0 h0) (T0.setTop (mkF m 28 #[.val (.ref a0)] [])) := by
  have hx := Bd.exec
  have hby := Bd.bytes
  have hown : s.vm.findClass "com/example/tsugiki/tsugiki/node/NodeKind" = some m.cls := findClass_of_methodNamed Bd.named
  unfold f2_28
  refine own_pre (F' := T0.setTop (mkF m 29 #[.val (.ref a0)] [(.int (1 : Int32))])) (fun _ k => XS.iconst X0.here hx rfl (hb hby d2_28) k) ?_
  refine own_pre (F' := T0.setTop (mkF m 33 #[.val (.ref a0)] [(.int (1 : Int32))])) (fun _ k => XS.goto X0.here hx rfl (pc0 := 29) (pc' := 33) rfl (hb hby d2_29) (by decide) (by decide) k) ?_
  exact own_ret X0 hx Bd.notSynchronized Bd.returns rfl (Or.inl ⟨rfl, by simp, _, rfl⟩) (hb hby d2_33) ⟨rfl, e0⟩ (by decide) (by decide)
def f2_0 (a0 : Addr) (w_ELEMENT : Addr) (w_NAMESPACE : Addr) (w_ATTRIBUTE : Addr) (w_PROCESSING_INSTRUCTION : Addr) : Int32 := (if a0 = w_ELEMENT then (f2_28 a0 w_ELEMENT w_NAMESPACE w_ATTRIBUTE w_PROCESSING_INSTRUCTION) else (if a0 = w_NAMESPACE then (f2_28 a0 w_ELEMENT w_NAMESPACE w_ATTRIBUTE w_PROCESSING_INSTRUCTION) else (if a0 = w_ATTRIBUTE then (f2_28 a0 w_ELEMENT w_NAMESPACE w_ATTRIBUTE w_PROCESSING_INSTRUCTION) else (if a0 = w_PROCESSING_INSTRUCTION then (f2_28 a0 w_ELEMENT w_NAMESPACE w_ATTRIBUTE w_PROCESSING_INSTRUCTION) else (0 : Int32)))))
set_option maxRecDepth 65536 in
set_option maxHeartbeats 40000000 in
theorem g2_0 {p : Program} {l : Launch} {e : Env} {s : State} {m : MethodId} {below : List Frame} {meth : Method} {c : Code} {s₁ : State} {ws : List Jvm.Cond} {Z : State} {aw : Array Value} (hw : ∀ d ∈ tables_1, d.before aw Z = true) {h0 : Heap} (a0 : Addr) (w_ELEMENT : Addr) (w_NAMESPACE : Addr) (w_ATTRIBUTE : Addr) (w_PROCESSING_INSTRUCTION : Addr) (Sw_ELEMENT : Sta Z h0 "com/example/tsugiki/tsugiki/node/NodeKind" "ELEMENT" "Lcom/example/tsugiki/tsugiki/node/NodeKind;" (.ref w_ELEMENT)) (Sw_NAMESPACE : Sta Z h0 "com/example/tsugiki/tsugiki/node/NodeKind" "NAMESPACE" "Lcom/example/tsugiki/tsugiki/node/NodeKind;" (.ref w_NAMESPACE)) (Sw_ATTRIBUTE : Sta Z h0 "com/example/tsugiki/tsugiki/node/NodeKind" "ATTRIBUTE" "Lcom/example/tsugiki/tsugiki/node/NodeKind;" (.ref w_ATTRIBUTE)) (Sw_PROCESSING_INSTRUCTION : Sta Z h0 "com/example/tsugiki/tsugiki/node/NodeKind" "PROCESSING_INSTRUCTION" "Lcom/example/tsugiki/tsugiki/node/NodeKind;" (.ref w_PROCESSING_INSTRUCTION))
    (Bd : BodyLoose p l (⟨"com/example/tsugiki/tsugiki/node/NodeKind", "isNamed", "()Z"⟩ : MethodName) (head1 (Jvm.Cond.code (⟨"com/example/tsugiki/tsugiki/node/NodeKind", "isNamed", "()Z"⟩ : MethodName) prog_44_method_6_code 1 (some .boolean) :: ws) ({ frames := 0, cells := 0, slots := 0, locals := 0 } : Room)) prog_44_method_6_code 1 (some .boolean) e s m #[(.ref a0)] below meth c s₁) (hml : c.maxLocals = 1) (hZ : Z.Warmed39 s.vm) (T0 : State) (X0 : Stand p l e ({ frames := 0, cells := 0, slots := 0, locals := 0 } : Room) s m #[(.ref a0)] below meth c T0 [] 0 0) (e0 : T0.heap = h0) :
    own_Go p e below s ({ frames := 0, cells := 0, slots := 0, locals := 0 } : Room).cells ({ frames := 0, cells := 0, slots := 0, locals := 0 } : Room).slots (some (.int (f2_0 a0 w_ELEMENT w_NAMESPACE w_ATTRIBUTE w_PROCESSING_INSTRUCTION))) (own_K0 h0) (T0.setTop (mkF m 0 #[.val (.ref a0)] [])) := by
  have hx := Bd.exec
  have hby := Bd.bytes
  have hown : s.vm.findClass "com/example/tsugiki/tsugiki/node/NodeKind" = some m.cls := findClass_of_methodNamed Bd.named
  unfold f2_0
  refine own_pre (F' := T0.setTop (mkF m 1 #[.val (.ref a0)] [(.ref a0)])) (fun _ k => XS.aloadN X0.here hx rfl (hb hby d2_0) rfl rfl k) ?_
  obtain ⟨T1, X1, e1, st'⟩ := getS2 X0 hx hZ hown (host := "") (Or.inl (hw _ (List.mem_of_getElem? (i := 13) rfl))) Via.refl e0 Sw_ELEMENT (g := (mkF m 1 #[.val (.ref a0)] [(.ref a0)])) rfl (hb hby d2_1)
  refine own_pre (F' := T1.setTop (mkF m 4 #[.val (.ref a0)] [(.ref w_ELEMENT), (.ref a0)])) (fun t k => st' t k) ?_
  refine own_iteI (fun ha4 => ?_) (fun ha4 => ?_)
  · skip
    refine own_pre (F' := T1.setTop (mkF m 28 #[.val (.ref a0)] [])) (fun _ k => Jvm.RoadKit.acmp (g := (mkF m 4 #[.val (.ref a0)] [(.ref w_ELEMENT), (.ref a0)])) X1 hx rfl rfl rfl (pc0 := 4) (pc' := 28) (same := true) rfl (hb hby d2_4) rfl (decide_eq_true (congrArg Value.ref ha4)) (by decide) (by decide) k) ?_
    exact g2_28 hw a0 w_ELEMENT w_NAMESPACE w_ATTRIBUTE w_PROCESSING_INSTRUCTION Sw_ELEMENT Sw_NAMESPACE Sw_ATTRIBUTE Sw_PROCESSING_INSTRUCTION Bd hml hZ T1 X1 e1
  · skip
    refine own_pre (F' := T1.setTop (mkF m 7 #[.val (.ref a0)] [])) (fun _ k => Jvm.RoadKit.acmp (g := (mkF m 4 #[.val (.ref a0)] [(.ref w_ELEMENT), (.ref a0)])) X1 hx rfl rfl rfl (pc0 := 4) (pc' := 7) (same := false) rfl (hb hby d2_4) rfl (decide_eq_false fun q => ha4 (Value.ref.inj q)) (by decide) (by decide) k) ?_
    refine own_pre (F' := T1.setTop (mkF m 8 #[.val (.ref a0)] [(.ref a0)])) (fun _ k => XS.aloadN X1.here hx rfl (hb hby d2_7) rfl rfl k) ?_
    obtain ⟨T2, X2, e2, st'⟩ := getS2 X1 hx hZ hown (host := "") (Or.inl (hw _ (List.mem_of_getElem? (i := 15) rfl))) Via.refl e1 Sw_NAMESPACE (g := (mkF m 8 #[.val (.ref a0)] [(.ref a0)])) rfl (hb hby d2_8)
    refine own_pre (F' := T2.setTop (mkF m 11 #[.val (.ref a0)] [(.ref w_NAMESPACE), (.ref a0)])) (fun t k => st' t k) ?_
    refine own_iteI (fun ha11 => ?_) (fun ha11 => ?_)
    · skip
      refine own_pre (F' := T2.setTop (mkF m 28 #[.val (.ref a0)] [])) (fun _ k => Jvm.RoadKit.acmp (g := (mkF m 11 #[.val (.ref a0)] [(.ref w_NAMESPACE), (.ref a0)])) X2 hx rfl rfl rfl (pc0 := 11) (pc' := 28) (same := true) rfl (hb hby d2_11) rfl (decide_eq_true (congrArg Value.ref ha11)) (by decide) (by decide) k) ?_
      exact g2_28 hw a0 w_ELEMENT w_NAMESPACE w_ATTRIBUTE w_PROCESSING_INSTRUCTION Sw_ELEMENT Sw_NAMESPACE Sw_ATTRIBUTE Sw_PROCESSING_INSTRUCTION Bd hml hZ T2 X2 e2
    · skip
      refine own_pre (F' := T2.setTop (mkF m 14 #[.val (.ref a0)] [])) (fun _ k => Jvm.RoadKit.acmp (g := (mkF m 11 #[.val (.ref a0)] [(.ref w_NAMESPACE), (.ref a0)])) X2 hx rfl rfl rfl (pc0 := 11) (pc' := 14) (same := false) rfl (hb hby d2_11) rfl (decide_eq_false fun q => ha11 (Value.ref.inj q)) (by decide) (by decide) k) ?_
      refine own_pre (F' := T2.setTop (mkF m 15 #[.val (.ref a0)] [(.ref a0)])) (fun _ k => XS.aloadN X2.here hx rfl (hb hby d2_14) rfl rfl k) ?_
      obtain ⟨T3, X3, e3, st'⟩ := getS2 X2 hx hZ hown (host := "") (Or.inl (hw _ (List.mem_of_getElem? (i := 17) rfl))) Via.refl e2 Sw_ATTRIBUTE (g := (mkF m 15 #[.val (.ref a0)] [(.ref a0)])) rfl (hb hby d2_15)
      refine own_pre (F' := T3.setTop (mkF m 18 #[.val (.ref a0)] [(.ref w_ATTRIBUTE), (.ref a0)])) (fun t k => st' t k) ?_
      refine own_iteI (fun ha18 => ?_) (fun ha18 => ?_)
      · skip
        refine own_pre (F' := T3.setTop (mkF m 28 #[.val (.ref a0)] [])) (fun _ k => Jvm.RoadKit.acmp (g := (mkF m 18 #[.val (.ref a0)] [(.ref w_ATTRIBUTE), (.ref a0)])) X3 hx rfl rfl rfl (pc0 := 18) (pc' := 28) (same := true) rfl (hb hby d2_18) rfl (decide_eq_true (congrArg Value.ref ha18)) (by decide) (by decide) k) ?_
        exact g2_28 hw a0 w_ELEMENT w_NAMESPACE w_ATTRIBUTE w_PROCESSING_INSTRUCTION Sw_ELEMENT Sw_NAMESPACE Sw_ATTRIBUTE Sw_PROCESSING_INSTRUCTION Bd hml hZ T3 X3 e3
      · skip
        refine own_pre (F' := T3.setTop (mkF m 21 #[.val (.ref a0)] [])) (fun _ k => Jvm.RoadKit.acmp (g := (mkF m 18 #[.val (.ref a0)] [(.ref w_ATTRIBUTE), (.ref a0)])) X3 hx rfl rfl rfl (pc0 := 18) (pc' := 21) (same := false) rfl (hb hby d2_18) rfl (decide_eq_false fun q => ha18 (Value.ref.inj q)) (by decide) (by decide) k) ?_
        refine own_pre (F' := T3.setTop (mkF m 22 #[.val (.ref a0)] [(.ref a0)])) (fun _ k => XS.aloadN X3.here hx rfl (hb hby d2_21) rfl rfl k) ?_
        obtain ⟨T4, X4, e4, st'⟩ := getS2 X3 hx hZ hown (host := "") (Or.inl (hw _ (List.mem_of_getElem? (i := 19) rfl))) Via.refl e3 Sw_PROCESSING_INSTRUCTION (g := (mkF m 22 #[.val (.ref a0)] [(.ref a0)])) rfl (hb hby d2_22)
        refine own_pre (F' := T4.setTop (mkF m 25 #[.val (.ref a0)] [(.ref w_PROCESSING_INSTRUCTION), (.ref a0)])) (fun t k => st' t k) ?_
        refine own_iteI (fun ha25 => ?_) (fun ha25 => ?_)
        · skip
          refine own_pre (F' := T4.setTop (mkF m 28 #[.val (.ref a0)] [])) (fun _ k => Jvm.RoadKit.acmp (g := (mkF m 25 #[.val (.ref a0)] [(.ref w_PROCESSING_INSTRUCTION), (.ref a0)])) X4 hx rfl rfl rfl (pc0 := 25) (pc' := 28) (same := true) rfl (hb hby d2_25) rfl (decide_eq_true (congrArg Value.ref ha25)) (by decide) (by decide) k) ?_
          exact g2_28 hw a0 w_ELEMENT w_NAMESPACE w_ATTRIBUTE w_PROCESSING_INSTRUCTION Sw_ELEMENT Sw_NAMESPACE Sw_ATTRIBUTE Sw_PROCESSING_INSTRUCTION Bd hml hZ T4 X4 e4
        · skip
          refine own_pre (F' := T4.setTop (mkF m 32 #[.val (.ref a0)] [])) (fun _ k => Jvm.RoadKit.acmp (g := (mkF m 25 #[.val (.ref a0)] [(.ref w_PROCESSING_INSTRUCTION), (.ref a0)])) X4 hx rfl rfl rfl (pc0 := 25) (pc' := 32) (same := false) rfl (hb hby d2_25) rfl (decide_eq_false fun q => ha25 (Value.ref.inj q)) (by decide) (by decide) k) ?_
          refine own_pre (F' := T4.setTop (mkF m 33 #[.val (.ref a0)] [(.int (0 : Int32))])) (fun _ k => XS.iconst X4.here hx rfl (hb hby d2_32) k) ?_
          exact own_ret X4 hx Bd.notSynchronized Bd.returns rfl (Or.inl ⟨rfl, by simp, _, rfl⟩) (hb hby d2_33) ⟨rfl, e4⟩ (by decide) (by decide)
theorem ef_2 (m : MethodId) (a0 : Addr) : entryFrame m #[(.ref a0)] 1 = mkF m 0 #[.val (.ref a0)] [] := by first | (simp [entryFrame, mkF, argsToLocals, Value.category]; done) | rfl
set_option maxRecDepth 65536 in
set_option maxHeartbeats 40000000 in
theorem rm2 (l : Launch) (Z : State) (aw : Array Value) (hw : ∀ d ∈ tables_1, d.before aw Z = true) (ws : List Jvm.Cond) (a0 : Addr) (w_ELEMENT : Addr) (w_NAMESPACE : Addr) (w_ATTRIBUTE : Addr) (w_PROCESSING_INSTRUCTION : Addr) (h0 : Heap) (Sw_ELEMENT : Sta Z h0 "com/example/tsugiki/tsugiki/node/NodeKind" "ELEMENT" "Lcom/example/tsugiki/tsugiki/node/NodeKind;" (.ref w_ELEMENT)) (Sw_NAMESPACE : Sta Z h0 "com/example/tsugiki/tsugiki/node/NodeKind" "NAMESPACE" "Lcom/example/tsugiki/tsugiki/node/NodeKind;" (.ref w_NAMESPACE)) (Sw_ATTRIBUTE : Sta Z h0 "com/example/tsugiki/tsugiki/node/NodeKind" "ATTRIBUTE" "Lcom/example/tsugiki/tsugiki/node/NodeKind;" (.ref w_ATTRIBUTE)) (Sw_PROCESSING_INSTRUCTION : Sta Z h0 "com/example/tsugiki/tsugiki/node/NodeKind" "PROCESSING_INSTRUCTION" "Lcom/example/tsugiki/tsugiki/node/NodeKind;" (.ref w_PROCESSING_INSTRUCTION)) :
    MetFree l (⟨"com/example/tsugiki/tsugiki/node/NodeKind", "isNamed", "()Z"⟩ : MethodName) (head1 (Jvm.Cond.code (⟨"com/example/tsugiki/tsugiki/node/NodeKind", "isNamed", "()Z"⟩ : MethodName) prog_44_method_6_code 1 (some .boolean) :: ws) ({ frames := 0, cells := 0, slots := 0, locals := 0 } : Room)) (fun a U => a = #[(.ref a0)] ∧ Z.Warmed39 U.vm ∧ U.heap = h0) (fun _ _ _ _ _ => True) (fun _ U o U' => ∃ v L, o = .returned v ∧ own_Q (some (.int (f2_0 a0 w_ELEMENT w_NAMESPACE w_ATTRIBUTE w_PROCESSING_INSTRUCTION))) (own_K0 h0) v U'.heap L ∧ FrameEnd U o U' L ({ frames := 0, cells := 0, slots := 0, locals := 0 } : Room).cells ({ frames := 0, cells := 0, slots := 0, locals := 0 } : Room).slots) := by
  refine MetFree.of_bodySF (plainFor_of_name own_pn1) hisR ?_
  intro p e s m args below meth c s₁ Bd hml0 hP hK
  obtain ⟨rfl, hZ, hh⟩ := hP
  have hml : c.maxLocals = 1 := hml0
  have e0 : s₁.heap = h0 := by rw [← hh, Bd.state]; rfl
  exact own_pre (fun t k => castTop (ef_2 m a0) k) (g2_0 hw a0 w_ELEMENT w_NAMESPACE w_ATTRIBUTE w_PROCESSING_INSTRUCTION Sw_ELEMENT Sw_NAMESPACE Sw_ATTRIBUTE Sw_PROCESSING_INSTRUCTION Bd hml hZ s₁ (Stand.of_body Bd) e0)
theorem own_exa {Z : State} {h0 : Heap} (p0 : Int32) (w_DOCUMENT : Addr) (w_ELEMENT : Addr) (w_NAMESPACE : Addr) (w_ATTRIBUTE : Addr) (w_TEXT : Addr) (w_COMMENT : Addr) (w_PROCESSING_INSTRUCTION : Addr) (Ew_DOCUMENT : Exa Z h0 w_DOCUMENT "com/example/tsugiki/tsugiki/node/NodeKind") (Ew_ELEMENT : Exa Z h0 w_ELEMENT "com/example/tsugiki/tsugiki/node/NodeKind") (Ew_NAMESPACE : Exa Z h0 w_NAMESPACE "com/example/tsugiki/tsugiki/node/NodeKind") (Ew_ATTRIBUTE : Exa Z h0 w_ATTRIBUTE "com/example/tsugiki/tsugiki/node/NodeKind") (Ew_TEXT : Exa Z h0 w_TEXT "com/example/tsugiki/tsugiki/node/NodeKind") (Ew_COMMENT : Exa Z h0 w_COMMENT "com/example/tsugiki/tsugiki/node/NodeKind") (Ew_PROCESSING_INSTRUCTION : Exa Z h0 w_PROCESSING_INSTRUCTION "com/example/tsugiki/tsugiki/node/NodeKind") : Exa Z h0 (f1_0 p0 w_DOCUMENT w_ELEMENT w_NAMESPACE w_ATTRIBUTE w_TEXT w_COMMENT w_PROCESSING_INSTRUCTION) "com/example/tsugiki/tsugiki/node/NodeKind" := by
  unfold f1_0; (repeat' split) <;> assumption
theorem own_pd0 : parseMethodDescriptor "(I)Lcom/example/tsugiki/tsugiki/node/NodeKind;" = some ⟨[.int], some (.object "com/example/tsugiki/tsugiki/node/NodeKind")⟩ := by decide +kernel
theorem own_pd1 : parseMethodDescriptor "()Z" = some ⟨[], some .boolean⟩ := by decide +kernel
/-! body 0 -/
def f0_0 (p0 : Int32) (w_DOCUMENT : Addr) (w_ELEMENT : Addr) (w_NAMESPACE : Addr) (w_ATTRIBUTE : Addr) (w_TEXT : Addr) (w_COMMENT : Addr) (w_PROCESSING_INSTRUCTION : Addr) : Int32 := (if ((p0 &&& (2147483647 : Int32)) % (7 : Int32)) = (1 : Int32) then (if (f2_0 (f1_0 ((p0 &&& (2147483647 : Int32)) % (7 : Int32)) w_DOCUMENT w_ELEMENT w_NAMESPACE w_ATTRIBUTE w_TEXT w_COMMENT w_PROCESSING_INSTRUCTION) w_ELEMENT w_NAMESPACE w_ATTRIBUTE w_PROCESSING_INSTRUCTION) = (1 : Int32) then (1 : Int32) else (0 : Int32)) else (if ((p0 &&& (2147483647 : Int32)) % (7 : Int32)) = (2 : Int32) then (if (f2_0 (f1_0 ((p0 &&& (2147483647 : Int32)) % (7 : Int32)) w_DOCUMENT w_ELEMENT w_NAMESPACE w_ATTRIBUTE w_TEXT w_COMMENT w_PROCESSING_INSTRUCTION) w_ELEMENT w_NAMESPACE w_ATTRIBUTE w_PROCESSING_INSTRUCTION) = (1 : Int32) then (1 : Int32) else (0 : Int32)) else (if ((p0 &&& (2147483647 : Int32)) % (7 : Int32)) = (3 : Int32) then (if (f2_0 (f1_0 ((p0 &&& (2147483647 : Int32)) % (7 : Int32)) w_DOCUMENT w_ELEMENT w_NAMESPACE w_ATTRIBUTE w_TEXT w_COMMENT w_PROCESSING_INSTRUCTION) w_ELEMENT w_NAMESPACE w_ATTRIBUTE w_PROCESSING_INSTRUCTION) = (1 : Int32) then (1 : Int32) else (0 : Int32)) else (if ((p0 &&& (2147483647 : Int32)) % (7 : Int32)) = (6 : Int32) then (if (f2_0 (f1_0 ((p0 &&& (2147483647 : Int32)) % (7 : Int32)) w_DOCUMENT w_ELEMENT w_NAMESPACE w_ATTRIBUTE w_TEXT w_COMMENT w_PROCESSING_INSTRUCTION) w_ELEMENT w_NAMESPACE w_ATTRIBUTE w_PROCESSING_INSTRUCTION) = (1 : Int32) then (1 : Int32) else (0 : Int32)) else (if (f2_0 (f1_0 ((p0 &&& (2147483647 : Int32)) % (7 : Int32)) w_DOCUMENT w_ELEMENT w_NAMESPACE w_ATTRIBUTE w_TEXT w_COMMENT w_PROCESSING_INSTRUCTION) w_ELEMENT w_NAMESPACE w_ATTRIBUTE w_PROCESSING_INSTRUCTION) = (0 : Int32) then (1 : Int32) else (0 : Int32))))))
set_option maxRecDepth 65536 in
set_option maxHeartbeats 40000000 in
theorem g0_0 {p : Program} {l : Launch} {e : Env} {s : State} {m : MethodId} {below : List Frame} {meth : Method} {c : Code} {s₁ : State} {ws : List Jvm.Cond} {Z : State} {aw : Array Value} (hw : ∀ d ∈ tables_1, d.before aw Z = true) {h0 : Heap} (p0 : Int32) (w_DOCUMENT : Addr) (w_ELEMENT : Addr) (w_NAMESPACE : Addr) (w_ATTRIBUTE : Addr) (w_TEXT : Addr) (w_COMMENT : Addr) (w_PROCESSING_INSTRUCTION : Addr) (Sw_DOCUMENT : Sta Z h0 "com/example/tsugiki/tsugiki/node/NodeKind" "DOCUMENT" "Lcom/example/tsugiki/tsugiki/node/NodeKind;" (.ref w_DOCUMENT)) (Sw_ELEMENT : Sta Z h0 "com/example/tsugiki/tsugiki/node/NodeKind" "ELEMENT" "Lcom/example/tsugiki/tsugiki/node/NodeKind;" (.ref w_ELEMENT)) (Sw_NAMESPACE : Sta Z h0 "com/example/tsugiki/tsugiki/node/NodeKind" "NAMESPACE" "Lcom/example/tsugiki/tsugiki/node/NodeKind;" (.ref w_NAMESPACE)) (Sw_ATTRIBUTE : Sta Z h0 "com/example/tsugiki/tsugiki/node/NodeKind" "ATTRIBUTE" "Lcom/example/tsugiki/tsugiki/node/NodeKind;" (.ref w_ATTRIBUTE)) (Sw_TEXT : Sta Z h0 "com/example/tsugiki/tsugiki/node/NodeKind" "TEXT" "Lcom/example/tsugiki/tsugiki/node/NodeKind;" (.ref w_TEXT)) (Sw_COMMENT : Sta Z h0 "com/example/tsugiki/tsugiki/node/NodeKind" "COMMENT" "Lcom/example/tsugiki/tsugiki/node/NodeKind;" (.ref w_COMMENT)) (Sw_PROCESSING_INSTRUCTION : Sta Z h0 "com/example/tsugiki/tsugiki/node/NodeKind" "PROCESSING_INSTRUCTION" "Lcom/example/tsugiki/tsugiki/node/NodeKind;" (.ref w_PROCESSING_INSTRUCTION)) (Ew_DOCUMENT : Exa Z h0 w_DOCUMENT "com/example/tsugiki/tsugiki/node/NodeKind") (Ew_ELEMENT : Exa Z h0 w_ELEMENT "com/example/tsugiki/tsugiki/node/NodeKind") (Ew_NAMESPACE : Exa Z h0 w_NAMESPACE "com/example/tsugiki/tsugiki/node/NodeKind") (Ew_ATTRIBUTE : Exa Z h0 w_ATTRIBUTE "com/example/tsugiki/tsugiki/node/NodeKind") (Ew_TEXT : Exa Z h0 w_TEXT "com/example/tsugiki/tsugiki/node/NodeKind") (Ew_COMMENT : Exa Z h0 w_COMMENT "com/example/tsugiki/tsugiki/node/NodeKind") (Ew_PROCESSING_INSTRUCTION : Exa Z h0 w_PROCESSING_INSTRUCTION "com/example/tsugiki/tsugiki/node/NodeKind")
    (Bd : BodyLoose p l x (head1 (Jvm.Cond.code x code maxLocals ret :: ws) room_1) code maxLocals ret e s m #[(.int p0)] below meth c s₁) (hml : c.maxLocals = 4) (hZ : Z.Warmed39 s.vm) (T0 : State) (X0 : Stand p l e room_1 s m #[(.int p0)] below meth c T0 [] 0 0) (e0 : T0.heap = h0) :
    own_Go p e below s room_1.cells room_1.slots (some (.int (f0_0 p0 w_DOCUMENT w_ELEMENT w_NAMESPACE w_ATTRIBUTE w_TEXT w_COMMENT w_PROCESSING_INSTRUCTION))) (own_K0 h0) (T0.setTop (mkF m 0 #[.val (.int p0), .unset, .unset, .unset] [])) := by
  have hx := Bd.exec
  have hby := Bd.bytes
  have hown : s.vm.findClass "com/example/tsugiki/tsugiki/node/NodeKindIsNamedPinLaw" = some m.cls := findClass_of_methodNamed Bd.named
  unfold f0_0
  refine own_pre (F' := T0.setTop (mkF m 1 #[.val (.int p0), .unset, .unset, .unset] [(.int p0)])) (fun _ k => XS.iloadN X0.here hx rfl (hb hby at_0) rfl k) ?_
  refine own_pre (F' := T0.setTop (mkF m 3 #[.val (.int p0), .unset, .unset, .unset] [(.int (2147483647 : Int32)), (.int p0)])) (fun _ k => X0.ldcInt hx hown (mvT hZ (hw _ (List.mem_of_getElem? (i := 0) rfl))) (g := (mkF m 1 #[.val (.int p0), .unset, .unset, .unset] [(.int p0)])) rfl (hb hby at_1) _ k) ?_
  refine own_pre (F' := T0.setTop (mkF m 4 #[.val (.int p0), .unset, .unset, .unset] [(.int (p0 &&& (2147483647 : Int32)))])) (fun _ k => XS.iand X0.here hx rfl (hb hby at_3) rfl k) ?_
  refine own_pre (F' := T0.setTop (mkF m 6 #[.val (.int p0), .unset, .unset, .unset] [(.int (7 : Int32)), (.int (p0 &&& (2147483647 : Int32)))])) (fun _ k => XS.bipush X0.here hx rfl (hb hby at_4) k) ?_
  refine own_pre (F' := T0.setTop (mkF m 7 #[.val (.int p0), .unset, .unset, .unset] [(.int ((p0 &&& (2147483647 : Int32)) % (7 : Int32)))])) (fun _ k => iremM X0 hx rfl (hb hby at_6) rfl (by decide) k) ?_
  refine own_pre (F' := T0.setTop (mkF m 8 #[.val (.int p0), .val (.int ((p0 &&& (2147483647 : Int32)) % (7 : Int32))), .unset, .unset] [])) (fun _ k => XS.istoreN X0.here hx rfl (hb hby at_7) rfl (l' := #[.val (.int p0), .val (.int ((p0 &&& (2147483647 : Int32)) % (7 : Int32))), .unset, .unset]) rfl k) ?_
  refine own_pre (F' := T0.setTop (mkF m 9 #[.val (.int p0), .val (.int ((p0 &&& (2147483647 : Int32)) % (7 : Int32))), .unset, .unset] [(.int ((p0 &&& (2147483647 : Int32)) % (7 : Int32)))])) (fun _ k => XS.iloadN X0.here hx rfl (hb hby at_8) rfl k) ?_
  obtain ⟨_, _, ⟨T1, L', k', n'⟩, -, X'', ⟨Lc', hQ', l', y', z'⟩, st'⟩ := Jvm.LawKit.callS X0 hx (y := (⟨"com/example/tsugiki/tsugiki/node/NodeKindIsNamedPinLaw", "pick", "(I)Lcom/example/tsugiki/tsugiki/node/NodeKind;"⟩ : MethodName)) hown (mvT hZ (hw _ (List.mem_of_getElem? (i := 1) rfl))) (mvT hZ (hw _ (List.mem_of_getElem? (i := 2) rfl))) (mvT hZ (hw _ (List.mem_of_getElem? (i := 3) rfl))) (mvT hZ (hw _ (List.mem_of_getElem? (i := 4) rfl))) (by decide) (backOf (W := 0) (rm1 l Z aw hw [] ((p0 &&& (2147483647 : Int32)) % (7 : Int32)) w_DOCUMENT w_ELEMENT w_NAMESPACE w_ATTRIBUTE w_TEXT w_COMMENT w_PROCESSING_INSTRUCTION h0 Sw_DOCUMENT Sw_ELEMENT Sw_NAMESPACE Sw_ATTRIBUTE Sw_TEXT Sw_COMMENT Sw_PROCESSING_INSTRUCTION) hZ (hw _ (List.mem_of_getElem? (i := 4) rfl)) (hw _ (List.mem_of_getElem? (i := 3) rfl)) (by decide) (by decide)) (g := (mkF m 9 #[.val (.int p0), .val (.int ((p0 &&& (2147483647 : Int32)) % (7 : Int32))), .unset, .unset] [(.int ((p0 &&& (2147483647 : Int32)) % (7 : Int32)))])) rfl (by rw [hml]; rfl) (argsL := [(.int ((p0 &&& (2147483647 : Int32)) % (7 : Int32)))]) (rest := []) (lenOf own_pd0 rfl) rfl (by show 2 * 0 + _ ≤ _; exact Nat.le_of_eq rfl) (hb hby at_9) (fun _ _ => ⟨rfl, e0, (by decide : 0 + 0 ≤ _), (by decide : 0 + 0 ≤ _)⟩)
  dsimp only [Pt.U, Pt.locs, Pt.cells, Pt.slots] at X'' l' y' z' st' hQ'
  subst l' y' z'
  obtain ⟨rfl, rfl, e1⟩ := hQ'
  have X1 : Stand p l e room_1 s m #[(.int p0)] below meth c T1 [] 0 0 := X''
  refine own_pre (F' := T1.setTop (mkF m 12 #[.val (.int p0), .val (.int ((p0 &&& (2147483647 : Int32)) % (7 : Int32))), .unset, .unset] [(.ref (f1_0 ((p0 &&& (2147483647 : Int32)) % (7 : Int32)) w_DOCUMENT w_ELEMENT w_NAMESPACE w_ATTRIBUTE w_TEXT w_COMMENT w_PROCESSING_INSTRUCTION))])) (fun t k => st' t k) ?_
  refine own_pre (F' := T1.setTop (mkF m 13 #[.val (.int p0), .val (.int ((p0 &&& (2147483647 : Int32)) % (7 : Int32))), .val (.ref (f1_0 ((p0 &&& (2147483647 : Int32)) % (7 : Int32)) w_DOCUMENT w_ELEMENT w_NAMESPACE w_ATTRIBUTE w_TEXT w_COMMENT w_PROCESSING_INSTRUCTION)), .unset] [])) (fun _ k => XS.astoreN X1.here hx rfl (hb hby at_12) rfl rfl (l' := #[.val (.int p0), .val (.int ((p0 &&& (2147483647 : Int32)) % (7 : Int32))), .val (.ref (f1_0 ((p0 &&& (2147483647 : Int32)) % (7 : Int32)) w_DOCUMENT w_ELEMENT w_NAMESPACE w_ATTRIBUTE w_TEXT w_COMMENT w_PROCESSING_INSTRUCTION)), .unset]) rfl k) ?_
  refine own_pre (F' := T1.setTop (mkF m 14 #[.val (.int p0), .val (.int ((p0 &&& (2147483647 : Int32)) % (7 : Int32))), .val (.ref (f1_0 ((p0 &&& (2147483647 : Int32)) % (7 : Int32)) w_DOCUMENT w_ELEMENT w_NAMESPACE w_ATTRIBUTE w_TEXT w_COMMENT w_PROCESSING_INSTRUCTION)), .unset] [(.int ((p0 &&& (2147483647 : Int32)) % (7 : Int32)))])) (fun _ k => XS.iloadN X1.here hx rfl (hb hby at_13) rfl k) ?_
  refine own_pre (F' := T1.setTop (mkF m 15 #[.val (.int p0), .val (.int ((p0 &&& (2147483647 : Int32)) % (7 : Int32))), .val (.ref (f1_0 ((p0 &&& (2147483647 : Int32)) % (7 : Int32)) w_DOCUMENT w_ELEMENT w_NAMESPACE w_ATTRIBUTE w_TEXT w_COMMENT w_PROCESSING_INSTRUCTION)), .unset] [(.int (1 : Int32)), (.int ((p0 &&& (2147483647 : Int32)) % (7 : Int32)))])) (fun _ k => XS.iconst X1.here hx rfl (hb hby at_14) k) ?_
  refine own_iteI (fun hc15 => ?_) (fun hc15 => ?_)
  · skip
    refine own_pre (F' := T1.setTop (mkF m 34 #[.val (.int p0), .val (.int ((p0 &&& (2147483647 : Int32)) % (7 : Int32))), .val (.ref (f1_0 ((p0 &&& (2147483647 : Int32)) % (7 : Int32)) w_DOCUMENT w_ELEMENT w_NAMESPACE w_ATTRIBUTE w_TEXT w_COMMENT w_PROCESSING_INSTRUCTION)), .unset] [])) (fun _ k => XS.icmpYes X1.here hx rfl (pc0 := 15) (pc' := 34) rfl (hb hby at_15) rfl (teq hc15).1 (by decide) (by decide) k) ?_
    refine own_pre (F' := T1.setTop (mkF m 35 #[.val (.int p0), .val (.int ((p0 &&& (2147483647 : Int32)) % (7 : Int32))), .val (.ref (f1_0 ((p0 &&& (2147483647 : Int32)) % (7 : Int32)) w_DOCUMENT w_ELEMENT w_NAMESPACE w_ATTRIBUTE w_TEXT w_COMMENT w_PROCESSING_INSTRUCTION)), .unset] [(.int (1 : Int32))])) (fun _ k => XS.iconst X1.here hx rfl (hb hby at_34) k) ?_
    refine own_pre (F' := T1.setTop (mkF m 39 #[.val (.int p0), .val (.int ((p0 &&& (2147483647 : Int32)) % (7 : Int32))), .val (.ref (f1_0 ((p0 &&& (2147483647 : Int32)) % (7 : Int32)) w_DOCUMENT w_ELEMENT w_NAMESPACE w_ATTRIBUTE w_TEXT w_COMMENT w_PROCESSING_INSTRUCTION)), .unset] [(.int (1 : Int32))])) (fun _ k => XS.goto X1.here hx rfl (pc0 := 35) (pc' := 39) rfl (hb hby at_35) (by decide) (by decide) k) ?_
    refine own_pre (F' := T1.setTop (mkF m 40 #[.val (.int p0), .val (.int ((p0 &&& (2147483647 : Int32)) % (7 : Int32))), .val (.ref (f1_0 ((p0 &&& (2147483647 : Int32)) % (7 : Int32)) w_DOCUMENT w_ELEMENT w_NAMESPACE w_ATTRIBUTE w_TEXT w_COMMENT w_PROCESSING_INSTRUCTION)), .val (.int (1 : Int32))] [])) (fun _ k => XS.istoreN X1.here hx rfl (hb hby at_39) rfl (l' := #[.val (.int p0), .val (.int ((p0 &&& (2147483647 : Int32)) % (7 : Int32))), .val (.ref (f1_0 ((p0 &&& (2147483647 : Int32)) % (7 : Int32)) w_DOCUMENT w_ELEMENT w_NAMESPACE w_ATTRIBUTE w_TEXT w_COMMENT w_PROCESSING_INSTRUCTION)), .val (.int (1 : Int32))]) rfl k) ?_
    refine own_pre (F' := T1.setTop (mkF m 41 #[.val (.int p0), .val (.int ((p0 &&& (2147483647 : Int32)) % (7 : Int32))), .val (.ref (f1_0 ((p0 &&& (2147483647 : Int32)) % (7 : Int32)) w_DOCUMENT w_ELEMENT w_NAMESPACE w_ATTRIBUTE w_TEXT w_COMMENT w_PROCESSING_INSTRUCTION)), .val (.int (1 : Int32))] [(.ref (f1_0 ((p0 &&& (2147483647 : Int32)) % (7 : Int32)) w_DOCUMENT w_ELEMENT w_NAMESPACE w_ATTRIBUTE w_TEXT w_COMMENT w_PROCESSING_INSTRUCTION))])) (fun _ k => XS.aloadN X1.here hx rfl (hb hby at_40) rfl rfl k) ?_
    obtain ⟨cq', kq', qa', qb', qc'⟩ := isOf hZ e1 (own_exa _ w_DOCUMENT w_ELEMENT w_NAMESPACE w_ATTRIBUTE w_TEXT w_COMMENT w_PROCESSING_INSTRUCTION Ew_DOCUMENT Ew_ELEMENT Ew_NAMESPACE Ew_ATTRIBUTE Ew_TEXT Ew_COMMENT Ew_PROCESSING_INSTRUCTION)
    obtain ⟨_, _, ⟨T2, L', k', n'⟩, -, X'', ⟨Lc', hQ', l', y', z'⟩, st'⟩ := X1.virtualBack hx (y := (⟨"com/example/tsugiki/tsugiki/node/NodeKind", "isNamed", "()Z"⟩ : MethodName)) (z := (⟨"com/example/tsugiki/tsugiki/node/NodeKind", "isNamed", "()Z"⟩ : MethodName)) hown (mvT hZ (hw _ (List.mem_of_getElem? (i := 8) rfl))) (mvT hZ (hw _ (List.mem_of_getElem? (i := 9) rfl))) (notFace_of_selects (args := #[]) (mvT hZ (hw _ (List.mem_of_getElem? (i := 11) rfl)))) (mvT hZ (hw _ (List.mem_of_getElem? (i := 11) rfl))) (mvT hZ (hw _ (List.mem_of_getElem? (i := 10) rfl))) (by decide) (backOf (W := 0) (rm2 l Z aw hw [] (f1_0 ((p0 &&& (2147483647 : Int32)) % (7 : Int32)) w_DOCUMENT w_ELEMENT w_NAMESPACE w_ATTRIBUTE w_TEXT w_COMMENT w_PROCESSING_INSTRUCTION) w_ELEMENT w_NAMESPACE w_ATTRIBUTE w_PROCESSING_INSTRUCTION h0 Sw_ELEMENT Sw_NAMESPACE Sw_ATTRIBUTE Sw_PROCESSING_INSTRUCTION) hZ (hw _ (List.mem_of_getElem? (i := 12) rfl)) (hw _ (List.mem_of_getElem? (i := 6) rfl)) (by decide) (by decide)) qa' qc' (g := (mkF m 41 #[.val (.int p0), .val (.int ((p0 &&& (2147483647 : Int32)) % (7 : Int32))), .val (.ref (f1_0 ((p0 &&& (2147483647 : Int32)) % (7 : Int32)) w_DOCUMENT w_ELEMENT w_NAMESPACE w_ATTRIBUTE w_TEXT w_COMMENT w_PROCESSING_INSTRUCTION)), .val (.int (1 : Int32))] [(.ref (f1_0 ((p0 &&& (2147483647 : Int32)) % (7 : Int32)) w_DOCUMENT w_ELEMENT w_NAMESPACE w_ATTRIBUTE w_TEXT w_COMMENT w_PROCESSING_INSTRUCTION))])) rfl (by rw [hml]; rfl) (Steps.refl _) (argsL := []) (rest := []) (lenOf own_pd1 rfl) rfl (by show 2 * 0 + _ ≤ _; exact Nat.le_of_eq rfl) (hb hby at_41) (fun _ _ => ⟨rfl, e1, (by decide : 0 + 0 ≤ _), (by decide : 0 + 0 ≤ _)⟩)
    dsimp only [Pt.U, Pt.locs, Pt.cells, Pt.slots] at X'' l' y' z' st' hQ'
    subst l' y' z'
    obtain ⟨rfl, rfl, e2⟩ := hQ'
    have X2 : Stand p l e room_1 s m #[(.int p0)] below meth c T2 [] 0 0 := X''
    refine own_pre (F' := T2.setTop (mkF m 44 #[.val (.int p0), .val (.int ((p0 &&& (2147483647 : Int32)) % (7 : Int32))), .val (.ref (f1_0 ((p0 &&& (2147483647 : Int32)) % (7 : Int32)) w_DOCUMENT w_ELEMENT w_NAMESPACE w_ATTRIBUTE w_TEXT w_COMMENT w_PROCESSING_INSTRUCTION)), .val (.int (1 : Int32))] [(.int (f2_0 (f1_0 ((p0 &&& (2147483647 : Int32)) % (7 : Int32)) w_DOCUMENT w_ELEMENT w_NAMESPACE w_ATTRIBUTE w_TEXT w_COMMENT w_PROCESSING_INSTRUCTION) w_ELEMENT w_NAMESPACE w_ATTRIBUTE w_PROCESSING_INSTRUCTION))])) (fun t k => st'.trans k) ?_
    refine own_pre (F' := T2.setTop (mkF m 45 #[.val (.int p0), .val (.int ((p0 &&& (2147483647 : Int32)) % (7 : Int32))), .val (.ref (f1_0 ((p0 &&& (2147483647 : Int32)) % (7 : Int32)) w_DOCUMENT w_ELEMENT w_NAMESPACE w_ATTRIBUTE w_TEXT w_COMMENT w_PROCESSING_INSTRUCTION)), .val (.int (1 : Int32))] [(.int (1 : Int32)), (.int (f2_0 (f1_0 ((p0 &&& (2147483647 : Int32)) % (7 : Int32)) w_DOCUMENT w_ELEMENT w_NAMESPACE w_ATTRIBUTE w_TEXT w_COMMENT w_PROCESSING_INSTRUCTION) w_ELEMENT w_NAMESPACE w_ATTRIBUTE w_PROCESSING_INSTRUCTION))])) (fun _ k => XS.iloadN X2.here hx rfl (hb hby at_44) rfl k) ?_
    refine own_iteI (fun hc45 => ?_) (fun hc45 => ?_)
    · skip
      refine own_pre (F' := T2.setTop (mkF m 48 #[.val (.int p0), .val (.int ((p0 &&& (2147483647 : Int32)) % (7 : Int32))), .val (.ref (f1_0 ((p0 &&& (2147483647 : Int32)) % (7 : Int32)) w_DOCUMENT w_ELEMENT w_NAMESPACE w_ATTRIBUTE w_TEXT w_COMMENT w_PROCESSING_INSTRUCTION)), .val (.int (1 : Int32))] [])) (fun _ k => XS.icmpNo X2.here hx rfl (hb hby at_45) rfl (teq hc45).2 k) ?_
      refine own_pre (F' := T2.setTop (mkF m 49 #[.val (.int p0), .val (.int ((p0 &&& (2147483647 : Int32)) % (7 : Int32))), .val (.ref (f1_0 ((p0 &&& (2147483647 : Int32)) % (7 : Int32)) w_DOCUMENT w_ELEMENT w_NAMESPACE w_ATTRIBUTE w_TEXT w_COMMENT w_PROCESSING_INSTRUCTION)), .val (.int (1 : Int32))] [(.int (1 : Int32))])) (fun _ k => XS.iconst X2.here hx rfl (hb hby at_48) k) ?_
      refine own_pre (F' := T2.setTop (mkF m 53 #[.val (.int p0), .val (.int ((p0 &&& (2147483647 : Int32)) % (7 : Int32))), .val (.ref (f1_0 ((p0 &&& (2147483647 : Int32)) % (7 : Int32)) w_DOCUMENT w_ELEMENT w_NAMESPACE w_ATTRIBUTE w_TEXT w_COMMENT w_PROCESSING_INSTRUCTION)), .val (.int (1 : Int32))] [(.int (1 : Int32))])) (fun _ k => XS.goto X2.here hx rfl (pc0 := 49) (pc' := 53) rfl (hb hby at_49) (by decide) (by decide) k) ?_
      exact own_ret X2 hx Bd.notSynchronized Bd.returns rfl (Or.inl ⟨rfl, by simp, _, rfl⟩) (hb hby at_53) ⟨rfl, e2⟩ (by decide) (by decide)
    · skip
      refine own_pre (F' := T2.setTop (mkF m 52 #[.val (.int p0), .val (.int ((p0 &&& (2147483647 : Int32)) % (7 : Int32))), .val (.ref (f1_0 ((p0 &&& (2147483647 : Int32)) % (7 : Int32)) w_DOCUMENT w_ELEMENT w_NAMESPACE w_ATTRIBUTE w_TEXT w_COMMENT w_PROCESSING_INSTRUCTION)), .val (.int (1 : Int32))] [])) (fun _ k => XS.icmpYes X2.here hx rfl (pc0 := 45) (pc' := 52) rfl (hb hby at_45) rfl (feq hc45).2 (by decide) (by decide) k) ?_
      refine own_pre (F' := T2.setTop (mkF m 53 #[.val (.int p0), .val (.int ((p0 &&& (2147483647 : Int32)) % (7 : Int32))), .val (.ref (f1_0 ((p0 &&& (2147483647 : Int32)) % (7 : Int32)) w_DOCUMENT w_ELEMENT w_NAMESPACE w_ATTRIBUTE w_TEXT w_COMMENT w_PROCESSING_INSTRUCTION)), .val (.int (1 : Int32))] [(.int (0 : Int32))])) (fun _ k => XS.iconst X2.here hx rfl (hb hby at_52) k) ?_
      exact own_ret X2 hx Bd.notSynchronized Bd.returns rfl (Or.inl ⟨rfl, by simp, _, rfl⟩) (hb hby at_53) ⟨rfl, e2⟩ (by decide) (by decide)
  · skip
    refine own_pre (F' := T1.setTop (mkF m 18 #[.val (.int p0), .val (.int ((p0 &&& (2147483647 : Int32)) % (7 : Int32))), .val (.ref (f1_0 ((p0 &&& (2147483647 : Int32)) % (7 : Int32)) w_DOCUMENT w_ELEMENT w_NAMESPACE w_ATTRIBUTE w_TEXT w_COMMENT w_PROCESSING_INSTRUCTION)), .unset] [])) (fun _ k => XS.icmpNo X1.here hx rfl (hb hby at_15) rfl (feq hc15).1 k) ?_
    refine own_pre (F' := T1.setTop (mkF m 19 #[.val (.int p0), .val (.int ((p0 &&& (2147483647 : Int32)) % (7 : Int32))), .val (.ref (f1_0 ((p0 &&& (2147483647 : Int32)) % (7 : Int32)) w_DOCUMENT w_ELEMENT w_NAMESPACE w_ATTRIBUTE w_TEXT w_COMMENT w_PROCESSING_INSTRUCTION)), .unset] [(.int ((p0 &&& (2147483647 : Int32)) % (7 : Int32)))])) (fun _ k => XS.iloadN X1.here hx rfl (hb hby at_18) rfl k) ?_
    refine own_pre (F' := T1.setTop (mkF m 20 #[.val (.int p0), .val (.int ((p0 &&& (2147483647 : Int32)) % (7 : Int32))), .val (.ref (f1_0 ((p0 &&& (2147483647 : Int32)) % (7 : Int32)) w_DOCUMENT w_ELEMENT w_NAMESPACE w_ATTRIBUTE w_TEXT w_COMMENT w_PROCESSING_INSTRUCTION)), .unset] [(.int (2 : Int32)), (.int ((p0 &&& (2147483647 : Int32)) % (7 : Int32)))])) (fun _ k => XS.iconst X1.here hx rfl (hb hby at_19) k) ?_
    refine own_iteI (fun hc20 => ?_) (fun hc20 => ?_)
    · skip
      refine own_pre (F' := T1.setTop (mkF m 34 #[.val (.int p0), .val (.int ((p0 &&& (2147483647 : Int32)) % (7 : Int32))), .val (.ref (f1_0 ((p0 &&& (2147483647 : Int32)) % (7 : Int32)) w_DOCUMENT w_ELEMENT w_NAMESPACE w_ATTRIBUTE w_TEXT w_COMMENT w_PROCESSING_INSTRUCTION)), .unset] [])) (fun _ k => XS.icmpYes X1.here hx rfl (pc0 := 20) (pc' := 34) rfl (hb hby at_20) rfl (teq hc20).1 (by decide) (by decide) k) ?_
      refine own_pre (F' := T1.setTop (mkF m 35 #[.val (.int p0), .val (.int ((p0 &&& (2147483647 : Int32)) % (7 : Int32))), .val (.ref (f1_0 ((p0 &&& (2147483647 : Int32)) % (7 : Int32)) w_DOCUMENT w_ELEMENT w_NAMESPACE w_ATTRIBUTE w_TEXT w_COMMENT w_PROCESSING_INSTRUCTION)), .unset] [(.int (1 : Int32))])) (fun _ k => XS.iconst X1.here hx rfl (hb hby at_34) k) ?_
      refine own_pre (F' := T1.setTop (mkF m 39 #[.val (.int p0), .val (.int ((p0 &&& (2147483647 : Int32)) % (7 : Int32))), .val (.ref (f1_0 ((p0 &&& (2147483647 : Int32)) % (7 : Int32)) w_DOCUMENT w_ELEMENT w_NAMESPACE w_ATTRIBUTE w_TEXT w_COMMENT w_PROCESSING_INSTRUCTION)), .unset] [(.int (1 : Int32))])) (fun _ k => XS.goto X1.here hx rfl (pc0 := 35) (pc' := 39) rfl (hb hby at_35) (by decide) (by decide) k) ?_
      refine own_pre (F' := T1.setTop (mkF m 40 #[.val (.int p0), .val (.int ((p0 &&& (2147483647 : Int32)) % (7 : Int32))), .val (.ref (f1_0 ((p0 &&& (2147483647 : Int32)) % (7 : Int32)) w_DOCUMENT w_ELEMENT w_NAMESPACE w_ATTRIBUTE w_TEXT w_COMMENT w_PROCESSING_INSTRUCTION)), .val (.int (1 : Int32))] [])) (fun _ k => XS.istoreN X1.here hx rfl (hb hby at_39) rfl (l' := #[.val (.int p0), .val (.int ((p0 &&& (2147483647 : Int32)) % (7 : Int32))), .val (.ref (f1_0 ((p0 &&& (2147483647 : Int32)) % (7 : Int32)) w_DOCUMENT w_ELEMENT w_NAMESPACE w_ATTRIBUTE w_TEXT w_COMMENT w_PROCESSING_INSTRUCTION)), .val (.int (1 : Int32))]) rfl k) ?_
      refine own_pre (F' := T1.setTop (mkF m 41 #[.val (.int p0), .val (.int ((p0 &&& (2147483647 : Int32)) % (7 : Int32))), .val (.ref (f1_0 ((p0 &&& (2147483647 : Int32)) % (7 : Int32)) w_DOCUMENT w_ELEMENT w_NAMESPACE w_ATTRIBUTE w_TEXT w_COMMENT w_PROCESSING_INSTRUCTION)), .val (.int (1 : Int32))] [(.ref (f1_0 ((p0 &&& (2147483647 : Int32)) % (7 : Int32)) w_DOCUMENT w_ELEMENT w_NAMESPACE w_ATTRIBUTE w_TEXT w_COMMENT w_PROCESSING_INSTRUCTION))])) (fun _ k => XS.aloadN X1.here hx rfl (hb hby at_40) rfl rfl k) ?_
      obtain ⟨cq', kq', qa', qb', qc'⟩ := isOf hZ e1 (own_exa _ w_DOCUMENT w_ELEMENT w_NAMESPACE w_ATTRIBUTE w_TEXT w_COMMENT w_PROCESSING_INSTRUCTION Ew_DOCUMENT Ew_ELEMENT Ew_NAMESPACE Ew_ATTRIBUTE Ew_TEXT Ew_COMMENT Ew_PROCESSING_INSTRUCTION)
      obtain ⟨_, _, ⟨T3, L', k', n'⟩, -, X'', ⟨Lc', hQ', l', y', z'⟩, st'⟩ := X1.virtualBack hx (y := (⟨"com/example/tsugiki/tsugiki/node/NodeKind", "isNamed", "()Z"⟩ : MethodName)) (z := (⟨"com/example/tsugiki/tsugiki/node/NodeKind", "isNamed", "()Z"⟩ : MethodName)) hown (mvT hZ (hw _ (List.mem_of_getElem? (i := 8) rfl))) (mvT hZ (hw _ (List.mem_of_getElem? (i := 9) rfl))) (notFace_of_selects (args := #[]) (mvT hZ (hw _ (List.mem_of_getElem? (i := 11) rfl)))) (mvT hZ (hw _ (List.mem_of_getElem? (i := 11) rfl))) (mvT hZ (hw _ (List.mem_of_getElem? (i := 10) rfl))) (by decide) (backOf (W := 0) (rm2 l Z aw hw [] (f1_0 ((p0 &&& (2147483647 : Int32)) % (7 : Int32)) w_DOCUMENT w_ELEMENT w_NAMESPACE w_ATTRIBUTE w_TEXT w_COMMENT w_PROCESSING_INSTRUCTION) w_ELEMENT w_NAMESPACE w_ATTRIBUTE w_PROCESSING_INSTRUCTION h0 Sw_ELEMENT Sw_NAMESPACE Sw_ATTRIBUTE Sw_PROCESSING_INSTRUCTION) hZ (hw _ (List.mem_of_getElem? (i := 12) rfl)) (hw _ (List.mem_of_getElem? (i := 6) rfl)) (by decide) (by decide)) qa' qc' (g := (mkF m 41 #[.val (.int p0), .val (.int ((p0 &&& (2147483647 : Int32)) % (7 : Int32))), .val (.ref (f1_0 ((p0 &&& (2147483647 : Int32)) % (7 : Int32)) w_DOCUMENT w_ELEMENT w_NAMESPACE w_ATTRIBUTE w_TEXT w_COMMENT w_PROCESSING_INSTRUCTION)), .val (.int (1 : Int32))] [(.ref (f1_0 ((p0 &&& (2147483647 : Int32)) % (7 : Int32)) w_DOCUMENT w_ELEMENT w_NAMESPACE w_ATTRIBUTE w_TEXT w_COMMENT w_PROCESSING_INSTRUCTION))])) rfl (by rw [hml]; rfl) (Steps.refl _) (argsL := []) (rest := []) (lenOf own_pd1 rfl) rfl (by show 2 * 0 + _ ≤ _; exact Nat.le_of_eq rfl) (hb hby at_41) (fun _ _ => ⟨rfl, e1, (by decide : 0 + 0 ≤ _), (by decide : 0 + 0 ≤ _)⟩)
      dsimp only [Pt.U, Pt.locs, Pt.cells, Pt.slots] at X'' l' y' z' st' hQ'
      subst l' y' z'
      obtain ⟨rfl, rfl, e3⟩ := hQ'
      have X3 : Stand p l e room_1 s m #[(.int p0)] below meth c T3 [] 0 0 := X''
      refine own_pre (F' := T3.setTop (mkF m 44 #[.val (.int p0), .val (.int ((p0 &&& (2147483647 : Int32)) % (7 : Int32))), .val (.ref (f1_0 ((p0 &&& (2147483647 : Int32)) % (7 : Int32)) w_DOCUMENT w_ELEMENT w_NAMESPACE w_ATTRIBUTE w_TEXT w_COMMENT w_PROCESSING_INSTRUCTION)), .val (.int (1 : Int32))] [(.int (f2_0 (f1_0 ((p0 &&& (2147483647 : Int32)) % (7 : Int32)) w_DOCUMENT w_ELEMENT w_NAMESPACE w_ATTRIBUTE w_TEXT w_COMMENT w_PROCESSING_INSTRUCTION) w_ELEMENT w_NAMESPACE w_ATTRIBUTE w_PROCESSING_INSTRUCTION))])) (fun t k => st'.trans k) ?_
      refine own_pre (F' := T3.setTop (mkF m 45 #[.val (.int p0), .val (.int ((p0 &&& (2147483647 : Int32)) % (7 : Int32))), .val (.ref (f1_0 ((p0 &&& (2147483647 : Int32)) % (7 : Int32)) w_DOCUMENT w_ELEMENT w_NAMESPACE w_ATTRIBUTE w_TEXT w_COMMENT w_PROCESSING_INSTRUCTION)), .val (.int (1 : Int32))] [(.int (1 : Int32)), (.int (f2_0 (f1_0 ((p0 &&& (2147483647 : Int32)) % (7 : Int32)) w_DOCUMENT w_ELEMENT w_NAMESPACE w_ATTRIBUTE w_TEXT w_COMMENT w_PROCESSING_INSTRUCTION) w_ELEMENT w_NAMESPACE w_ATTRIBUTE w_PROCESSING_INSTRUCTION))])) (fun _ k => XS.iloadN X3.here hx rfl (hb hby at_44) rfl k) ?_
      refine own_iteI (fun hc45 => ?_) (fun hc45 => ?_)
      · skip
        refine own_pre (F' := T3.setTop (mkF m 48 #[.val (.int p0), .val (.int ((p0 &&& (2147483647 : Int32)) % (7 : Int32))), .val (.ref (f1_0 ((p0 &&& (2147483647 : Int32)) % (7 : Int32)) w_DOCUMENT w_ELEMENT w_NAMESPACE w_ATTRIBUTE w_TEXT w_COMMENT w_PROCESSING_INSTRUCTION)), .val (.int (1 : Int32))] [])) (fun _ k => XS.icmpNo X3.here hx rfl (hb hby at_45) rfl (teq hc45).2 k) ?_
        refine own_pre (F' := T3.setTop (mkF m 49 #[.val (.int p0), .val (.int ((p0 &&& (2147483647 : Int32)) % (7 : Int32))), .val (.ref (f1_0 ((p0 &&& (2147483647 : Int32)) % (7 : Int32)) w_DOCUMENT w_ELEMENT w_NAMESPACE w_ATTRIBUTE w_TEXT w_COMMENT w_PROCESSING_INSTRUCTION)), .val (.int (1 : Int32))] [(.int (1 : Int32))])) (fun _ k => XS.iconst X3.here hx rfl (hb hby at_48) k) ?_
        refine own_pre (F' := T3.setTop (mkF m 53 #[.val (.int p0), .val (.int ((p0 &&& (2147483647 : Int32)) % (7 : Int32))), .val (.ref (f1_0 ((p0 &&& (2147483647 : Int32)) % (7 : Int32)) w_DOCUMENT w_ELEMENT w_NAMESPACE w_ATTRIBUTE w_TEXT w_COMMENT w_PROCESSING_INSTRUCTION)), .val (.int (1 : Int32))] [(.int (1 : Int32))])) (fun _ k => XS.goto X3.here hx rfl (pc0 := 49) (pc' := 53) rfl (hb hby at_49) (by decide) (by decide) k) ?_
        exact own_ret X3 hx Bd.notSynchronized Bd.returns rfl (Or.inl ⟨rfl, by simp, _, rfl⟩) (hb hby at_53) ⟨rfl, e3⟩ (by decide) (by decide)
      · skip
        refine own_pre (F' := T3.setTop (mkF m 52 #[.val (.int p0), .val (.int ((p0 &&& (2147483647 : Int32)) % (7 : Int32))), .val (.ref (f1_0 ((p0 &&& (2147483647 : Int32)) % (7 : Int32)) w_DOCUMENT w_ELEMENT w_NAMESPACE w_ATTRIBUTE w_TEXT w_COMMENT w_PROCESSING_INSTRUCTION)), .val (.int (1 : Int32))] [])) (fun _ k => XS.icmpYes X3.here hx rfl (pc0 := 45) (pc' := 52) rfl (hb hby at_45) rfl (feq hc45).2 (by decide) (by decide) k) ?_
        refine own_pre (F' := T3.setTop (mkF m 53 #[.val (.int p0), .val (.int ((p0 &&& (2147483647 : Int32)) % (7 : Int32))), .val (.ref (f1_0 ((p0 &&& (2147483647 : Int32)) % (7 : Int32)) w_DOCUMENT w_ELEMENT w_NAMESPACE w_ATTRIBUTE w_TEXT w_COMMENT w_PROCESSING_INSTRUCTION)), .val (.int (1 : Int32))] [(.int (0 : Int32))])) (fun _ k => XS.iconst X3.here hx rfl (hb hby at_52) k) ?_
        exact own_ret X3 hx Bd.notSynchronized Bd.returns rfl (Or.inl ⟨rfl, by simp, _, rfl⟩) (hb hby at_53) ⟨rfl, e3⟩ (by decide) (by decide)
    · skip
      refine own_pre (F' := T1.setTop (mkF m 23 #[.val (.int p0), .val (.int ((p0 &&& (2147483647 : Int32)) % (7 : Int32))), .val (.ref (f1_0 ((p0 &&& (2147483647 : Int32)) % (7 : Int32)) w_DOCUMENT w_ELEMENT w_NAMESPACE w_ATTRIBUTE w_TEXT w_COMMENT w_PROCESSING_INSTRUCTION)), .unset] [])) (fun _ k => XS.icmpNo X1.here hx rfl (hb hby at_20) rfl (feq hc20).1 k) ?_
      refine own_pre (F' := T1.setTop (mkF m 24 #[.val (.int p0), .val (.int ((p0 &&& (2147483647 : Int32)) % (7 : Int32))), .val (.ref (f1_0 ((p0 &&& (2147483647 : Int32)) % (7 : Int32)) w_DOCUMENT w_ELEMENT w_NAMESPACE w_ATTRIBUTE w_TEXT w_COMMENT w_PROCESSING_INSTRUCTION)), .unset] [(.int ((p0 &&& (2147483647 : Int32)) % (7 : Int32)))])) (fun _ k => XS.iloadN X1.here hx rfl (hb hby at_23) rfl k) ?_
      refine own_pre (F' := T1.setTop (mkF m 25 #[.val (.int p0), .val (.int ((p0 &&& (2147483647 : Int32)) % (7 : Int32))), .val (.ref (f1_0 ((p0 &&& (2147483647 : Int32)) % (7 : Int32)) w_DOCUMENT w_ELEMENT w_NAMESPACE w_ATTRIBUTE w_TEXT w_COMMENT w_PROCESSING_INSTRUCTION)), .unset] [(.int (3 : Int32)), (.int ((p0 &&& (2147483647 : Int32)) % (7 : Int32)))])) (fun _ k => XS.iconst X1.here hx rfl (hb hby at_24) k) ?_
      refine own_iteI (fun hc25 => ?_) (fun hc25 => ?_)
      · skip
        refine own_pre (F' := T1.setTop (mkF m 34 #[.val (.int p0), .val (.int ((p0 &&& (2147483647 : Int32)) % (7 : Int32))), .val (.ref (f1_0 ((p0 &&& (2147483647 : Int32)) % (7 : Int32)) w_DOCUMENT w_ELEMENT w_NAMESPACE w_ATTRIBUTE w_TEXT w_COMMENT w_PROCESSING_INSTRUCTION)), .unset] [])) (fun _ k => XS.icmpYes X1.here hx rfl (pc0 := 25) (pc' := 34) rfl (hb hby at_25) rfl (teq hc25).1 (by decide) (by decide) k) ?_
        refine own_pre (F' := T1.setTop (mkF m 35 #[.val (.int p0), .val (.int ((p0 &&& (2147483647 : Int32)) % (7 : Int32))), .val (.ref (f1_0 ((p0 &&& (2147483647 : Int32)) % (7 : Int32)) w_DOCUMENT w_ELEMENT w_NAMESPACE w_ATTRIBUTE w_TEXT w_COMMENT w_PROCESSING_INSTRUCTION)), .unset] [(.int (1 : Int32))])) (fun _ k => XS.iconst X1.here hx rfl (hb hby at_34) k) ?_
        refine own_pre (F' := T1.setTop (mkF m 39 #[.val (.int p0), .val (.int ((p0 &&& (2147483647 : Int32)) % (7 : Int32))), .val (.ref (f1_0 ((p0 &&& (2147483647 : Int32)) % (7 : Int32)) w_DOCUMENT w_ELEMENT w_NAMESPACE w_ATTRIBUTE w_TEXT w_COMMENT w_PROCESSING_INSTRUCTION)), .unset] [(.int (1 : Int32))])) (fun _ k => XS.goto X1.here hx rfl (pc0 := 35) (pc' := 39) rfl (hb hby at_35) (by decide) (by decide) k) ?_
        refine own_pre (F' := T1.setTop (mkF m 40 #[.val (.int p0), .val (.int ((p0 &&& (2147483647 : Int32)) % (7 : Int32))), .val (.ref (f1_0 ((p0 &&& (2147483647 : Int32)) % (7 : Int32)) w_DOCUMENT w_ELEMENT w_NAMESPACE w_ATTRIBUTE w_TEXT w_COMMENT w_PROCESSING_INSTRUCTION)), .val (.int (1 : Int32))] [])) (fun _ k => XS.istoreN X1.here hx rfl (hb hby at_39) rfl (l' := #[.val (.int p0), .val (.int ((p0 &&& (2147483647 : Int32)) % (7 : Int32))), .val (.ref (f1_0 ((p0 &&& (2147483647 : Int32)) % (7 : Int32)) w_DOCUMENT w_ELEMENT w_NAMESPACE w_ATTRIBUTE w_TEXT w_COMMENT w_PROCESSING_INSTRUCTION)), .val (.int (1 : Int32))]) rfl k) ?_
        refine own_pre (F' := T1.setTop (mkF m 41 #[.val (.int p0), .val (.int ((p0 &&& (2147483647 : Int32)) % (7 : Int32))), .val (.ref (f1_0 ((p0 &&& (2147483647 : Int32)) % (7 : Int32)) w_DOCUMENT w_ELEMENT w_NAMESPACE w_ATTRIBUTE w_TEXT w_COMMENT w_PROCESSING_INSTRUCTION)), .val (.int (1 : Int32))] [(.ref (f1_0 ((p0 &&& (2147483647 : Int32)) % (7 : Int32)) w_DOCUMENT w_ELEMENT w_NAMESPACE w_ATTRIBUTE w_TEXT w_COMMENT w_PROCESSING_INSTRUCTION))])) (fun _ k => XS.aloadN X1.here hx rfl (hb hby at_40) rfl rfl k) ?_
        obtain ⟨cq', kq', qa', qb', qc'⟩ := isOf hZ e1 (own_exa _ w_DOCUMENT w_ELEMENT w_NAMESPACE w_ATTRIBUTE w_TEXT w_COMMENT w_PROCESSING_INSTRUCTION Ew_DOCUMENT Ew_ELEMENT Ew_NAMESPACE Ew_ATTRIBUTE Ew_TEXT Ew_COMMENT Ew_PROCESSING_INSTRUCTION)
        obtain ⟨_, _, ⟨T4, L', k', n'⟩, -, X'', ⟨Lc', hQ', l', y', z'⟩, st'⟩ := X1.virtualBack hx (y := (⟨"com/example/tsugiki/tsugiki/node/NodeKind", "isNamed", "()Z"⟩ : MethodName)) (z := (⟨"com/example/tsugiki/tsugiki/node/NodeKind", "isNamed", "()Z"⟩ : MethodName)) hown (mvT hZ (hw _ (List.mem_of_getElem? (i := 8) rfl))) (mvT hZ (hw _ (List.mem_of_getElem? (i := 9) rfl))) (notFace_of_selects (args := #[]) (mvT hZ (hw _ (List.mem_of_getElem? (i := 11) rfl)))) (mvT hZ (hw _ (List.mem_of_getElem? (i := 11) rfl))) (mvT hZ (hw _ (List.mem_of_getElem? (i := 10) rfl))) (by decide) (backOf (W := 0) (rm2 l Z aw hw [] (f1_0 ((p0 &&& (2147483647 : Int32)) % (7 : Int32)) w_DOCUMENT w_ELEMENT w_NAMESPACE w_ATTRIBUTE w_TEXT w_COMMENT w_PROCESSING_INSTRUCTION) w_ELEMENT w_NAMESPACE w_ATTRIBUTE w_PROCESSING_INSTRUCTION h0 Sw_ELEMENT Sw_NAMESPACE Sw_ATTRIBUTE Sw_PROCESSING_INSTRUCTION) hZ (hw _ (List.mem_of_getElem? (i := 12) rfl)) (hw _ (List.mem_of_getElem? (i := 6) rfl)) (by decide) (by decide)) qa' qc' (g := (mkF m 41 #[.val (.int p0), .val (.int ((p0 &&& (2147483647 : Int32)) % (7 : Int32))), .val (.ref (f1_0 ((p0 &&& (2147483647 : Int32)) % (7 : Int32)) w_DOCUMENT w_ELEMENT w_NAMESPACE w_ATTRIBUTE w_TEXT w_COMMENT w_PROCESSING_INSTRUCTION)), .val (.int (1 : Int32))] [(.ref (f1_0 ((p0 &&& (2147483647 : Int32)) % (7 : Int32)) w_DOCUMENT w_ELEMENT w_NAMESPACE w_ATTRIBUTE w_TEXT w_COMMENT w_PROCESSING_INSTRUCTION))])) rfl (by rw [hml]; rfl) (Steps.refl _) (argsL := []) (rest := []) (lenOf own_pd1 rfl) rfl (by show 2 * 0 + _ ≤ _; exact Nat.le_of_eq rfl) (hb hby at_41) (fun _ _ => ⟨rfl, e1, (by decide : 0 + 0 ≤ _), (by decide : 0 + 0 ≤ _)⟩)
        dsimp only [Pt.U, Pt.locs, Pt.cells, Pt.slots] at X'' l' y' z' st' hQ'
        subst l' y' z'
        obtain ⟨rfl, rfl, e4⟩ := hQ'
        have X4 : Stand p l e room_1 s m #[(.int p0)] below meth c T4 [] 0 0 := X''
        refine own_pre (F' := T4.setTop (mkF m 44 #[.val (.int p0), .val (.int ((p0 &&& (2147483647 : Int32)) % (7 : Int32))), .val (.ref (f1_0 ((p0 &&& (2147483647 : Int32)) % (7 : Int32)) w_DOCUMENT w_ELEMENT w_NAMESPACE w_ATTRIBUTE w_TEXT w_COMMENT w_PROCESSING_INSTRUCTION)), .val (.int (1 : Int32))] [(.int (f2_0 (f1_0 ((p0 &&& (2147483647 : Int32)) % (7 : Int32)) w_DOCUMENT w_ELEMENT w_NAMESPACE w_ATTRIBUTE w_TEXT w_COMMENT w_PROCESSING_INSTRUCTION) w_ELEMENT w_NAMESPACE w_ATTRIBUTE w_PROCESSING_INSTRUCTION))])) (fun t k => st'.trans k) ?_
        refine own_pre (F' := T4.setTop (mkF m 45 #[.val (.int p0), .val (.int ((p0 &&& (2147483647 : Int32)) % (7 : Int32))), .val (.ref (f1_0 ((p0 &&& (2147483647 : Int32)) % (7 : Int32)) w_DOCUMENT w_ELEMENT w_NAMESPACE w_ATTRIBUTE w_TEXT w_COMMENT w_PROCESSING_INSTRUCTION)), .val (.int (1 : Int32))] [(.int (1 : Int32)), (.int (f2_0 (f1_0 ((p0 &&& (2147483647 : Int32)) % (7 : Int32)) w_DOCUMENT w_ELEMENT w_NAMESPACE w_ATTRIBUTE w_TEXT w_COMMENT w_PROCESSING_INSTRUCTION) w_ELEMENT w_NAMESPACE w_ATTRIBUTE w_PROCESSING_INSTRUCTION))])) (fun _ k => XS.iloadN X4.here hx rfl (hb hby at_44) rfl k) ?_
        refine own_iteI (fun hc45 => ?_) (fun hc45 => ?_)
        · skip
          refine own_pre (F' := T4.setTop (mkF m 48 #[.val (.int p0), .val (.int ((p0 &&& (2147483647 : Int32)) % (7 : Int32))), .val (.ref (f1_0 ((p0 &&& (2147483647 : Int32)) % (7 : Int32)) w_DOCUMENT w_ELEMENT w_NAMESPACE w_ATTRIBUTE w_TEXT w_COMMENT w_PROCESSING_INSTRUCTION)), .val (.int (1 : Int32))] [])) (fun _ k => XS.icmpNo X4.here hx rfl (hb hby at_45) rfl (teq hc45).2 k) ?_
          refine own_pre (F' := T4.setTop (mkF m 49 #[.val (.int p0), .val (.int ((p0 &&& (2147483647 : Int32)) % (7 : Int32))), .val (.ref (f1_0 ((p0 &&& (2147483647 : Int32)) % (7 : Int32)) w_DOCUMENT w_ELEMENT w_NAMESPACE w_ATTRIBUTE w_TEXT w_COMMENT w_PROCESSING_INSTRUCTION)), .val (.int (1 : Int32))] [(.int (1 : Int32))])) (fun _ k => XS.iconst X4.here hx rfl (hb hby at_48) k) ?_
          refine own_pre (F' := T4.setTop (mkF m 53 #[.val (.int p0), .val (.int ((p0 &&& (2147483647 : Int32)) % (7 : Int32))), .val (.ref (f1_0 ((p0 &&& (2147483647 : Int32)) % (7 : Int32)) w_DOCUMENT w_ELEMENT w_NAMESPACE w_ATTRIBUTE w_TEXT w_COMMENT w_PROCESSING_INSTRUCTION)), .val (.int (1 : Int32))] [(.int (1 : Int32))])) (fun _ k => XS.goto X4.here hx rfl (pc0 := 49) (pc' := 53) rfl (hb hby at_49) (by decide) (by decide) k) ?_
          exact own_ret X4 hx Bd.notSynchronized Bd.returns rfl (Or.inl ⟨rfl, by simp, _, rfl⟩) (hb hby at_53) ⟨rfl, e4⟩ (by decide) (by decide)
        · skip
          refine own_pre (F' := T4.setTop (mkF m 52 #[.val (.int p0), .val (.int ((p0 &&& (2147483647 : Int32)) % (7 : Int32))), .val (.ref (f1_0 ((p0 &&& (2147483647 : Int32)) % (7 : Int32)) w_DOCUMENT w_ELEMENT w_NAMESPACE w_ATTRIBUTE w_TEXT w_COMMENT w_PROCESSING_INSTRUCTION)), .val (.int (1 : Int32))] [])) (fun _ k => XS.icmpYes X4.here hx rfl (pc0 := 45) (pc' := 52) rfl (hb hby at_45) rfl (feq hc45).2 (by decide) (by decide) k) ?_
          refine own_pre (F' := T4.setTop (mkF m 53 #[.val (.int p0), .val (.int ((p0 &&& (2147483647 : Int32)) % (7 : Int32))), .val (.ref (f1_0 ((p0 &&& (2147483647 : Int32)) % (7 : Int32)) w_DOCUMENT w_ELEMENT w_NAMESPACE w_ATTRIBUTE w_TEXT w_COMMENT w_PROCESSING_INSTRUCTION)), .val (.int (1 : Int32))] [(.int (0 : Int32))])) (fun _ k => XS.iconst X4.here hx rfl (hb hby at_52) k) ?_
          exact own_ret X4 hx Bd.notSynchronized Bd.returns rfl (Or.inl ⟨rfl, by simp, _, rfl⟩) (hb hby at_53) ⟨rfl, e4⟩ (by decide) (by decide)
      · skip
        refine own_pre (F' := T1.setTop (mkF m 28 #[.val (.int p0), .val (.int ((p0 &&& (2147483647 : Int32)) % (7 : Int32))), .val (.ref (f1_0 ((p0 &&& (2147483647 : Int32)) % (7 : Int32)) w_DOCUMENT w_ELEMENT w_NAMESPACE w_ATTRIBUTE w_TEXT w_COMMENT w_PROCESSING_INSTRUCTION)), .unset] [])) (fun _ k => XS.icmpNo X1.here hx rfl (hb hby at_25) rfl (feq hc25).1 k) ?_
        refine own_pre (F' := T1.setTop (mkF m 29 #[.val (.int p0), .val (.int ((p0 &&& (2147483647 : Int32)) % (7 : Int32))), .val (.ref (f1_0 ((p0 &&& (2147483647 : Int32)) % (7 : Int32)) w_DOCUMENT w_ELEMENT w_NAMESPACE w_ATTRIBUTE w_TEXT w_COMMENT w_PROCESSING_INSTRUCTION)), .unset] [(.int ((p0 &&& (2147483647 : Int32)) % (7 : Int32)))])) (fun _ k => XS.iloadN X1.here hx rfl (hb hby at_28) rfl k) ?_
        refine own_pre (F' := T1.setTop (mkF m 31 #[.val (.int p0), .val (.int ((p0 &&& (2147483647 : Int32)) % (7 : Int32))), .val (.ref (f1_0 ((p0 &&& (2147483647 : Int32)) % (7 : Int32)) w_DOCUMENT w_ELEMENT w_NAMESPACE w_ATTRIBUTE w_TEXT w_COMMENT w_PROCESSING_INSTRUCTION)), .unset] [(.int (6 : Int32)), (.int ((p0 &&& (2147483647 : Int32)) % (7 : Int32)))])) (fun _ k => XS.bipush X1.here hx rfl (hb hby at_29) k) ?_
        refine own_iteI (fun hc31 => ?_) (fun hc31 => ?_)
        · skip
          refine own_pre (F' := T1.setTop (mkF m 34 #[.val (.int p0), .val (.int ((p0 &&& (2147483647 : Int32)) % (7 : Int32))), .val (.ref (f1_0 ((p0 &&& (2147483647 : Int32)) % (7 : Int32)) w_DOCUMENT w_ELEMENT w_NAMESPACE w_ATTRIBUTE w_TEXT w_COMMENT w_PROCESSING_INSTRUCTION)), .unset] [])) (fun _ k => XS.icmpNo X1.here hx rfl (hb hby at_31) rfl (teq hc31).2 k) ?_
          refine own_pre (F' := T1.setTop (mkF m 35 #[.val (.int p0), .val (.int ((p0 &&& (2147483647 : Int32)) % (7 : Int32))), .val (.ref (f1_0 ((p0 &&& (2147483647 : Int32)) % (7 : Int32)) w_DOCUMENT w_ELEMENT w_NAMESPACE w_ATTRIBUTE w_TEXT w_COMMENT w_PROCESSING_INSTRUCTION)), .unset] [(.int (1 : Int32))])) (fun _ k => XS.iconst X1.here hx rfl (hb hby at_34) k) ?_
          refine own_pre (F' := T1.setTop (mkF m 39 #[.val (.int p0), .val (.int ((p0 &&& (2147483647 : Int32)) % (7 : Int32))), .val (.ref (f1_0 ((p0 &&& (2147483647 : Int32)) % (7 : Int32)) w_DOCUMENT w_ELEMENT w_NAMESPACE w_ATTRIBUTE w_TEXT w_COMMENT w_PROCESSING_INSTRUCTION)), .unset] [(.int (1 : Int32))])) (fun _ k => XS.goto X1.here hx rfl (pc0 := 35) (pc' := 39) rfl (hb hby at_35) (by decide) (by decide) k) ?_
          refine own_pre (F' := T1.setTop (mkF m 40 #[.val (.int p0), .val (.int ((p0 &&& (2147483647 : Int32)) % (7 : Int32))), .val (.ref (f1_0 ((p0 &&& (2147483647 : Int32)) % (7 : Int32)) w_DOCUMENT w_ELEMENT w_NAMESPACE w_ATTRIBUTE w_TEXT w_COMMENT w_PROCESSING_INSTRUCTION)), .val (.int (1 : Int32))] [])) (fun _ k => XS.istoreN X1.here hx rfl (hb hby at_39) rfl (l' := #[.val (.int p0), .val (.int ((p0 &&& (2147483647 : Int32)) % (7 : Int32))), .val (.ref (f1_0 ((p0 &&& (2147483647 : Int32)) % (7 : Int32)) w_DOCUMENT w_ELEMENT w_NAMESPACE w_ATTRIBUTE w_TEXT w_COMMENT w_PROCESSING_INSTRUCTION)), .val (.int (1 : Int32))]) rfl k) ?_
          refine own_pre (F' := T1.setTop (mkF m 41 #[.val (.int p0), .val (.int ((p0 &&& (2147483647 : Int32)) % (7 : Int32))), .val (.ref (f1_0 ((p0 &&& (2147483647 : Int32)) % (7 : Int32)) w_DOCUMENT w_ELEMENT w_NAMESPACE w_ATTRIBUTE w_TEXT w_COMMENT w_PROCESSING_INSTRUCTION)), .val (.int (1 : Int32))] [(.ref (f1_0 ((p0 &&& (2147483647 : Int32)) % (7 : Int32)) w_DOCUMENT w_ELEMENT w_NAMESPACE w_ATTRIBUTE w_TEXT w_COMMENT w_PROCESSING_INSTRUCTION))])) (fun _ k => XS.aloadN X1.here hx rfl (hb hby at_40) rfl rfl k) ?_
          obtain ⟨cq', kq', qa', qb', qc'⟩ := isOf hZ e1 (own_exa _ w_DOCUMENT w_ELEMENT w_NAMESPACE w_ATTRIBUTE w_TEXT w_COMMENT w_PROCESSING_INSTRUCTION Ew_DOCUMENT Ew_ELEMENT Ew_NAMESPACE Ew_ATTRIBUTE Ew_TEXT Ew_COMMENT Ew_PROCESSING_INSTRUCTION)
          obtain ⟨_, _, ⟨T5, L', k', n'⟩, -, X'', ⟨Lc', hQ', l', y', z'⟩, st'⟩ := X1.virtualBack hx (y := (⟨"com/example/tsugiki/tsugiki/node/NodeKind", "isNamed", "()Z"⟩ : MethodName)) (z := (⟨"com/example/tsugiki/tsugiki/node/NodeKind", "isNamed", "()Z"⟩ : MethodName)) hown (mvT hZ (hw _ (List.mem_of_getElem? (i := 8) rfl))) (mvT hZ (hw _ (List.mem_of_getElem? (i := 9) rfl))) (notFace_of_selects (args := #[]) (mvT hZ (hw _ (List.mem_of_getElem? (i := 11) rfl)))) (mvT hZ (hw _ (List.mem_of_getElem? (i := 11) rfl))) (mvT hZ (hw _ (List.mem_of_getElem? (i := 10) rfl))) (by decide) (backOf (W := 0) (rm2 l Z aw hw [] (f1_0 ((p0 &&& (2147483647 : Int32)) % (7 : Int32)) w_DOCUMENT w_ELEMENT w_NAMESPACE w_ATTRIBUTE w_TEXT w_COMMENT w_PROCESSING_INSTRUCTION) w_ELEMENT w_NAMESPACE w_ATTRIBUTE w_PROCESSING_INSTRUCTION h0 Sw_ELEMENT Sw_NAMESPACE Sw_ATTRIBUTE Sw_PROCESSING_INSTRUCTION) hZ (hw _ (List.mem_of_getElem? (i := 12) rfl)) (hw _ (List.mem_of_getElem? (i := 6) rfl)) (by decide) (by decide)) qa' qc' (g := (mkF m 41 #[.val (.int p0), .val (.int ((p0 &&& (2147483647 : Int32)) % (7 : Int32))), .val (.ref (f1_0 ((p0 &&& (2147483647 : Int32)) % (7 : Int32)) w_DOCUMENT w_ELEMENT w_NAMESPACE w_ATTRIBUTE w_TEXT w_COMMENT w_PROCESSING_INSTRUCTION)), .val (.int (1 : Int32))] [(.ref (f1_0 ((p0 &&& (2147483647 : Int32)) % (7 : Int32)) w_DOCUMENT w_ELEMENT w_NAMESPACE w_ATTRIBUTE w_TEXT w_COMMENT w_PROCESSING_INSTRUCTION))])) rfl (by rw [hml]; rfl) (Steps.refl _) (argsL := []) (rest := []) (lenOf own_pd1 rfl) rfl (by show 2 * 0 + _ ≤ _; exact Nat.le_of_eq rfl) (hb hby at_41) (fun _ _ => ⟨rfl, e1, (by decide : 0 + 0 ≤ _), (by decide : 0 + 0 ≤ _)⟩)
          dsimp only [Pt.U, Pt.locs, Pt.cells, Pt.slots] at X'' l' y' z' st' hQ'
          subst l' y' z'
          obtain ⟨rfl, rfl, e5⟩ := hQ'
          have X5 : Stand p l e room_1 s m #[(.int p0)] below meth c T5 [] 0 0 := X''
          refine own_pre (F' := T5.setTop (mkF m 44 #[.val (.int p0), .val (.int ((p0 &&& (2147483647 : Int32)) % (7 : Int32))), .val (.ref (f1_0 ((p0 &&& (2147483647 : Int32)) % (7 : Int32)) w_DOCUMENT w_ELEMENT w_NAMESPACE w_ATTRIBUTE w_TEXT w_COMMENT w_PROCESSING_INSTRUCTION)), .val (.int (1 : Int32))] [(.int (f2_0 (f1_0 ((p0 &&& (2147483647 : Int32)) % (7 : Int32)) w_DOCUMENT w_ELEMENT w_NAMESPACE w_ATTRIBUTE w_TEXT w_COMMENT w_PROCESSING_INSTRUCTION) w_ELEMENT w_NAMESPACE w_ATTRIBUTE w_PROCESSING_INSTRUCTION))])) (fun t k => st'.trans k) ?_
          refine own_pre (F' := T5.setTop (mkF m 45 #[.val (.int p0), .val (.int ((p0 &&& (2147483647 : Int32)) % (7 : Int32))), .val (.ref (f1_0 ((p0 &&& (2147483647 : Int32)) % (7 : Int32)) w_DOCUMENT w_ELEMENT w_NAMESPACE w_ATTRIBUTE w_TEXT w_COMMENT w_PROCESSING_INSTRUCTION)), .val (.int (1 : Int32))] [(.int (1 : Int32)), (.int (f2_0 (f1_0 ((p0 &&& (2147483647 : Int32)) % (7 : Int32)) w_DOCUMENT w_ELEMENT w_NAMESPACE w_ATTRIBUTE w_TEXT w_COMMENT w_PROCESSING_INSTRUCTION) w_ELEMENT w_NAMESPACE w_ATTRIBUTE w_PROCESSING_INSTRUCTION))])) (fun _ k => XS.iloadN X5.here hx rfl (hb hby at_44) rfl k) ?_
          refine own_iteI (fun hc45 => ?_) (fun hc45 => ?_)
          · skip
            refine own_pre (F' := T5.setTop (mkF m 48 #[.val (.int p0), .val (.int ((p0 &&& (2147483647 : Int32)) % (7 : Int32))), .val (.ref (f1_0 ((p0 &&& (2147483647 : Int32)) % (7 : Int32)) w_DOCUMENT w_ELEMENT w_NAMESPACE w_ATTRIBUTE w_TEXT w_COMMENT w_PROCESSING_INSTRUCTION)), .val (.int (1 : Int32))] [])) (fun _ k => XS.icmpNo X5.here hx rfl (hb hby at_45) rfl (teq hc45).2 k) ?_
            refine own_pre (F' := T5.setTop (mkF m 49 #[.val (.int p0), .val (.int ((p0 &&& (2147483647 : Int32)) % (7 : Int32))), .val (.ref (f1_0 ((p0 &&& (2147483647 : Int32)) % (7 : Int32)) w_DOCUMENT w_ELEMENT w_NAMESPACE w_ATTRIBUTE w_TEXT w_COMMENT w_PROCESSING_INSTRUCTION)), .val (.int (1 : Int32))] [(.int (1 : Int32))])) (fun _ k => XS.iconst X5.here hx rfl (hb hby at_48) k) ?_
            refine own_pre (F' := T5.setTop (mkF m 53 #[.val (.int p0), .val (.int ((p0 &&& (2147483647 : Int32)) % (7 : Int32))), .val (.ref (f1_0 ((p0 &&& (2147483647 : Int32)) % (7 : Int32)) w_DOCUMENT w_ELEMENT w_NAMESPACE w_ATTRIBUTE w_TEXT w_COMMENT w_PROCESSING_INSTRUCTION)), .val (.int (1 : Int32))] [(.int (1 : Int32))])) (fun _ k => XS.goto X5.here hx rfl (pc0 := 49) (pc' := 53) rfl (hb hby at_49) (by decide) (by decide) k) ?_
            exact own_ret X5 hx Bd.notSynchronized Bd.returns rfl (Or.inl ⟨rfl, by simp, _, rfl⟩) (hb hby at_53) ⟨rfl, e5⟩ (by decide) (by decide)
          · skip
            refine own_pre (F' := T5.setTop (mkF m 52 #[.val (.int p0), .val (.int ((p0 &&& (2147483647 : Int32)) % (7 : Int32))), .val (.ref (f1_0 ((p0 &&& (2147483647 : Int32)) % (7 : Int32)) w_DOCUMENT w_ELEMENT w_NAMESPACE w_ATTRIBUTE w_TEXT w_COMMENT w_PROCESSING_INSTRUCTION)), .val (.int (1 : Int32))] [])) (fun _ k => XS.icmpYes X5.here hx rfl (pc0 := 45) (pc' := 52) rfl (hb hby at_45) rfl (feq hc45).2 (by decide) (by decide) k) ?_
            refine own_pre (F' := T5.setTop (mkF m 53 #[.val (.int p0), .val (.int ((p0 &&& (2147483647 : Int32)) % (7 : Int32))), .val (.ref (f1_0 ((p0 &&& (2147483647 : Int32)) % (7 : Int32)) w_DOCUMENT w_ELEMENT w_NAMESPACE w_ATTRIBUTE w_TEXT w_COMMENT w_PROCESSING_INSTRUCTION)), .val (.int (1 : Int32))] [(.int (0 : Int32))])) (fun _ k => XS.iconst X5.here hx rfl (hb hby at_52) k) ?_
            exact own_ret X5 hx Bd.notSynchronized Bd.returns rfl (Or.inl ⟨rfl, by simp, _, rfl⟩) (hb hby at_53) ⟨rfl, e5⟩ (by decide) (by decide)
        · skip
          refine own_pre (F' := T1.setTop (mkF m 38 #[.val (.int p0), .val (.int ((p0 &&& (2147483647 : Int32)) % (7 : Int32))), .val (.ref (f1_0 ((p0 &&& (2147483647 : Int32)) % (7 : Int32)) w_DOCUMENT w_ELEMENT w_NAMESPACE w_ATTRIBUTE w_TEXT w_COMMENT w_PROCESSING_INSTRUCTION)), .unset] [])) (fun _ k => XS.icmpYes X1.here hx rfl (pc0 := 31) (pc' := 38) rfl (hb hby at_31) rfl (feq hc31).2 (by decide) (by decide) k) ?_
          refine own_pre (F' := T1.setTop (mkF m 39 #[.val (.int p0), .val (.int ((p0 &&& (2147483647 : Int32)) % (7 : Int32))), .val (.ref (f1_0 ((p0 &&& (2147483647 : Int32)) % (7 : Int32)) w_DOCUMENT w_ELEMENT w_NAMESPACE w_ATTRIBUTE w_TEXT w_COMMENT w_PROCESSING_INSTRUCTION)), .unset] [(.int (0 : Int32))])) (fun _ k => XS.iconst X1.here hx rfl (hb hby at_38) k) ?_
          refine own_pre (F' := T1.setTop (mkF m 40 #[.val (.int p0), .val (.int ((p0 &&& (2147483647 : Int32)) % (7 : Int32))), .val (.ref (f1_0 ((p0 &&& (2147483647 : Int32)) % (7 : Int32)) w_DOCUMENT w_ELEMENT w_NAMESPACE w_ATTRIBUTE w_TEXT w_COMMENT w_PROCESSING_INSTRUCTION)), .val (.int (0 : Int32))] [])) (fun _ k => XS.istoreN X1.here hx rfl (hb hby at_39) rfl (l' := #[.val (.int p0), .val (.int ((p0 &&& (2147483647 : Int32)) % (7 : Int32))), .val (.ref (f1_0 ((p0 &&& (2147483647 : Int32)) % (7 : Int32)) w_DOCUMENT w_ELEMENT w_NAMESPACE w_ATTRIBUTE w_TEXT w_COMMENT w_PROCESSING_INSTRUCTION)), .val (.int (0 : Int32))]) rfl k) ?_
          refine own_pre (F' := T1.setTop (mkF m 41 #[.val (.int p0), .val (.int ((p0 &&& (2147483647 : Int32)) % (7 : Int32))), .val (.ref (f1_0 ((p0 &&& (2147483647 : Int32)) % (7 : Int32)) w_DOCUMENT w_ELEMENT w_NAMESPACE w_ATTRIBUTE w_TEXT w_COMMENT w_PROCESSING_INSTRUCTION)), .val (.int (0 : Int32))] [(.ref (f1_0 ((p0 &&& (2147483647 : Int32)) % (7 : Int32)) w_DOCUMENT w_ELEMENT w_NAMESPACE w_ATTRIBUTE w_TEXT w_COMMENT w_PROCESSING_INSTRUCTION))])) (fun _ k => XS.aloadN X1.here hx rfl (hb hby at_40) rfl rfl k) ?_
          obtain ⟨cq', kq', qa', qb', qc'⟩ := isOf hZ e1 (own_exa _ w_DOCUMENT w_ELEMENT w_NAMESPACE w_ATTRIBUTE w_TEXT w_COMMENT w_PROCESSING_INSTRUCTION Ew_DOCUMENT Ew_ELEMENT Ew_NAMESPACE Ew_ATTRIBUTE Ew_TEXT Ew_COMMENT Ew_PROCESSING_INSTRUCTION)
          obtain ⟨_, _, ⟨T6, L', k', n'⟩, -, X'', ⟨Lc', hQ', l', y', z'⟩, st'⟩ := X1.virtualBack hx (y := (⟨"com/example/tsugiki/tsugiki/node/NodeKind", "isNamed", "()Z"⟩ : MethodName)) (z := (⟨"com/example/tsugiki/tsugiki/node/NodeKind", "isNamed", "()Z"⟩ : MethodName)) hown (mvT hZ (hw _ (List.mem_of_getElem? (i := 8) rfl))) (mvT hZ (hw _ (List.mem_of_getElem? (i := 9) rfl))) (notFace_of_selects (args := #[]) (mvT hZ (hw _ (List.mem_of_getElem? (i := 11) rfl)))) (mvT hZ (hw _ (List.mem_of_getElem? (i := 11) rfl))) (mvT hZ (hw _ (List.mem_of_getElem? (i := 10) rfl))) (by decide) (backOf (W := 0) (rm2 l Z aw hw [] (f1_0 ((p0 &&& (2147483647 : Int32)) % (7 : Int32)) w_DOCUMENT w_ELEMENT w_NAMESPACE w_ATTRIBUTE w_TEXT w_COMMENT w_PROCESSING_INSTRUCTION) w_ELEMENT w_NAMESPACE w_ATTRIBUTE w_PROCESSING_INSTRUCTION h0 Sw_ELEMENT Sw_NAMESPACE Sw_ATTRIBUTE Sw_PROCESSING_INSTRUCTION) hZ (hw _ (List.mem_of_getElem? (i := 12) rfl)) (hw _ (List.mem_of_getElem? (i := 6) rfl)) (by decide) (by decide)) qa' qc' (g := (mkF m 41 #[.val (.int p0), .val (.int ((p0 &&& (2147483647 : Int32)) % (7 : Int32))), .val (.ref (f1_0 ((p0 &&& (2147483647 : Int32)) % (7 : Int32)) w_DOCUMENT w_ELEMENT w_NAMESPACE w_ATTRIBUTE w_TEXT w_COMMENT w_PROCESSING_INSTRUCTION)), .val (.int (0 : Int32))] [(.ref (f1_0 ((p0 &&& (2147483647 : Int32)) % (7 : Int32)) w_DOCUMENT w_ELEMENT w_NAMESPACE w_ATTRIBUTE w_TEXT w_COMMENT w_PROCESSING_INSTRUCTION))])) rfl (by rw [hml]; rfl) (Steps.refl _) (argsL := []) (rest := []) (lenOf own_pd1 rfl) rfl (by show 2 * 0 + _ ≤ _; exact Nat.le_of_eq rfl) (hb hby at_41) (fun _ _ => ⟨rfl, e1, (by decide : 0 + 0 ≤ _), (by decide : 0 + 0 ≤ _)⟩)
          dsimp only [Pt.U, Pt.locs, Pt.cells, Pt.slots] at X'' l' y' z' st' hQ'
          subst l' y' z'
          obtain ⟨rfl, rfl, e6⟩ := hQ'
          have X6 : Stand p l e room_1 s m #[(.int p0)] below meth c T6 [] 0 0 := X''
          refine own_pre (F' := T6.setTop (mkF m 44 #[.val (.int p0), .val (.int ((p0 &&& (2147483647 : Int32)) % (7 : Int32))), .val (.ref (f1_0 ((p0 &&& (2147483647 : Int32)) % (7 : Int32)) w_DOCUMENT w_ELEMENT w_NAMESPACE w_ATTRIBUTE w_TEXT w_COMMENT w_PROCESSING_INSTRUCTION)), .val (.int (0 : Int32))] [(.int (f2_0 (f1_0 ((p0 &&& (2147483647 : Int32)) % (7 : Int32)) w_DOCUMENT w_ELEMENT w_NAMESPACE w_ATTRIBUTE w_TEXT w_COMMENT w_PROCESSING_INSTRUCTION) w_ELEMENT w_NAMESPACE w_ATTRIBUTE w_PROCESSING_INSTRUCTION))])) (fun t k => st'.trans k) ?_
          refine own_pre (F' := T6.setTop (mkF m 45 #[.val (.int p0), .val (.int ((p0 &&& (2147483647 : Int32)) % (7 : Int32))), .val (.ref (f1_0 ((p0 &&& (2147483647 : Int32)) % (7 : Int32)) w_DOCUMENT w_ELEMENT w_NAMESPACE w_ATTRIBUTE w_TEXT w_COMMENT w_PROCESSING_INSTRUCTION)), .val (.int (0 : Int32))] [(.int (0 : Int32)), (.int (f2_0 (f1_0 ((p0 &&& (2147483647 : Int32)) % (7 : Int32)) w_DOCUMENT w_ELEMENT w_NAMESPACE w_ATTRIBUTE w_TEXT w_COMMENT w_PROCESSING_INSTRUCTION) w_ELEMENT w_NAMESPACE w_ATTRIBUTE w_PROCESSING_INSTRUCTION))])) (fun _ k => XS.iloadN X6.here hx rfl (hb hby at_44) rfl k) ?_
          refine own_iteI (fun hc45 => ?_) (fun hc45 => ?_)
          · skip
            refine own_pre (F' := T6.setTop (mkF m 48 #[.val (.int p0), .val (.int ((p0 &&& (2147483647 : Int32)) % (7 : Int32))), .val (.ref (f1_0 ((p0 &&& (2147483647 : Int32)) % (7 : Int32)) w_DOCUMENT w_ELEMENT w_NAMESPACE w_ATTRIBUTE w_TEXT w_COMMENT w_PROCESSING_INSTRUCTION)), .val (.int (0 : Int32))] [])) (fun _ k => XS.icmpNo X6.here hx rfl (hb hby at_45) rfl (teq hc45).2 k) ?_
            refine own_pre (F' := T6.setTop (mkF m 49 #[.val (.int p0), .val (.int ((p0 &&& (2147483647 : Int32)) % (7 : Int32))), .val (.ref (f1_0 ((p0 &&& (2147483647 : Int32)) % (7 : Int32)) w_DOCUMENT w_ELEMENT w_NAMESPACE w_ATTRIBUTE w_TEXT w_COMMENT w_PROCESSING_INSTRUCTION)), .val (.int (0 : Int32))] [(.int (1 : Int32))])) (fun _ k => XS.iconst X6.here hx rfl (hb hby at_48) k) ?_
            refine own_pre (F' := T6.setTop (mkF m 53 #[.val (.int p0), .val (.int ((p0 &&& (2147483647 : Int32)) % (7 : Int32))), .val (.ref (f1_0 ((p0 &&& (2147483647 : Int32)) % (7 : Int32)) w_DOCUMENT w_ELEMENT w_NAMESPACE w_ATTRIBUTE w_TEXT w_COMMENT w_PROCESSING_INSTRUCTION)), .val (.int (0 : Int32))] [(.int (1 : Int32))])) (fun _ k => XS.goto X6.here hx rfl (pc0 := 49) (pc' := 53) rfl (hb hby at_49) (by decide) (by decide) k) ?_
            exact own_ret X6 hx Bd.notSynchronized Bd.returns rfl (Or.inl ⟨rfl, by simp, _, rfl⟩) (hb hby at_53) ⟨rfl, e6⟩ (by decide) (by decide)
          · skip
            refine own_pre (F' := T6.setTop (mkF m 52 #[.val (.int p0), .val (.int ((p0 &&& (2147483647 : Int32)) % (7 : Int32))), .val (.ref (f1_0 ((p0 &&& (2147483647 : Int32)) % (7 : Int32)) w_DOCUMENT w_ELEMENT w_NAMESPACE w_ATTRIBUTE w_TEXT w_COMMENT w_PROCESSING_INSTRUCTION)), .val (.int (0 : Int32))] [])) (fun _ k => XS.icmpYes X6.here hx rfl (pc0 := 45) (pc' := 52) rfl (hb hby at_45) rfl (feq hc45).2 (by decide) (by decide) k) ?_
            refine own_pre (F' := T6.setTop (mkF m 53 #[.val (.int p0), .val (.int ((p0 &&& (2147483647 : Int32)) % (7 : Int32))), .val (.ref (f1_0 ((p0 &&& (2147483647 : Int32)) % (7 : Int32)) w_DOCUMENT w_ELEMENT w_NAMESPACE w_ATTRIBUTE w_TEXT w_COMMENT w_PROCESSING_INSTRUCTION)), .val (.int (0 : Int32))] [(.int (0 : Int32))])) (fun _ k => XS.iconst X6.here hx rfl (hb hby at_52) k) ?_
            exact own_ret X6 hx Bd.notSynchronized Bd.returns rfl (Or.inl ⟨rfl, by simp, _, rfl⟩) (hb hby at_53) ⟨rfl, e6⟩ (by decide) (by decide)
theorem ef_0 (m : MethodId) (p0 : Int32) : entryFrame m #[(.int p0)] maxLocals = mkF m 0 #[.val (.int p0), .unset, .unset, .unset] [] := by first | (simp [entryFrame, mkF, argsToLocals, Value.category, maxLocals]; done) | rfl
set_option maxRecDepth 65536 in
set_option maxHeartbeats 40000000 in
theorem rm0 (l : Launch) (Z : State) (aw : Array Value) (hw : ∀ d ∈ tables_1, d.before aw Z = true) (ws : List Jvm.Cond) (p0 : Int32) (w_DOCUMENT : Addr) (w_ELEMENT : Addr) (w_NAMESPACE : Addr) (w_ATTRIBUTE : Addr) (w_TEXT : Addr) (w_COMMENT : Addr) (w_PROCESSING_INSTRUCTION : Addr) (h0 : Heap) (Sw_DOCUMENT : Sta Z h0 "com/example/tsugiki/tsugiki/node/NodeKind" "DOCUMENT" "Lcom/example/tsugiki/tsugiki/node/NodeKind;" (.ref w_DOCUMENT)) (Sw_ELEMENT : Sta Z h0 "com/example/tsugiki/tsugiki/node/NodeKind" "ELEMENT" "Lcom/example/tsugiki/tsugiki/node/NodeKind;" (.ref w_ELEMENT)) (Sw_NAMESPACE : Sta Z h0 "com/example/tsugiki/tsugiki/node/NodeKind" "NAMESPACE" "Lcom/example/tsugiki/tsugiki/node/NodeKind;" (.ref w_NAMESPACE)) (Sw_ATTRIBUTE : Sta Z h0 "com/example/tsugiki/tsugiki/node/NodeKind" "ATTRIBUTE" "Lcom/example/tsugiki/tsugiki/node/NodeKind;" (.ref w_ATTRIBUTE)) (Sw_TEXT : Sta Z h0 "com/example/tsugiki/tsugiki/node/NodeKind" "TEXT" "Lcom/example/tsugiki/tsugiki/node/NodeKind;" (.ref w_TEXT)) (Sw_COMMENT : Sta Z h0 "com/example/tsugiki/tsugiki/node/NodeKind" "COMMENT" "Lcom/example/tsugiki/tsugiki/node/NodeKind;" (.ref w_COMMENT)) (Sw_PROCESSING_INSTRUCTION : Sta Z h0 "com/example/tsugiki/tsugiki/node/NodeKind" "PROCESSING_INSTRUCTION" "Lcom/example/tsugiki/tsugiki/node/NodeKind;" (.ref w_PROCESSING_INSTRUCTION)) (Ew_DOCUMENT : Exa Z h0 w_DOCUMENT "com/example/tsugiki/tsugiki/node/NodeKind") (Ew_ELEMENT : Exa Z h0 w_ELEMENT "com/example/tsugiki/tsugiki/node/NodeKind") (Ew_NAMESPACE : Exa Z h0 w_NAMESPACE "com/example/tsugiki/tsugiki/node/NodeKind") (Ew_ATTRIBUTE : Exa Z h0 w_ATTRIBUTE "com/example/tsugiki/tsugiki/node/NodeKind") (Ew_TEXT : Exa Z h0 w_TEXT "com/example/tsugiki/tsugiki/node/NodeKind") (Ew_COMMENT : Exa Z h0 w_COMMENT "com/example/tsugiki/tsugiki/node/NodeKind") (Ew_PROCESSING_INSTRUCTION : Exa Z h0 w_PROCESSING_INSTRUCTION "com/example/tsugiki/tsugiki/node/NodeKind") :
    MetFree l x (head1 (Jvm.Cond.code x code maxLocals ret :: ws) room_1) (fun a U => a = #[(.int p0)] ∧ Z.Warmed39 U.vm ∧ U.heap = h0) (fun _ _ _ _ _ => True) (fun _ U o U' => ∃ v L, o = .returned v ∧ own_Q (some (.int (f0_0 p0 w_DOCUMENT w_ELEMENT w_NAMESPACE w_ATTRIBUTE w_TEXT w_COMMENT w_PROCESSING_INSTRUCTION))) (own_K0 h0) v U'.heap L ∧ FrameEnd U o U' L room_1.cells room_1.slots) := by
  refine MetFree.of_bodySF (plainFor_of_name own_pn0) hisR ?_
  intro p e s m args below meth c s₁ Bd hml0 hP hK
  obtain ⟨rfl, hZ, hh⟩ := hP
  have hml : c.maxLocals = 4 := hml0
  have e0 : s₁.heap = h0 := by rw [← hh, Bd.state]; rfl
  exact own_pre (fun t k => castTop (ef_0 m p0) k) (g0_0 hw p0 w_DOCUMENT w_ELEMENT w_NAMESPACE w_ATTRIBUTE w_TEXT w_COMMENT w_PROCESSING_INSTRUCTION Sw_DOCUMENT Sw_ELEMENT Sw_NAMESPACE Sw_ATTRIBUTE Sw_TEXT Sw_COMMENT Sw_PROCESSING_INSTRUCTION Ew_DOCUMENT Ew_ELEMENT Ew_NAMESPACE Ew_ATTRIBUTE Ew_TEXT Ew_COMMENT Ew_PROCESSING_INSTRUCTION Bd hml hZ s₁ (Stand.of_body Bd) e0)
theorem own_law (k : Int32) (w_DOCUMENT w_ELEMENT w_NAMESPACE w_ATTRIBUTE w_TEXT w_COMMENT w_PROCESSING_INSTRUCTION : Addr) (h0 : w_DOCUMENT ≠ w_ELEMENT) (h1 : w_DOCUMENT ≠ w_NAMESPACE) (h2 : w_DOCUMENT ≠ w_ATTRIBUTE) (h3 : w_DOCUMENT ≠ w_PROCESSING_INSTRUCTION) (h4 : w_TEXT ≠ w_ELEMENT) (h5 : w_TEXT ≠ w_NAMESPACE) (h6 : w_TEXT ≠ w_ATTRIBUTE) (h7 : w_TEXT ≠ w_PROCESSING_INSTRUCTION) (h8 : w_COMMENT ≠ w_ELEMENT) (h9 : w_COMMENT ≠ w_NAMESPACE) (h10 : w_COMMENT ≠ w_ATTRIBUTE) (h11 : w_COMMENT ≠ w_PROCESSING_INSTRUCTION) : f0_0 k w_DOCUMENT w_ELEMENT w_NAMESPACE w_ATTRIBUTE w_TEXT w_COMMENT w_PROCESSING_INSTRUCTION = 1 := by
  have hm := c_mask k 2147483647 31 (by decide) (by decide)
  have hr := (c_irem (k &&& 2147483647) 7 7 (by decide)).1 (by omega)
  unfold f0_0
  generalize (k &&& 2147483647) % 7 = n at *
  have hn : n = 0 ∨ n = 1 ∨ n = 2 ∨ n = 3 ∨ n = 4 ∨ n = 5 ∨ n = 6 := by
    simp only [← Int32.toInt_inj, show (0 : Int32).toInt = 0 from rfl, show (1 : Int32).toInt = 1 from rfl, show (2 : Int32).toInt = 2 from rfl, show (3 : Int32).toInt = 3 from rfl, show (4 : Int32).toInt = 4 from rfl, show (5 : Int32).toInt = 5 from rfl, show (6 : Int32).toInt = 6 from rfl]
    omega
  rcases hn with rfl | rfl | rfl | rfl | rfl | rfl | rfl <;> simp [f1_0, f2_0, f2_28, *]
set_option maxRecDepth 65536 in
set_option maxHeartbeats 40000000 in
theorem comes_1 {Post : Tables → Env → Array Value → State → Outcome → State → Prop} (hpost : ∀ tb e args s v u, (limb_1_1.after args s (.returned v) u = true ∧ limb_1_2.after args s (.returned v) u = true ∧ True) → FrameEnd s (.returned v) u (Jvm.fieldLocs frame_1_writes args s ++ Jvm.arrayLocs frame_1_arrays args s ++ Jvm.staticLocs frame_1_statics s) 0 0 → Post tb e args s (.returned v) u) :
    ArmFor flags0 classFile x code maxLocals ret World_1 tables_1 room_1 Calls_1 rest_1 Pre_1 Post := by
  intro l hfl _ _ p e ha hc hk s m args below hf hA hF happ hP
  obtain ⟨hcalls, hrest, hpre⟩ := hP
  obtain ⟨-, -, -, hnamed, -, -, -, hat⟩ := (Spec.applies_iff hf).mp happ
  obtain ⟨hg, hn⟩ := and_e (Cond.before_iff.mp (show (Jvm.Cond.and given_1 narrow_1).before args s = true from hpre))
  obtain ⟨g1, g2⟩ := and_e hg
  obtain ⟨w0, rfl⟩ : ∃ w0 : Value, args = #[w0] := by
    have hs : args.size = 1 := by simpa [Cond.value, given_1] using g1
    obtain ⟨L⟩ := args
    match L, hs with
    | [w0], _ => exact ⟨w0, rfl⟩
  have hw := fun d (hd : d ∈ tables_1) => atoms_spec (ws := Jvm.Cond.code x code maxLocals ret :: tables_1) hat d (List.mem_cons_of_mem _ hd)
  have hfit : Fit s := fun {y c} hc i hi => by
    obtain ⟨ha, rfl⟩ := Array.getElem?_eq_some_iff.mp hc
    have q := List.all_eq_true.mp ((Array.all_eq_true_iff_forall_mem.mp hF) _ (Array.getElem_mem ha)) i (List.mem_range.mpr hi)
    simpa [Array.getElem?_eq_getElem hi] using q
  obtain ⟨i0, ei0⟩ := is_v g2
  obtain rfl : w0 = (.int i0) := Option.some.inj ei0
  obtain ⟨n2, n3⟩ := and_e hn
  obtain ⟨w_DOCUMENT, ev_w_DOCUMENT⟩ := exa_v n2
  have Ew_DOCUMENT := Exa.start ev_w_DOCUMENT n2
  have Sw_DOCUMENT := Sta.start ev_w_DOCUMENT (Or.inr ⟨(hw _ (List.mem_of_getElem? (i := 6) rfl)), (hw _ (List.mem_of_getElem? (i := 7) rfl))⟩)
  obtain ⟨n4, n5⟩ := and_e n3
  obtain ⟨w_ELEMENT, ev_w_ELEMENT⟩ := exa_v n4
  have Ew_ELEMENT := Exa.start ev_w_ELEMENT n4
  have Sw_ELEMENT := Sta.start ev_w_ELEMENT (Or.inr ⟨(hw _ (List.mem_of_getElem? (i := 6) rfl)), (hw _ (List.mem_of_getElem? (i := 14) rfl))⟩)
  obtain ⟨n6, n7⟩ := and_e n5
  have Fw_DOCUMENT_ordinal := Fld.start ((fld_at ev_w_DOCUMENT).symm.trans (own_eqI n6))
  obtain ⟨n8, n9⟩ := and_e n7
  have Fw_ELEMENT_ordinal := Fld.start ((fld_at ev_w_ELEMENT).symm.trans (own_eqI n8))
  obtain ⟨n10, n11⟩ := and_e n9
  obtain ⟨w_NAMESPACE, ev_w_NAMESPACE⟩ := exa_v n10
  have Ew_NAMESPACE := Exa.start ev_w_NAMESPACE n10
  have Sw_NAMESPACE := Sta.start ev_w_NAMESPACE (Or.inr ⟨(hw _ (List.mem_of_getElem? (i := 6) rfl)), (hw _ (List.mem_of_getElem? (i := 16) rfl))⟩)
  obtain ⟨n12, n13⟩ := and_e n11
  have Fw_NAMESPACE_ordinal := Fld.start ((fld_at ev_w_NAMESPACE).symm.trans (own_eqI n12))
  obtain ⟨n14, n15⟩ := and_e n13
  obtain ⟨w_ATTRIBUTE, ev_w_ATTRIBUTE⟩ := exa_v n14
  have Ew_ATTRIBUTE := Exa.start ev_w_ATTRIBUTE n14
  have Sw_ATTRIBUTE := Sta.start ev_w_ATTRIBUTE (Or.inr ⟨(hw _ (List.mem_of_getElem? (i := 6) rfl)), (hw _ (List.mem_of_getElem? (i := 18) rfl))⟩)
  obtain ⟨n16, n17⟩ := and_e n15
  have Fw_ATTRIBUTE_ordinal := Fld.start ((fld_at ev_w_ATTRIBUTE).symm.trans (own_eqI n16))
  obtain ⟨n18, n19⟩ := and_e n17
  obtain ⟨w_PROCESSING_INSTRUCTION, ev_w_PROCESSING_INSTRUCTION⟩ := exa_v n18
  have Ew_PROCESSING_INSTRUCTION := Exa.start ev_w_PROCESSING_INSTRUCTION n18
  have Sw_PROCESSING_INSTRUCTION := Sta.start ev_w_PROCESSING_INSTRUCTION (Or.inr ⟨(hw _ (List.mem_of_getElem? (i := 6) rfl)), (hw _ (List.mem_of_getElem? (i := 20) rfl))⟩)
  obtain ⟨n20, n21⟩ := and_e n19
  have Fw_PROCESSING_INSTRUCTION_ordinal := Fld.start ((fld_at ev_w_PROCESSING_INSTRUCTION).symm.trans (own_eqI n20))
  obtain ⟨n22, n23⟩ := and_e n21
  obtain ⟨w_COMMENT, ev_w_COMMENT⟩ := exa_v n22
  have Ew_COMMENT := Exa.start ev_w_COMMENT n22
  have Sw_COMMENT := Sta.start ev_w_COMMENT (Or.inr ⟨(hw _ (List.mem_of_getElem? (i := 6) rfl)), (hw _ (List.mem_of_getElem? (i := 23) rfl))⟩)
  obtain ⟨n24, n25⟩ := and_e n23
  have Fw_COMMENT_ordinal := Fld.start ((fld_at ev_w_COMMENT).symm.trans (own_eqI n24))
  obtain ⟨n26, n27⟩ := and_e n25
  obtain ⟨w_TEXT, ev_w_TEXT⟩ := exa_v n26
  have Ew_TEXT := Exa.start ev_w_TEXT n26
  have Sw_TEXT := Sta.start ev_w_TEXT (Or.inr ⟨(hw _ (List.mem_of_getElem? (i := 6) rfl)), (hw _ (List.mem_of_getElem? (i := 26) rfl))⟩)
  have Fw_TEXT_ordinal := Fld.start ((fld_at ev_w_TEXT).symm.trans (own_eqI n27))
  obtain ⟨n, o, h1, h2, h3, v, L, rfl, ⟨hv, hK⟩, hq⟩ := rm0 l s _ hw tables_1 i0 w_DOCUMENT w_ELEMENT w_NAMESPACE w_ATTRIBUTE w_TEXT w_COMMENT w_PROCESSING_INSTRUCTION s.heap Sw_DOCUMENT Sw_ELEMENT Sw_NAMESPACE Sw_ATTRIBUTE Sw_TEXT Sw_COMMENT Sw_PROCESSING_INSTRUCTION Ew_DOCUMENT Ew_ELEMENT Ew_NAMESPACE Ew_ATTRIBUTE Ew_TEXT Ew_COMMENT Ew_PROCESSING_INSTRUCTION p e ha hc hk s m _ below hf ((Spec.applies_iff_loose hf).mp happ).1 ⟨rfl, State.Warmed39.refl s, rfl⟩ trivial
  rw [own_law _ _ _ _ _ _ _ _ (Fw_DOCUMENT_ordinal.ne Fw_ELEMENT_ordinal (by decide)) (Fw_DOCUMENT_ordinal.ne Fw_NAMESPACE_ordinal (by decide)) (Fw_DOCUMENT_ordinal.ne Fw_ATTRIBUTE_ordinal (by decide)) (Fw_DOCUMENT_ordinal.ne Fw_PROCESSING_INSTRUCTION_ordinal (by decide)) (Fw_TEXT_ordinal.ne Fw_ELEMENT_ordinal (by decide)) (Fw_TEXT_ordinal.ne Fw_NAMESPACE_ordinal (by decide)) (Fw_TEXT_ordinal.ne Fw_ATTRIBUTE_ordinal (by decide)) (Fw_TEXT_ordinal.ne Fw_PROCESSING_INSTRUCTION_ordinal (by decide)) (Fw_COMMENT_ordinal.ne Fw_ELEMENT_ordinal (by decide)) (Fw_COMMENT_ordinal.ne Fw_NAMESPACE_ordinal (by decide)) (Fw_COMMENT_ordinal.ne Fw_ATTRIBUTE_ordinal (by decide)) (Fw_COMMENT_ordinal.ne Fw_PROCESSING_INSTRUCTION_ordinal (by decide))] at hv
  subst hv
  refine ⟨n, _, h1, h2, h3, hpost _ _ _ _ _ _ ⟨Cond.after_iff.mpr rfl, Cond.after_iff.mpr (eq_i res_at (Term.int_eval (1)) rfl), trivial⟩ ⟨hq.1, hq.2.1, (hq.2.2.sift fun y hy => ?_).mono (by decide) (by decide)⟩⟩
  rw [hK.1] at hy
  cases hy
theorem main_1_1 : Claimed_1_1 := comes_1 fun _ _ _ _ _ _ h hF => ⟨h.1, hF⟩
theorem main_1_2 : Claimed_1_2 := comes_1 fun _ _ _ _ _ _ h hF => ⟨h.2.1, hF⟩
end Jvm.Pilot.@@N@@
namespace Jvm.Pilot.@@N@@
open Jvm Jvm.ClassFile Sem Op Lib Jvm.Free Jvm.Stand Jvm.Pilot.@@N@@.Jvm.D
/-! MADE BY PROGRAM (witnessworld.py) out of the Statement's table words and the real class files: 12 classes; the members and pool entries that the words name. The judged class is class 1, her method 1. -/
namespace start1
open Jvm.ClassFile
def u (s : String) : CpInfo := .utf8 (stringToUtf16 s)
/-- a pool by its gaps: so many unusable entries, then the entry; so many at the end -/
def gap : Nat → List CpInfo → List CpInfo
  | 0, r => r
  | n + 1, r => .unusable :: gap n r
def poolList (es : List (Nat × CpInfo)) (last : Nat) : List CpInfo := es.foldr (fun e r => gap e.1 (e.2 :: r)) (gap last [])
def pool (es : List (Nat × CpInfo)) (last : Nat) : Array CpInfo := ⟨poolList es last⟩
def fileOf (pool : Array CpInfo) (this : Nat) (attrs : Array Attribute := #[]) (ms : Array MethodInfo := #[]) (fl : Nat := 33) (sup : Nat := 0) (ifs : Array Nat := #[]) (fds : Array FieldInfo := #[]) : ClassFile where
  minorVersion := 0
  majorVersion := 65
  constantPool := pool
  accessFlags := fl
  thisClass := this
  superClass := sup
  interfaces := ifs
  fields := fds
  methods := ms
  attributes := attrs
def plain (name : String) (sup : Option ClassId) : Class where
  name := name
  kind := .ordinary
  loader := none
  accessFlags := 33
  super := sup
  interfaces := #[]
  cf := none
  fields := #[]
  methods := #[]
  instanceTypes := #[]
  staticTypes := #[]
  resolved := #[]
  callSites := []
  init := .initialized
  statics := none
  mirror := none

def pool0 : Array CpInfo := pool [(5, u "<init>"), (0, u "()V"), (1, .class_ 10), (1, u "java/lang/Object")] 113

def k0m0 : Method := { name := "<init>", desc := "()V", sig := { parameters := [], returnType := none }, accessFlags := 1, code := none }
/-- java/lang/Object -/
def k0 : Class := { plain "java/lang/Object" none with
  accessFlags := 33
  interfaces := #[]
  cf := some (fileOf pool0 8 #[] #[{ accessFlags := 1, nameIndex := 5, descriptorIndex := 6, attributes := #[] }] 33 0 #[] #[])
  fields := #[]
  methods := #[k0m0]
  instanceTypes := #[]
  staticTypes := #[]
  resolved := Array.replicate 124 none
  statics := none }

def pool1 : Array CpInfo := pool [(2, .class_ 4), (1, u "java/lang/Object"), (0, u "<init>"), (0, u "()V"), (0, .integer 2147483647), (0, .methodref 9 10), (0, .class_ 11), (0, .nameAndType 12 13), (0, u "com/example/tsugiki/tsugiki/node/NodeKindIsNamedPinLaw"), (0, u "pick"), (0, u "(I)Lcom/example/tsugiki/tsugiki/node/NodeKind;"), (0, .methodref 15 16), (0, .class_ 17), (0, .nameAndType 18 19), (0, u "com/example/tsugiki/tsugiki/node/NodeKind"), (0, u "isNamed"), (0, u "()Z"), (0, .fieldref 15 21), (0, .nameAndType 22 23), (0, u "DOCUMENT"), (0, u "Lcom/example/tsugiki/tsugiki/node/NodeKind;"), (0, .fieldref 15 25), (0, .nameAndType 26 23), (0, u "ELEMENT"), (0, .fieldref 15 28), (0, .nameAndType 29 23), (0, u "NAMESPACE"), (0, .fieldref 15 31), (0, .nameAndType 32 23), (0, u "ATTRIBUTE"), (0, .fieldref 15 34), (0, .nameAndType 35 23), (0, u "TEXT"), (0, .fieldref 15 37), (0, .nameAndType 38 23), (0, u "COMMENT"), (0, .fieldref 15 40), (0, .nameAndType 41 23), (0, u "PROCESSING_INSTRUCTION"), (2, u "law"), (0, u "(I)Z")] 3

def k1m0 : Method := { name := "<init>", desc := "()V", sig := { parameters := [], returnType := none }, accessFlags := 1, code := none }
def k1c1 : Code := { maxStack := 2, maxLocals := 4, code := code, exceptionTable := #[], attributes := #[] }
def k1m1 : Method := { name := "law", desc := "(I)Z", sig := { parameters := [.int], returnType := some .boolean }, accessFlags := 9, code := some k1c1 }
def k1c2 : Code := { maxStack := 2, maxLocals := 1, code := method_3_code, exceptionTable := #[], attributes := #[] }
def k1m2 : Method := { name := "pick", desc := "(I)Lcom/example/tsugiki/tsugiki/node/NodeKind;", sig := { parameters := [.int], returnType := some (.object "com/example/tsugiki/tsugiki/node/NodeKind") }, accessFlags := 10, code := some k1c2 }
/-- com/example/tsugiki/tsugiki/node/NodeKindIsNamedPinLaw -/
def k1 : Class := { plain "com/example/tsugiki/tsugiki/node/NodeKindIsNamedPinLaw" (some 0) with
  accessFlags := 49
  interfaces := #[]
  cf := some (fileOf pool1 9 #[] #[{ accessFlags := 1, nameIndex := 5, descriptorIndex := 6, attributes := #[] }, { accessFlags := 9, nameIndex := 44, descriptorIndex := 45, attributes := #[] }, { accessFlags := 10, nameIndex := 12, descriptorIndex := 13, attributes := #[] }] 49 2 #[] #[])
  fields := #[]
  methods := #[k1m0, k1m1, k1m2]
  instanceTypes := #[]
  staticTypes := #[]
  resolved := Array.replicate 49 none
  statics := none }

def pool2 : Array CpInfo := pool [(1, .class_ 2), (0, u "java/lang/constant/Constable"), (0, .class_ 4), (0, u "java/lang/Object")] 6

/-- java/lang/constant/Constable -/
def k2 : Class := { plain "java/lang/constant/Constable" (some 0) with
  accessFlags := 1537
  interfaces := #[]
  cf := some (fileOf pool2 1 #[] #[] 1537 3 #[] #[])
  fields := #[]
  methods := #[]
  instanceTypes := #[]
  staticTypes := #[]
  resolved := Array.replicate 11 none
  statics := none }

def pool3 : Array CpInfo := pool [(1, .class_ 2), (0, u "java/lang/Comparable"), (0, .class_ 4), (0, u "java/lang/Object")] 7

/-- java/lang/Comparable -/
def k3 : Class := { plain "java/lang/Comparable" (some 0) with
  accessFlags := 1537
  interfaces := #[]
  cf := some (fileOf pool3 1 #[] #[] 1537 3 #[] #[])
  fields := #[]
  methods := #[]
  instanceTypes := #[]
  staticTypes := #[]
  resolved := Array.replicate 12 none
  statics := none }

def pool4 : Array CpInfo := pool [(1, .class_ 2), (0, u "java/io/Serializable"), (0, .class_ 4), (0, u "java/lang/Object")] 2

/-- java/io/Serializable -/
def k4 : Class := { plain "java/io/Serializable" (some 0) with
  accessFlags := 1537
  interfaces := #[]
  cf := some (fileOf pool4 1 #[] #[] 1537 3 #[] #[])
  fields := #[]
  methods := #[]
  instanceTypes := #[]
  staticTypes := #[]
  resolved := Array.replicate 7 none
  statics := none }

def pool5 : Array CpInfo := pool [(2, .class_ 4), (1, u "java/lang/Enum"), (0, u "name"), (0, u "Ljava/lang/String;"), (2, u "ordinal"), (0, u "I"), (1, .class_ 14), (1, u "java/lang/Object"), (4, u "hash"), (86, .class_ 108), (1, u "java/lang/Enum$EnumDesc"), (2, .class_ 112), (0, u "java/lang/constant/Constable"), (0, .class_ 114), (0, u "java/lang/Comparable"), (0, .class_ 116), (0, u "java/io/Serializable")] 87

/-- java/lang/Enum -/
def k5 : Class := { plain "java/lang/Enum" (some 0) with
  accessFlags := 1057
  interfaces := #[2, 3, 4]
  cf := some (fileOf pool5 2 #[.nestMembers #[106]] #[] 1057 12 #[111, 113, 115] #[{ accessFlags := 18, nameIndex := 5, descriptorIndex := 6, attributes := #[] }, { accessFlags := 18, nameIndex := 9, descriptorIndex := 10, attributes := #[] }, { accessFlags := 2, nameIndex := 19, descriptorIndex := 10, attributes := #[] }])
  fields := #[{ name := "name", type := (.object "java/lang/String"), accessFlags := 18, slot := 0, constantValue := 0 }, { name := "ordinal", type := .int, accessFlags := 18, slot := 1, constantValue := 0 }, { name := "hash", type := .int, accessFlags := 2, slot := 2, constantValue := 0 }]
  methods := #[]
  instanceTypes := #[(.object "java/lang/String"), .int, .int]
  staticTypes := #[]
  resolved := Array.replicate 204 none
  statics := none }

def pool6 : Array CpInfo := pool [(1, .class_ 2), (0, u "com/example/tsugiki/tsugiki/node/NodeKind"), (2, u "DOCUMENT"), (0, u "Lcom/example/tsugiki/tsugiki/node/NodeKind;"), (0, .fieldref 1 8), (0, .nameAndType 9 6), (0, u "ELEMENT"), (0, .fieldref 1 11), (0, .nameAndType 12 6), (0, u "NAMESPACE"), (0, .fieldref 1 14), (0, .nameAndType 15 6), (0, u "ATTRIBUTE"), (2, u "TEXT"), (2, u "COMMENT"), (0, .fieldref 1 23), (0, .nameAndType 24 6), (0, u "PROCESSING_INSTRUCTION"), (2, u "$VALUES"), (0, u "[Lcom/example/tsugiki/tsugiki/node/NodeKind;"), (6, .class_ 37), (1, u "java/lang/Enum"), (8, u "code"), (0, u "I"), (2, u "BY_CODE"), (27, u "isNamed"), (0, u "()Z")] 6

def k6c0 : Code := { maxStack := 2, maxLocals := 1, code := prog_44_method_6_code, exceptionTable := #[], attributes := #[] }
def k6m0 : Method := { name := "isNamed", desc := "()Z", sig := { parameters := [], returnType := some .boolean }, accessFlags := 1, code := some k6c0 }
/-- com/example/tsugiki/tsugiki/node/NodeKind -/
def k6 : Class := { plain "com/example/tsugiki/tsugiki/node/NodeKind" (some 5) with
  accessFlags := 16433
  interfaces := #[]
  cf := some (fileOf pool6 1 #[] #[{ accessFlags := 1, nameIndex := 78, descriptorIndex := 79, attributes := #[] }] 16433 35 #[] #[{ accessFlags := 16409, nameIndex := 5, descriptorIndex := 6, attributes := #[] }, { accessFlags := 16409, nameIndex := 9, descriptorIndex := 6, attributes := #[] }, { accessFlags := 16409, nameIndex := 12, descriptorIndex := 6, attributes := #[] }, { accessFlags := 16409, nameIndex := 15, descriptorIndex := 6, attributes := #[] }, { accessFlags := 16409, nameIndex := 18, descriptorIndex := 6, attributes := #[] }, { accessFlags := 16409, nameIndex := 21, descriptorIndex := 6, attributes := #[] }, { accessFlags := 16409, nameIndex := 24, descriptorIndex := 6, attributes := #[] }, { accessFlags := 26, nameIndex := 50, descriptorIndex := 28, attributes := #[] }, { accessFlags := 18, nameIndex := 46, descriptorIndex := 47, attributes := #[] }, { accessFlags := 4122, nameIndex := 27, descriptorIndex := 28, attributes := #[] }])
  fields := #[{ name := "DOCUMENT", type := (.object "com/example/tsugiki/tsugiki/node/NodeKind"), accessFlags := 16409, slot := 0, constantValue := 0 }, { name := "ELEMENT", type := (.object "com/example/tsugiki/tsugiki/node/NodeKind"), accessFlags := 16409, slot := 1, constantValue := 0 }, { name := "NAMESPACE", type := (.object "com/example/tsugiki/tsugiki/node/NodeKind"), accessFlags := 16409, slot := 2, constantValue := 0 }, { name := "ATTRIBUTE", type := (.object "com/example/tsugiki/tsugiki/node/NodeKind"), accessFlags := 16409, slot := 3, constantValue := 0 }, { name := "TEXT", type := (.object "com/example/tsugiki/tsugiki/node/NodeKind"), accessFlags := 16409, slot := 4, constantValue := 0 }, { name := "COMMENT", type := (.object "com/example/tsugiki/tsugiki/node/NodeKind"), accessFlags := 16409, slot := 5, constantValue := 0 }, { name := "PROCESSING_INSTRUCTION", type := (.object "com/example/tsugiki/tsugiki/node/NodeKind"), accessFlags := 16409, slot := 6, constantValue := 0 }, { name := "BY_CODE", type := (.array (.object "com/example/tsugiki/tsugiki/node/NodeKind")), accessFlags := 26, slot := 7, constantValue := 0 }, { name := "code", type := .int, accessFlags := 18, slot := 3, constantValue := 0 }, { name := "$VALUES", type := (.array (.object "com/example/tsugiki/tsugiki/node/NodeKind")), accessFlags := 4122, slot := 8, constantValue := 0 }]
  methods := #[k6m0]
  instanceTypes := #[(.object "java/lang/String"), .int, .int, .int]
  staticTypes := #[(.object "com/example/tsugiki/tsugiki/node/NodeKind"), (.object "com/example/tsugiki/tsugiki/node/NodeKind"), (.object "com/example/tsugiki/tsugiki/node/NodeKind"), (.object "com/example/tsugiki/tsugiki/node/NodeKind"), (.object "com/example/tsugiki/tsugiki/node/NodeKind"), (.object "com/example/tsugiki/tsugiki/node/NodeKind"), (.object "com/example/tsugiki/tsugiki/node/NodeKind"), (.array (.object "com/example/tsugiki/tsugiki/node/NodeKind")), (.array (.object "com/example/tsugiki/tsugiki/node/NodeKind"))]
  resolved := Array.replicate 86 none
  statics := some 0 }

def pool7 : Array CpInfo := pool [(1, u "java/lang/Cloneable"), (0, .class_ 1), (0, u "java/lang/Object"), (0, .class_ 3)] 3

/-- java/lang/Cloneable -/
def k7 : Class := { plain "java/lang/Cloneable" (some 0) with
  accessFlags := 1537
  interfaces := #[]
  cf := some (fileOf pool7 2 #[] #[] 1537 4 #[] #[])
  fields := #[]
  methods := #[]
  instanceTypes := #[]
  staticTypes := #[]
  resolved := Array.replicate 8 none
  statics := none }

/-- the primitive byte -/
def k8 : Class := { plain "byte" none with kind := .primitive 'B', accessFlags := 0x411 }
/-- [B -/
def k9 : Class := { plain "[B" (some 0) with kind := .array 8 .byte, interfaces := #[7, 4], accessFlags := 1041 }

/-- the primitive int -/
def k10 : Class := { plain "int" none with kind := .primitive 'I', accessFlags := 0x411 }
/-- [I -/
def k11 : Class := { plain "[I" (some 0) with kind := .array 10 .int, interfaces := #[7, 4], accessFlags := 1041 }

def heap : Heap := #[{ cls := 6, slots := #[.ref 1, .ref 2, .ref 3, .ref 4, .ref 5, .ref 6, .ref 7, .null, .null], vm := .statics 6 },
  { cls := 6, slots := #[.null, .int 0, .int 0, .int 0], vm := .none },
  { cls := 6, slots := #[.null, .int 1, .int 0, .int 0], vm := .none },
  { cls := 6, slots := #[.null, .int 2, .int 0, .int 0], vm := .none },
  { cls := 6, slots := #[.null, .int 3, .int 0, .int 0], vm := .none },
  { cls := 6, slots := #[.null, .int 4, .int 0, .int 0], vm := .none },
  { cls := 6, slots := #[.null, .int 5, .int 0, .int 0], vm := .none },
  { cls := 6, slots := #[.null, .int 6, .int 0, .int 0], vm := .none }]
def classes : Array Class := #[k0, k1, k2, k3, k4, k5, k6, k7, k8, k9, k10, k11]
def interned : List (Array UInt16 × Addr) := []
def slotsUsed : Nat := 37
def theMethod : MethodId := ⟨1, 1⟩
def args0 : Array Value := #[.int 5]
def aboutOver (below : List Frame) : State where
  vm := { classes := classes, interned := interned.toArray }
  heap := heap
  slotsUsed := slotsUsed
  threads := #[{ frames := .invoking theMethod args0 :: below }]
def below0 : List Frame := [.native { method := ⟨0, 0⟩, args := #[] }]
def about1 : State := aboutOver below0
def p0 : Program := .bare "" "" ""
def e0 : Env := launch0.env 0 0 0
theorem w_frames : about1.frames = Frame.invoking theMethod args0 :: below0 := rfl
set_option maxRecDepth 65536 in
theorem w_args : argsFit about1.vm theMethod args0 = true := by decide +kernel
set_option maxRecDepth 65536 in
theorem w_heap : heapFits about1 = true := by decide +kernel
set_option maxRecDepth 65536 in
theorem w_runnable : about1.curStatus? = some .runnable := by decide +kernel
set_option maxRecDepth 65536 in
theorem w_alone : about1.alone = true := by decide +kernel
set_option maxRecDepth 65536 in
theorem w_named : about1.methodNamed? x = some theMethod := by decide +kernel
set_option maxRecDepth 65536 in
theorem w_hears : about1.hears theMethod below0 = true := by decide +kernel
set_option maxRecDepth 65536 in
theorem w_ripe : about1.ripe theMethod args0 below0 = true := by decide +kernel
theorem w_running : about1.status = .running := rfl
set_option maxRecDepth 65536 in
theorem w_room : about1.hasRoom e0.platform room_1 = true :=
  launch0.hasRoom_least _ room_1 (by decide +kernel) (by decide +kernel) (by decide +kernel) (by decide +kernel) (by decide +kernel) (by decide +kernel)
theorem allAtoms_all (ts : List Jvm.Cond) (a : Array Jvm.Value) (st : Jvm.State) : (allAtoms ts).before a st = ts.all (fun c => c.before a st) := by
  induction ts with
  | nil => rfl
  | cons c t ih =>
    show (Jvm.Cond.and c (allAtoms t)).before a st = _
    rw [Jvm.Cond.before_and, ih, List.all_cons]
def words1 : List Jvm.Cond := Jvm.Cond.code x code maxLocals ret :: tables_1
/-- a 'code' word, met by the world's own term for the bytes: nothing is compared byte by byte -/
theorem code_word {y : MethodName} {bytes : ByteArray} {mx : Nat} {rt : Option FieldType} {a : Array Value} {s : State} {m : MethodId} {meth : Method} {c : Code} (h1 : s.methodNamed? y = some m) (h2 : s.vm.method? m = some meth) (h3 : meth.code = some c) (h4 : c.code = bytes)
    (h5 : (c.maxLocals == mx && c.exceptionTable.isEmpty && decide (c.maxStack ≤ mostOperands) && decide (meth.sig.returnType = rt) && !meth.locks && decide (parseMethodDescriptor y.desc = some meth.sig)) = true) : (Jvm.Cond.code y bytes mx rt).before a s = true := by
  simp only [Bool.and_eq_true, beq_iff_eq, Bool.not_eq_true', decide_eq_true_eq] at h5
  obtain ⟨⟨⟨⟨⟨g1, g2⟩, g3⟩, g4⟩, g5⟩, g6⟩ := h5
  simp [Cond.before, Cond.holds, Cond.value, h1, h2, h3, h4, g1, g2, g3, g4, g5, g6]
def isCode : Jvm.Cond → Bool
  | .code _ _ _ _ => true
  | _ => false
theorem all_split {L : List Jvm.Cond} {P : Jvm.Cond → Bool} (h1 : L.all (fun c => isCode c || P c) = true) (h2 : ∀ c ∈ L.filter isCode, P c = true) : L.all P = true := by
  refine List.all_eq_true.mpr fun c hc => ?_
  have h := List.all_eq_true.mp h1 c hc
  rcases Bool.eq_false_or_eq_true (isCode c) with hi | hi
  · exact h2 c (List.mem_filter.mpr ⟨hc, hi⟩)
  · simpa [hi] using h
set_option maxRecDepth 65536 in
theorem w_c0 : (Jvm.Cond.code x code maxLocals ret).before args0 about1 = true := code_word (m := ⟨1, 1⟩) (meth := k1m1) (c := k1c1) (by decide +kernel) rfl rfl rfl (by decide +kernel)
set_option maxRecDepth 65536 in
theorem w_c1 : (Jvm.Cond.code ({ cls := "com/example/tsugiki/tsugiki/node/NodeKindIsNamedPinLaw", name := "pick", desc := "(I)Lcom/example/tsugiki/tsugiki/node/NodeKind;" } : Jvm.MethodName) method_3_code (1 : Nat) (Option.some (Jvm.ClassFile.FieldType.object "com/example/tsugiki/tsugiki/node/NodeKind"))).before args0 about1 = true := code_word (m := ⟨1, 2⟩) (meth := k1m2) (c := k1c2) (by decide +kernel) rfl rfl rfl (by decide +kernel)
set_option maxRecDepth 65536 in
theorem w_c2 : (Jvm.Cond.code ({ cls := "com/example/tsugiki/tsugiki/node/NodeKind", name := "isNamed", desc := "()Z" } : Jvm.MethodName) prog_44_method_6_code (1 : Nat) (Option.some Jvm.ClassFile.FieldType.boolean)).before args0 about1 = true := code_word (m := ⟨6, 0⟩) (meth := k6m0) (c := k6c0) (by decide +kernel) rfl rfl rfl (by decide +kernel)
def codes1 : List Jvm.Cond := [Jvm.Cond.code x code maxLocals ret, Jvm.Cond.code ({ cls := "com/example/tsugiki/tsugiki/node/NodeKindIsNamedPinLaw", name := "pick", desc := "(I)Lcom/example/tsugiki/tsugiki/node/NodeKind;" } : Jvm.MethodName) method_3_code (1 : Nat) (Option.some (Jvm.ClassFile.FieldType.object "com/example/tsugiki/tsugiki/node/NodeKind")), Jvm.Cond.code ({ cls := "com/example/tsugiki/tsugiki/node/NodeKind", name := "isNamed", desc := "()Z" } : Jvm.MethodName) prog_44_method_6_code (1 : Nat) (Option.some Jvm.ClassFile.FieldType.boolean)]
set_option maxRecDepth 65536 in
theorem codes_eq : words1.filter isCode = codes1 := rfl
theorem w_codes : ∀ c ∈ words1.filter isCode, c.before args0 about1 = true := by
  rw [codes_eq]
  intro c hc
  simp only [codes1, List.mem_cons, List.not_mem_nil, or_false] at hc
  rcases hc with rfl | rfl | rfl
  · exact w_c0
  · exact w_c1
  · exact w_c2
set_option maxRecDepth 65536 in
theorem w_t1 : (words1.take 24).all (fun c => isCode c || c.before args0 about1) = true := by decide +kernel
set_option maxRecDepth 65536 in
theorem w_t2 : (words1.drop 24).all (fun c => isCode c || c.before args0 about1) = true := by decide +kernel
theorem w_tables : (allAtoms (Jvm.Cond.code x code maxLocals ret :: tables_1)).before args0 about1 = true := by
  rw [allAtoms_all]
  show words1.all (fun c => c.before args0 about1) = true
  refine all_split ?_ w_codes
  rw [← List.take_append_drop 24 words1, List.all_append, w_t1, w_t2]
  rfl
set_option maxRecDepth 65536 in
theorem w_case : (Jvm.Cond.and given_1 narrow_1).before args0 about1 = true := by decide +kernel
theorem w_applies : (headSpec (Jvm.Cond.code x code maxLocals ret :: tables_1) room_1).applies x e0.platform about1 = true :=
  (Spec.applies_iff w_frames).mpr ⟨w_running, w_runnable, w_alone, w_named, w_hears, w_ripe, w_room, w_tables⟩
theorem atStart : AtStart classFile x code maxLocals ret World_1 tables_1 room_1 Calls_1 rest_1 Pre_1 launch0 p0 e0 about1 theMethod args0 below0 :=
  ⟨lists_1, trivial, launch0.admits_env _ _ _, launch0.least_env, fairChoices_fair.cas, fairChoices_fair.clock, w_frames, w_args, w_heap, w_applies, trivial, trivial, w_case⟩
end start1
theorem witness_1 : WitnessClaimed_1 := ⟨start1.p0, start1.e0, start1.about1, start1.theMethod, start1.args0, start1.below0, start1.atStart⟩
end Jvm.Pilot.@@N@@
