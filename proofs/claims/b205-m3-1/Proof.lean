import JvmDerived
import JvmDerived.Pilot.@@N@@Statement
import JvmDerived.Pilot.@@N@@Code
set_option linter.unusedVariables false
set_option linter.unusedSimpArgs false
namespace Jvm.RoadKit
open Sem ClassFile Op Lib Jvm.Stand Jvm.Free Jvm.LawKit
section New
variable {p : Program} {l : Launch} {e : Env} {R : Room} {s : State} {m : MethodId} {args : Array Value} {below : List Frame} {meth : Method} {c : Code} {T : State} {locs : List Loc} {cells slots : Nat}
/-- what a body hands back: the value r, and K of the heap and the places at its end -/
def own_Q (r : Option Value) (K : Heap → List Loc → Prop) (v : Option Value) (h : Heap) (L : List Loc) : Prop := v = r ∧ K h L
/-- nothing is written, nothing is made -/
def own_K0 (h0 : Heap) (h : Heap) (L : List Loc) : Prop := L = [] ∧ h = h0
/-- from F on the run returns r with K -/
def own_Go (p : Program) (e : Env) (below : List Frame) (s : State) (C N : Nat) (r : Option Value) (K : Heap → List Loc → Prop) (F : State) : Prop :=
  ∃ s₂ o, Steps p.tables e below F s₂ ∧ s₂.status = .running ∧ Ended s₂ below o ∧ ∃ v L, o = .returned v ∧ own_Q r K v s₂.heap L ∧ FrameEnd s o s₂ L C N
theorem own_pre {C N : Nat} {r : Option Value} {K : Heap → List Loc → Prop} {F F' : State} (h : ∀ t, Steps p.tables e below F' t → Steps p.tables e below F t) (g : own_Go p e below s C N r K F') : own_Go p e below s C N r K F := by
  obtain ⟨t, o, a, b⟩ := g
  exact ⟨t, o, h t a, b⟩
theorem own_iteI {C N : Nat} {K : Heap → List Loc → Prop} {F : State} {P : Prop} [Decidable P] {a b : Int32} (h1 : P → own_Go p e below s C N (some (.int a)) K F) (h2 : ¬ P → own_Go p e below s C N (some (.int b)) K F) : own_Go p e below s C N (some (.int (if P then a else b))) K F := by
  by_cases q : P
  · rw [if_pos q]; exact h1 q
  · rw [if_neg q]; exact h2 q
theorem own_iteJ {C N : Nat} {K : Heap → List Loc → Prop} {F : State} {P : Prop} [Decidable P] {a b : Int64} (h1 : P → own_Go p e below s C N (some (.long a)) K F) (h2 : ¬ P → own_Go p e below s C N (some (.long b)) K F) : own_Go p e below s C N (some (.long (if P then a else b))) K F := by
  by_cases q : P
  · rw [if_pos q]; exact h1 q
  · rw [if_neg q]; exact h2 q
theorem own_iteR {C N : Nat} {K : Heap → List Loc → Prop} {F : State} {P : Prop} [Decidable P] {a b : Addr} (h1 : P → own_Go p e below s C N (some (.ref a)) K F) (h2 : ¬ P → own_Go p e below s C N (some (.ref b)) K F) : own_Go p e below s C N (some (.ref (if P then a else b))) K F := by
  by_cases q : P
  · rw [if_pos q]; exact h1 q
  · rw [if_neg q]; exact h2 q
theorem own_iteV {C N : Nat} {K : Heap → List Loc → Prop} {F : State} {P : Prop} [Decidable P] {a b : Value} (h1 : P → own_Go p e below s C N (some a) K F) (h2 : ¬ P → own_Go p e below s C N (some b) K F) : own_Go p e below s C N (some (if P then a else b)) K F := by
  by_cases q : P
  · rw [if_pos q]; exact h1 q
  · rw [if_neg q]; exact h2 q
theorem own_ret (X : Stand p l e R s m args below meth c T locs cells slots) (hx : p.tables.exec = Jvm.exec) (hlocks : meth.locks = false) {pc : Nat} {Ls : Array Slot} {w : Value} {t : FieldType} {i : Instr} {rest : List Value} {C N : Nat} {K : Heap → List Loc → Prop} (hret : meth.sig.returnType = some t) (hn : narrow t w = w)
    (hi : (i = .ireturn ∧ (t = .int ∨ t = .boolean ∨ t = .byte ∨ t = .char ∨ t = .short) ∧ ∃ z, w = .int z) ∨ (i = .lreturn ∧ t = .long ∧ ∃ z, w = .long z) ∨ (i = .areturn ∧ t.isReference = true ∧ w.isRef = true))
    (hd : decode c.code pc = .ok (i, 1)) (hK : K T.heap locs) (hC : cells ≤ C) (hN : slots ≤ N) : own_Go p e below s C N (some w) K (T.setTop (mkF m pc Ls (w :: rest))) := by
  obtain ⟨fs, hr, hrun, hended, hW, hsame⟩ := X.leave (v := some w) (fun h => by rw [hret] at h; cases h)
  refine ⟨_, _, retOut X hx hret hn ?_ hd hr, hrun, hended, _, _, rfl, ⟨rfl, hK⟩, ⟨_, rfl⟩, hW, hsame.mono hC hN⟩
  rcases hi with h | h | h
  · exact Or.inl h
  · exact Or.inr (Or.inl h)
  · exact Or.inr (Or.inr (Or.inr (Or.inr h)))
theorem own_retN (X : Stand p l e R s m args below meth c T locs cells slots) (hx : p.tables.exec = Jvm.exec) (hlocks : meth.locks = false) {pc : Nat} {Ls : Array Slot} {z : Int32} {t : FieldType} {rest : List Value} {C N : Nat} {K : Heap → List Loc → Prop} (hret : meth.sig.returnType = some t) (ht : t = .boolean ∨ t = .byte ∨ t = .char ∨ t = .short)
    (hd : decode c.code pc = .ok (.ireturn, 1)) (hK : K T.heap locs) (hC : cells ≤ C) (hN : slots ≤ N) : own_Go p e below s C N (some (.int (nar t z))) K (T.setTop (mkF m pc Ls (.int z :: rest))) := by
  obtain ⟨fs, hr, hrun, hended, hW, hsame⟩ := X.leave (v := some (.int (nar t z))) (fun h => by rw [hret] at h; cases h)
  exact ⟨_, _, retN X hx hret ht hd hr, hrun, hended, _, _, rfl, ⟨rfl, hK⟩, ⟨_, rfl⟩, hW, hsame.mono hC hN⟩
theorem own_retV (X : Stand p l e R s m args below meth c T locs cells slots) (hx : p.tables.exec = Jvm.exec) (hlocks : meth.locks = false) {pc : Nat} {Ls : Array Slot} {C N : Nat} {K : Heap → List Loc → Prop} (hret : meth.sig.returnType = none)
    (hd : decode c.code pc = .ok (.return_, 1)) (hK : K T.heap locs) (hC : cells ≤ C) (hN : slots ≤ N) : own_Go p e below s C N none K (T.setTop (mkF m pc Ls [])) := by
  obtain ⟨fs, hr, hrun, hended, hW, hsame⟩ := X.leave (v := none) (fun _ => rfl)
  exact ⟨_, _, X.returnOut hx hret hd hr, hrun, hended, _, _, rfl, ⟨rfl, hK⟩, ⟨_, rfl⟩, hW, hsame.mono hC hN⟩
theorem own_lremM {g : JFrame} {target : State} (X : Stand p l e R s m args below meth c T locs cells slots) (hx : p.tables.exec = Jvm.exec) (hg : g.method = m) {x y : Int64} {rest : List Value} (hd : decode c.code g.pc = .ok (.lrem, 1)) (hs : g.stack = .long y :: .long x :: rest) (hy : y ≠ 0)
    (hr : Steps p.tables e below (T.setTop { g with pc := g.pc + 1, stack := .long (x % y) :: rest }) target) : Steps p.tables e below (T.setTop g) target :=
  XS.lrem X.here hx hg hd hs hy (by rw [lrem_mod]; exact hr)
theorem own_cat {v : Value} (h : v.isRef = true) : v.category = 1 := by rcases ref_cases h with rfl | ⟨a, rfl⟩ <;> rfl
theorem own_nar (z : Int32) : nar .boolean z = z &&& 1 := rfl
end New
end Jvm.RoadKit
namespace Jvm.RoadKit
open Sem ClassFile Op Lib Jvm.Stand Jvm.Free Jvm.LawKit
section New2
variable {p : Program} {l : Launch} {e : Env} {R : Room} {s : State} {m : MethodId} {args : Array Value} {below : List Frame} {meth : Method} {c : Code} {T : State} {locs : List Loc} {cells slots : Nat}
theorem own_iteT {α : Type} {C N : Nat} (R : α → Option Value) (K : α → Heap → List Loc → Prop) {F : State} {P : Prop} [Decidable P] {a b : α} (h1 : P → own_Go p e below s C N (R a) (K a) F) (h2 : ¬ P → own_Go p e below s C N (R b) (K b) F) : own_Go p e below s C N (R (if P then a else b)) (K (if P then a else b)) F := by
  by_cases q : P
  · rw [if_pos q]; exact h1 q
  · rw [if_neg q]; exact h2 q
theorem own_staKeep {Z : State} {h h' : Heap} {C n d : String} {w : Value} {ws : List Addr} (F : Sta Z h C n d w) (K : Keep h h' ws) (q : ∀ x ∈ ws, ∀ c : Cell, h[x]? = some c → c.vm.isStatics = false) : Sta Z h' C n d w := by
  obtain ⟨cf, i, k, f, st, cell, h1, h2, h3, h4, h5, h6, h7⟩ := F
  exact ⟨cf, i, k, f, st, cell, h1, h2, h3, h4, K.2.1 _ _ h5 (fun hm => by have := q st hm cell h5; rw [h6] at this; cases this), h6, h7⟩
theorem own_nost1 {Z : State} {h : Heap} {a : Addr} {C : String} (E : Exa Z h a C) : ∀ x ∈ [a], ∀ c : Cell, h[x]? = some c → c.vm.isStatics = false := fun x hx c hc => by
  cases List.mem_singleton.mp hx; exact E.nostat c hc
theorem own_KF {n0 : Nat} {h : Heap} {L : List Loc} (N : Fr n0 L) : (fun (_ : Heap) (L : List Loc) => Fr n0 L) h L := N
end New2
end Jvm.RoadKit
namespace Jvm.Pilot.@@N@@
open Jvm Jvm.ClassFile Sem Op Lib Jvm.Free Jvm.Stand Jvm.LawKit Jvm.RoadKit Bundle Jvm.Pilot.@@N@@.Jvm.D
/-! body 2 -/
theorem d2_0 : decode jdk_30_method_1_code 0 = .ok (.aload_n 0, 1) := by decide +kernel
theorem d2_1 : decode jdk_30_method_1_code 1 = .ok (.invokespecial 1, 3) := by decide +kernel
theorem d2_4 : decode jdk_30_method_1_code 4 = .ok (.return_, 1) := by decide +kernel
theorem own_pn0 : plainName "java/lang/Record" = true := by first | (simp [plainName, overriddenIn]; done) | decide +kernel
def R2 (t : Unit) : Option Value := none
def K2 (Z : State) (a0 : Addr) (h0 : Heap) (n0 : Nat) (t : Unit) (h : Heap) (L : List Loc) : Prop := Fr n0 L ∧ Keep h0 h []
def f2_0  : Unit := ()
set_option maxRecDepth 65536 in
set_option maxHeartbeats 40000000 in
theorem g2_0 {p : Program} {l : Launch} {e : Env} {s : State} {m : MethodId} {below : List Frame} {meth : Method} {c : Code} {s₁ : State} {ws : List Jvm.Cond} {Z : State} {aw : Array Value} (hw : ∀ d ∈ tables_1, d.before aw Z = true) {h0 : Heap} {n0 : Nat}  (a0 : Addr)
    (Bd : BodyLoose p l (⟨"java/lang/Record", "<init>", "()V"⟩ : MethodName) (head1 (Jvm.Cond.code (⟨"java/lang/Record", "<init>", "()V"⟩ : MethodName) jdk_30_method_1_code 1 none :: ws) ({ frames := 1, cells := 0, slots := 0, locals := 20 } : Room)) jdk_30_method_1_code 1 none e s m #[(.ref a0)] below meth c s₁) (hml : c.maxLocals = 1) (hZ : Z.Warmed39 s.vm) (T0 : State) {locs : List Loc} (X0 : Stand p l e ({ frames := 1, cells := 0, slots := 0, locals := 20 } : Room) s m #[(.ref a0)] below meth c T0 locs 0 0) (e0 : T0.heap = h0) (SZ0 : n0 ≤ h0.size) (NF0 : Fr n0 locs) (KP0 : Keep h0 h0 []) :
    own_Go p e below s ({ frames := 1, cells := 0, slots := 0, locals := 20 } : Room).cells ({ frames := 1, cells := 0, slots := 0, locals := 20 } : Room).slots (R2 (f2_0 )) (K2 Z a0 h0 n0 (f2_0 )) (T0.setTop (mkF m 0 #[.val (.ref a0)] [])) := by
  have hx := Bd.exec
  have hby := Bd.bytes
  have hown : s.vm.findClass "java/lang/Record" = some m.cls := findClass_of_methodNamed Bd.named
  have hnm := (name_of_methodNamed Bd.named Bd.method).1
  unfold f2_0
  refine own_pre (F' := T0.setTop (mkF m 1 #[.val (.ref a0)] [(.ref a0)])) (fun _ k => XS.aloadN X0.here hx rfl (hb hby d2_0) rfl rfl k) ?_
  obtain ⟨T1, X1, e1, st'⟩ := initO X0 hx hZ hown (hw _ (List.mem_of_getElem? (i := 11) rfl)) (hw _ (List.mem_of_getElem? (i := 12) rfl)) (hw _ (List.mem_of_getElem? (i := 13) rfl)) e0 (g := (mkF m 1 #[.val (.ref a0)] [(.ref a0)])) rfl (by rw [hml]; rfl) rfl (hb hby d2_1) (by decide) (W := 0) (by show 2 * 0 + _ ≤ _; exact Nat.le_of_eq rfl) (by decide)
  refine own_pre (F' := T1.setTop (mkF m 4 #[.val (.ref a0)] [])) (fun t k => st' t k) ?_
  exact own_retV X1 hx Bd.notSynchronized Bd.returns (hb hby d2_4) (by rw [e1]; exact ⟨NF0, KP0⟩) (by decide) (by decide)
theorem ef_2 (m : MethodId) (a0 : Addr) : entryFrame m #[(.ref a0)] 1 = mkF m 0 #[.val (.ref a0)] [] := by first | (simp [entryFrame, mkF, argsToLocals, Value.category]; done) | rfl
set_option maxRecDepth 65536 in
set_option maxHeartbeats 40000000 in
theorem rm2 (l : Launch) (Z : State) (aw : Array Value) (hw : ∀ d ∈ tables_1, d.before aw Z = true) (ws : List Jvm.Cond)  (a0 : Addr) (h0 : Heap) (n0 : Nat) (SZ0 : n0 ≤ h0.size) :
    MetFree l (⟨"java/lang/Record", "<init>", "()V"⟩ : MethodName) (head1 (Jvm.Cond.code (⟨"java/lang/Record", "<init>", "()V"⟩ : MethodName) jdk_30_method_1_code 1 none :: ws) ({ frames := 1, cells := 0, slots := 0, locals := 20 } : Room)) (fun a U => a = #[(.ref a0)] ∧ Z.Warmed39 U.vm ∧ U.heap = h0) (fun _ _ _ _ _ => True) (fun _ U o U' => ∃ v L, o = .returned v ∧ own_Q (R2 (f2_0 )) (K2 Z a0 h0 n0 (f2_0 )) v U'.heap L ∧ FrameEnd U o U' L ({ frames := 1, cells := 0, slots := 0, locals := 20 } : Room).cells ({ frames := 1, cells := 0, slots := 0, locals := 20 } : Room).slots) := by
  refine MetFree.of_bodySF (plainFor_of_name own_pn0) hisR ?_
  intro p e s m args below meth c s₁ Bd hml0 hP hK
  obtain ⟨rfl, hZ, hh⟩ := hP
  have hml : c.maxLocals = 1 := hml0
  have e0 : s₁.heap = h0 := by rw [← hh, Bd.state]; rfl
  exact own_pre (fun t k => castTop (ef_2 m a0) k) (g2_0 hw  a0 Bd hml hZ s₁ (Stand.of_body Bd) e0 SZ0 (Fr.nil n0) (Keep.refl _ _))
theorem own_pd0 : parseMethodDescriptor "()V" = some ⟨[], none⟩ := by decide +kernel
/-! body 1 -/
theorem d1_0 : decode prog_98_method_1_code 0 = .ok (.aload_n 0, 1) := by decide +kernel
theorem d1_1 : decode prog_98_method_1_code 1 = .ok (.invokespecial 1, 3) := by decide +kernel
theorem d1_4 : decode prog_98_method_1_code 4 = .ok (.aload_n 0, 1) := by decide +kernel
theorem d1_5 : decode prog_98_method_1_code 5 = .ok (.iload_n 1, 1) := by decide +kernel
theorem d1_6 : decode prog_98_method_1_code 6 = .ok (.putfield 7, 3) := by decide +kernel
theorem d1_9 : decode prog_98_method_1_code 9 = .ok (.aload_n 0, 1) := by decide +kernel
theorem d1_10 : decode prog_98_method_1_code 10 = .ok (.iload_n 2, 1) := by decide +kernel
theorem d1_11 : decode prog_98_method_1_code 11 = .ok (.putfield 13, 3) := by decide +kernel
theorem d1_14 : decode prog_98_method_1_code 14 = .ok (.return_, 1) := by decide +kernel
theorem own_pn1 : plainName "com/example/recital/recital/Place" = true := by first | (simp [plainName, overriddenIn]; done) | decide +kernel
def R1 (t : Int32 × Int32) : Option Value := none
def K1 (Z : State) (a0 : Addr) (h0 : Heap) (n0 : Nat) (t : Int32 × Int32) (h : Heap) (L : List Loc) : Prop := Fr n0 L ∧ Keep h0 h [a0] ∧ Exa Z h a0 "com/example/recital/recital/Place" ∧ Fld Z h a0 "com/example/recital/recital/Place" "line" "I" (.int t.1) ∧ Fld Z h a0 "com/example/recital/recital/Place" "column" "I" (.int t.2)
def f1_0 (p1 : Int32) (p2 : Int32) (u0_line : Int32) (u0_column : Int32) : Int32 × Int32 := (p1, p2)
set_option maxRecDepth 65536 in
set_option maxHeartbeats 40000000 in
theorem g1_0 {p : Program} {l : Launch} {e : Env} {s : State} {m : MethodId} {below : List Frame} {meth : Method} {c : Code} {s₁ : State} {ws : List Jvm.Cond} {Z : State} {aw : Array Value} (hw : ∀ d ∈ tables_1, d.before aw Z = true) {h0 : Heap} {n0 : Nat} (p1 : Int32) (p2 : Int32) (u0_line : Int32) (u0_column : Int32) (a0 : Addr)
    (Bd : BodyLoose p l (⟨"com/example/recital/recital/Place", "<init>", "(II)V"⟩ : MethodName) (head1 (Jvm.Cond.code (⟨"com/example/recital/recital/Place", "<init>", "(II)V"⟩ : MethodName) prog_98_method_1_code 3 none :: ws) ({ frames := 2, cells := 0, slots := 0, locals := 40 } : Room)) prog_98_method_1_code 3 none e s m #[(.ref a0), (.int p1), (.int p2)] below meth c s₁) (hml : c.maxLocals = 3) (hZ : Z.Warmed39 s.vm) (g_a0 : n0 ≤ a0) (T0 : State) {locs : List Loc} (X0 : Stand p l e ({ frames := 2, cells := 0, slots := 0, locals := 40 } : Room) s m #[(.ref a0), (.int p1), (.int p2)] below meth c T0 locs 0 0) (e0 : T0.heap = h0) (SZ0 : n0 ≤ h0.size) (NF0 : Fr n0 locs) (KP0 : Keep h0 h0 [a0]) (E_a0 : Exa Z h0 a0 "com/example/recital/recital/Place") (F_a0_line : Fld Z h0 a0 "com/example/recital/recital/Place" "line" "I" (.int u0_line)) (F_a0_column : Fld Z h0 a0 "com/example/recital/recital/Place" "column" "I" (.int u0_column)) :
    own_Go p e below s ({ frames := 2, cells := 0, slots := 0, locals := 40 } : Room).cells ({ frames := 2, cells := 0, slots := 0, locals := 40 } : Room).slots (R1 (f1_0 p1 p2 u0_line u0_column)) (K1 Z a0 h0 n0 (f1_0 p1 p2 u0_line u0_column)) (T0.setTop (mkF m 0 #[.val (.ref a0), .val (.int p1), .val (.int p2)] [])) := by
  have hx := Bd.exec
  have hby := Bd.bytes
  have hown : s.vm.findClass "com/example/recital/recital/Place" = some m.cls := findClass_of_methodNamed Bd.named
  have hnm := (name_of_methodNamed Bd.named Bd.method).1
  unfold f1_0
  refine own_pre (F' := T0.setTop (mkF m 1 #[.val (.ref a0), .val (.int p1), .val (.int p2)] [(.ref a0)])) (fun _ k => XS.aloadN X0.here hx rfl (hb hby d1_0) rfl rfl k) ?_
  obtain ⟨_, _, ⟨T1, L1, k1, n1⟩, -, X1', ⟨Lc1, hQ1, l1, y1, z1⟩, st'⟩ := X0.specialBack hx (y := (⟨"java/lang/Record", "<init>", "()V"⟩ : MethodName)) rfl hown (mvT hZ (hw _ (List.mem_of_getElem? (i := 6) rfl))) (mvT hZ (hw _ (List.mem_of_getElem? (i := 7) rfl))) (mvT hZ (hw _ (List.mem_of_getElem? (i := 10) rfl))) (by decide) (backOf (W := 0) (rm2 l Z aw hw []  a0 h0 n0 SZ0 ) hZ (hw _ (List.mem_of_getElem? (i := 10) rfl)) (hw _ (List.mem_of_getElem? (i := 9) rfl)) (by decide) (by decide)) (g := (mkF m 1 #[.val (.ref a0), .val (.int p1), .val (.int p2)] [(.ref a0)])) rfl (by rw [hml]; rfl) (Steps.refl _) (a := a0) (argsL := []) (rest := []) (lenOf own_pd0 rfl) rfl (by show 2 * 0 + _ ≤ _; exact Nat.le_of_eq rfl) (hb hby d1_1) (fun _ _ => ⟨rfl, e0, (by decide : 0 + 0 ≤ _), (by decide : 0 + 0 ≤ _)⟩)
  dsimp only [Pt.U, Pt.locs, Pt.cells, Pt.slots] at X1' l1 y1 z1 st' hQ1
  subst l1 y1 z1
  obtain ⟨rfl, NFq1, KPq1⟩ := hQ1
  have X1 : Stand p l e ({ frames := 2, cells := 0, slots := 0, locals := 40 } : Room) s m #[(.ref a0), (.int p1), (.int p2)] below meth c T1 _ 0 0 := X1'
  have NF1 := Fr.app NF0 NFq1
  have SZ1 : n0 ≤ T1.heap.size := Nat.le_trans SZ0 KPq1.1
  have KP1 : Keep h0 T1.heap [a0] := KP0.trans KPq1 all0
  have f2 := E_a0.keep KPq1
  have f3 := F_a0_line.keep KPq1 nin0
  have f4 := F_a0_column.keep KPq1 nin0
  refine own_pre (F' := T1.setTop (mkF m 4 #[.val (.ref a0), .val (.int p1), .val (.int p2)] [])) (fun t k => st'.trans k) ?_
  refine own_pre (F' := T1.setTop (mkF m 5 #[.val (.ref a0), .val (.int p1), .val (.int p2)] [(.ref a0)])) (fun _ k => XS.aloadN X1.here hx rfl (hb hby d1_4) rfl rfl k) ?_
  refine own_pre (F' := T1.setTop (mkF m 6 #[.val (.ref a0), .val (.int p1), .val (.int p2)] [(.int p1), (.ref a0)])) (fun _ k => XS.iloadN X1.here hx rfl (hb hby d1_5) rfl k) ?_
  obtain ⟨T5, h5, X5, e5, W5, st'⟩ := putF X1 hx hZ hown (host := "") (Or.inl (hw _ (List.mem_of_getElem? (i := 14) rfl))) Via.refl (rfl : T1.heap = T1.heap) f3 f2 (Or.inr ⟨(hw _ (List.mem_of_getElem? (i := 15) rfl)), rfl, hnm⟩) (hw _ (List.mem_of_getElem? (i := 1) rfl)) (ty := .int) (by decide) rfl rfl (g := (mkF m 6 #[.val (.ref a0), .val (.int p1), .val (.int p2)] [(.int p1), (.ref a0)])) rfl rfl (hb hby d1_6)
  have f6 := f3.same W5
  have f7 := f2.wr W5
  have f8 := f4.other W5 (Or.inr (slot_ne (Or.inr (hw _ (List.mem_of_getElem? (i := 17) rfl))) (Or.inr (hw _ (List.mem_of_getElem? (i := 15) rfl))) (by decide) (t := .int) (t' := .int) (by decide) (by decide)))
  have NF5 := Fr.snoc X5 NF1 g_a0
  have SZ5 : n0 ≤ h5.size := (Nat.le_trans SZ1 (Keep.of_wr W5).1)
  have KP5 : Keep h0 h5 [a0] := KP1.wr W5 (Or.inl (List.mem_of_getElem? (i := 0) rfl))
  refine own_pre (F' := T5.setTop (mkF m 9 #[.val (.ref a0), .val (.int p1), .val (.int p2)] [])) (fun t k => st' t k) ?_
  refine own_pre (F' := T5.setTop (mkF m 10 #[.val (.ref a0), .val (.int p1), .val (.int p2)] [(.ref a0)])) (fun _ k => XS.aloadN X5.here hx rfl (hb hby d1_9) rfl rfl k) ?_
  refine own_pre (F' := T5.setTop (mkF m 11 #[.val (.ref a0), .val (.int p1), .val (.int p2)] [(.int p2), (.ref a0)])) (fun _ k => XS.iloadN X5.here hx rfl (hb hby d1_10) rfl k) ?_
  obtain ⟨T9, h9, X9, e9, W9, st'⟩ := putF X5 hx hZ hown (host := "") (Or.inl (hw _ (List.mem_of_getElem? (i := 16) rfl))) Via.refl e5 f8 f7 (Or.inr ⟨(hw _ (List.mem_of_getElem? (i := 17) rfl)), rfl, hnm⟩) (hw _ (List.mem_of_getElem? (i := 1) rfl)) (ty := .int) (by decide) rfl rfl (g := (mkF m 11 #[.val (.ref a0), .val (.int p1), .val (.int p2)] [(.int p2), (.ref a0)])) rfl rfl (hb hby d1_11)
  have f10 := f8.same W9
  have f11 := f7.wr W9
  have f12 := f6.other W9 (Or.inr (slot_ne (Or.inr (hw _ (List.mem_of_getElem? (i := 15) rfl))) (Or.inr (hw _ (List.mem_of_getElem? (i := 17) rfl))) (by decide) (t := .int) (t' := .int) (by decide) (by decide)))
  have NF9 := Fr.snoc X9 NF5 g_a0
  have SZ9 : n0 ≤ h9.size := (Nat.le_trans SZ5 (Keep.of_wr W9).1)
  have KP9 : Keep h0 h9 [a0] := KP5.wr W9 (Or.inl (List.mem_of_getElem? (i := 0) rfl))
  refine own_pre (F' := T9.setTop (mkF m 14 #[.val (.ref a0), .val (.int p1), .val (.int p2)] [])) (fun t k => st' t k) ?_
  exact own_retV X9 hx Bd.notSynchronized Bd.returns (hb hby d1_14) (by rw [e9]; exact ⟨NF9, KP9, f11, f12, f10⟩) (by decide) (by decide)
theorem ef_1 (m : MethodId) (a0 : Addr) (p1 : Int32) (p2 : Int32) : entryFrame m #[(.ref a0), (.int p1), (.int p2)] 3 = mkF m 0 #[.val (.ref a0), .val (.int p1), .val (.int p2)] [] := by first | (simp [entryFrame, mkF, argsToLocals, Value.category]; done) | rfl
set_option maxRecDepth 65536 in
set_option maxHeartbeats 40000000 in
theorem rm1 (l : Launch) (Z : State) (aw : Array Value) (hw : ∀ d ∈ tables_1, d.before aw Z = true) (ws : List Jvm.Cond) (p1 : Int32) (p2 : Int32) (u0_line : Int32) (u0_column : Int32) (a0 : Addr) (h0 : Heap) (n0 : Nat) (SZ0 : n0 ≤ h0.size) (E_a0 : Exa Z h0 a0 "com/example/recital/recital/Place") (F_a0_line : Fld Z h0 a0 "com/example/recital/recital/Place" "line" "I" (.int u0_line)) (F_a0_column : Fld Z h0 a0 "com/example/recital/recital/Place" "column" "I" (.int u0_column)) (g_a0 : n0 ≤ a0) :
    MetFree l (⟨"com/example/recital/recital/Place", "<init>", "(II)V"⟩ : MethodName) (head1 (Jvm.Cond.code (⟨"com/example/recital/recital/Place", "<init>", "(II)V"⟩ : MethodName) prog_98_method_1_code 3 none :: ws) ({ frames := 2, cells := 0, slots := 0, locals := 40 } : Room)) (fun a U => a = #[(.ref a0), (.int p1), (.int p2)] ∧ Z.Warmed39 U.vm ∧ U.heap = h0) (fun _ _ _ _ _ => True) (fun _ U o U' => ∃ v L, o = .returned v ∧ own_Q (R1 (f1_0 p1 p2 u0_line u0_column)) (K1 Z a0 h0 n0 (f1_0 p1 p2 u0_line u0_column)) v U'.heap L ∧ FrameEnd U o U' L ({ frames := 2, cells := 0, slots := 0, locals := 40 } : Room).cells ({ frames := 2, cells := 0, slots := 0, locals := 40 } : Room).slots) := by
  refine MetFree.of_bodySF (plainFor_of_name own_pn1) hisR ?_
  intro p e s m args below meth c s₁ Bd hml0 hP hK
  obtain ⟨rfl, hZ, hh⟩ := hP
  have hml : c.maxLocals = 3 := hml0
  have e0 : s₁.heap = h0 := by rw [← hh, Bd.state]; rfl
  exact own_pre (fun t k => castTop (ef_1 m a0 p1 p2) k) (g1_0 hw p1 p2 u0_line u0_column a0 Bd hml hZ g_a0 s₁ (Stand.of_body Bd) e0 SZ0 (Fr.nil n0) (Keep.refl _ _) E_a0 F_a0_line F_a0_column)
/-! body 4 -/
theorem d4_0 : decode prog_98_method_2_code 0 = .ok (.aload_n 0, 1) := by decide +kernel
theorem d4_1 : decode prog_98_method_2_code 1 = .ok (.getfield 7, 3) := by decide +kernel
theorem d4_4 : decode prog_98_method_2_code 4 = .ok (.iload_n 1, 1) := by decide +kernel
theorem d4_5 : decode prog_98_method_2_code 5 = .ok (.if_icmp .gt 19, 3) := by decide +kernel
theorem d4_8 : decode prog_98_method_2_code 8 = .ok (.aload_n 0, 1) := by decide +kernel
theorem d4_9 : decode prog_98_method_2_code 9 = .ok (.getfield 7, 3) := by decide +kernel
theorem d4_12 : decode prog_98_method_2_code 12 = .ok (.iload_n 1, 1) := by decide +kernel
theorem d4_13 : decode prog_98_method_2_code 13 = .ok (.if_icmp .ne 15, 3) := by decide +kernel
theorem d4_16 : decode prog_98_method_2_code 16 = .ok (.aload_n 0, 1) := by decide +kernel
theorem d4_17 : decode prog_98_method_2_code 17 = .ok (.getfield 13, 3) := by decide +kernel
theorem d4_20 : decode prog_98_method_2_code 20 = .ok (.iload_n 2, 1) := by decide +kernel
theorem d4_21 : decode prog_98_method_2_code 21 = .ok (.if_icmp .le 7, 3) := by decide +kernel
theorem d4_24 : decode prog_98_method_2_code 24 = .ok (.iconst 1, 1) := by decide +kernel
theorem d4_25 : decode prog_98_method_2_code 25 = .ok (.goto 4, 3) := by decide +kernel
theorem d4_28 : decode prog_98_method_2_code 28 = .ok (.iconst 0, 1) := by decide +kernel
theorem d4_29 : decode prog_98_method_2_code 29 = .ok (.ireturn, 1) := by decide +kernel
def R4 (t : Int32) : Option Value := some (.int t)
def K4 (Z : State) (a0 : Addr) (h0 : Heap) (n0 : Nat) (t : Int32) (h : Heap) (L : List Loc) : Prop := Fr n0 L ∧ Keep h0 h []
def f4_28 (p1 : Int32) (p2 : Int32) (u0_line : Int32) (u0_column : Int32) : Int32 := (0 : Int32)
set_option maxRecDepth 65536 in
set_option maxHeartbeats 40000000 in
theorem g4_28 {p : Program} {l : Launch} {e : Env} {s : State} {m : MethodId} {below : List Frame} {meth : Method} {c : Code} {s₁ : State} {ws : List Jvm.Cond} {Z : State} {aw : Array Value} (hw : ∀ d ∈ tables_1, d.before aw Z = true) {h0 : Heap} {n0 : Nat} (p1 : Int32) (p2 : Int32) (u0_line : Int32) (u0_column : Int32) (a0 : Addr)
    (Bd : BodyLoose p l (⟨"com/example/recital/recital/Place", "isAfter", "(II)Z"⟩ : MethodName) (head1 (Jvm.Cond.code (⟨"com/example/recital/recital/Place", "isAfter", "(II)Z"⟩ : MethodName) prog_98_method_2_code 3 (some .boolean) :: ws) ({ frames := 0, cells := 0, slots := 0, locals := 0 } : Room)) prog_98_method_2_code 3 (some .boolean) e s m #[(.ref a0), (.int p1), (.int p2)] below meth c s₁) (hml : c.maxLocals = 3) (hZ : Z.Warmed39 s.vm) (T0 : State) {locs : List Loc} (X0 : Stand p l e ({ frames := 0, cells := 0, slots := 0, locals := 0 } : Room) s m #[(.ref a0), (.int p1), (.int p2)] below meth c T0 locs 0 0) {h : Heap} (e0 : T0.heap = h) (SZ0 : n0 ≤ h.size) (NF0 : Fr n0 locs) (KP0 : Keep h0 h []) (E_a0 : Exa Z h a0 "com/example/recital/recital/Place") (F_a0_line : Fld Z h a0 "com/example/recital/recital/Place" "line" "I" (.int u0_line)) (F_a0_column : Fld Z h a0 "com/example/recital/recital/Place" "column" "I" (.int u0_column)) :
    own_Go p e below s ({ frames := 0, cells := 0, slots := 0, locals := 0 } : Room).cells ({ frames := 0, cells := 0, slots := 0, locals := 0 } : Room).slots (R4 (f4_28 p1 p2 u0_line u0_column)) (K4 Z a0 h0 n0 (f4_28 p1 p2 u0_line u0_column)) (T0.setTop (mkF m 28 #[.val (.ref a0), .val (.int p1), .val (.int p2)] [])) := by
  have hx := Bd.exec
  have hby := Bd.bytes
  have hown : s.vm.findClass "com/example/recital/recital/Place" = some m.cls := findClass_of_methodNamed Bd.named
  have hnm := (name_of_methodNamed Bd.named Bd.method).1
  unfold f4_28
  refine own_pre (F' := T0.setTop (mkF m 29 #[.val (.ref a0), .val (.int p1), .val (.int p2)] [(.int (0 : Int32))])) (fun _ k => XS.iconst X0.here hx rfl (hb hby d4_28) k) ?_
  exact own_ret X0 hx Bd.notSynchronized Bd.returns rfl (Or.inl ⟨rfl, by simp, _, rfl⟩) (hb hby d4_29) (by rw [e0]; exact ⟨NF0, KP0⟩) (by decide) (by decide)
def f4_24 (p1 : Int32) (p2 : Int32) (u0_line : Int32) (u0_column : Int32) : Int32 := (1 : Int32)
set_option maxRecDepth 65536 in
set_option maxHeartbeats 40000000 in
theorem g4_24 {p : Program} {l : Launch} {e : Env} {s : State} {m : MethodId} {below : List Frame} {meth : Method} {c : Code} {s₁ : State} {ws : List Jvm.Cond} {Z : State} {aw : Array Value} (hw : ∀ d ∈ tables_1, d.before aw Z = true) {h0 : Heap} {n0 : Nat} (p1 : Int32) (p2 : Int32) (u0_line : Int32) (u0_column : Int32) (a0 : Addr)
    (Bd : BodyLoose p l (⟨"com/example/recital/recital/Place", "isAfter", "(II)Z"⟩ : MethodName) (head1 (Jvm.Cond.code (⟨"com/example/recital/recital/Place", "isAfter", "(II)Z"⟩ : MethodName) prog_98_method_2_code 3 (some .boolean) :: ws) ({ frames := 0, cells := 0, slots := 0, locals := 0 } : Room)) prog_98_method_2_code 3 (some .boolean) e s m #[(.ref a0), (.int p1), (.int p2)] below meth c s₁) (hml : c.maxLocals = 3) (hZ : Z.Warmed39 s.vm) (T0 : State) {locs : List Loc} (X0 : Stand p l e ({ frames := 0, cells := 0, slots := 0, locals := 0 } : Room) s m #[(.ref a0), (.int p1), (.int p2)] below meth c T0 locs 0 0) {h : Heap} (e0 : T0.heap = h) (SZ0 : n0 ≤ h.size) (NF0 : Fr n0 locs) (KP0 : Keep h0 h []) (E_a0 : Exa Z h a0 "com/example/recital/recital/Place") (F_a0_line : Fld Z h a0 "com/example/recital/recital/Place" "line" "I" (.int u0_line)) (F_a0_column : Fld Z h a0 "com/example/recital/recital/Place" "column" "I" (.int u0_column)) :
    own_Go p e below s ({ frames := 0, cells := 0, slots := 0, locals := 0 } : Room).cells ({ frames := 0, cells := 0, slots := 0, locals := 0 } : Room).slots (R4 (f4_24 p1 p2 u0_line u0_column)) (K4 Z a0 h0 n0 (f4_24 p1 p2 u0_line u0_column)) (T0.setTop (mkF m 24 #[.val (.ref a0), .val (.int p1), .val (.int p2)] [])) := by
  have hx := Bd.exec
  have hby := Bd.bytes
  have hown : s.vm.findClass "com/example/recital/recital/Place" = some m.cls := findClass_of_methodNamed Bd.named
  have hnm := (name_of_methodNamed Bd.named Bd.method).1
  unfold f4_24
  refine own_pre (F' := T0.setTop (mkF m 25 #[.val (.ref a0), .val (.int p1), .val (.int p2)] [(.int (1 : Int32))])) (fun _ k => XS.iconst X0.here hx rfl (hb hby d4_24) k) ?_
  refine own_pre (F' := T0.setTop (mkF m 29 #[.val (.ref a0), .val (.int p1), .val (.int p2)] [(.int (1 : Int32))])) (fun _ k => XS.goto X0.here hx rfl (pc0 := 25) (pc' := 29) rfl (hb hby d4_25) (by decide) (by decide) k) ?_
  exact own_ret X0 hx Bd.notSynchronized Bd.returns rfl (Or.inl ⟨rfl, by simp, _, rfl⟩) (hb hby d4_29) (by rw [e0]; exact ⟨NF0, KP0⟩) (by decide) (by decide)
def f4_0 (p1 : Int32) (p2 : Int32) (u0_line : Int32) (u0_column : Int32) : Int32 := (if p1 < u0_line then (f4_24 p1 p2 u0_line u0_column) else (if u0_line = p1 then (if p2 < u0_column then (f4_24 p1 p2 u0_line u0_column) else (f4_28 p1 p2 u0_line u0_column)) else (f4_28 p1 p2 u0_line u0_column)))
set_option maxRecDepth 65536 in
set_option maxHeartbeats 40000000 in
theorem g4_0 {p : Program} {l : Launch} {e : Env} {s : State} {m : MethodId} {below : List Frame} {meth : Method} {c : Code} {s₁ : State} {ws : List Jvm.Cond} {Z : State} {aw : Array Value} (hw : ∀ d ∈ tables_1, d.before aw Z = true) {h0 : Heap} {n0 : Nat} (p1 : Int32) (p2 : Int32) (u0_line : Int32) (u0_column : Int32) (a0 : Addr)
    (Bd : BodyLoose p l (⟨"com/example/recital/recital/Place", "isAfter", "(II)Z"⟩ : MethodName) (head1 (Jvm.Cond.code (⟨"com/example/recital/recital/Place", "isAfter", "(II)Z"⟩ : MethodName) prog_98_method_2_code 3 (some .boolean) :: ws) ({ frames := 0, cells := 0, slots := 0, locals := 0 } : Room)) prog_98_method_2_code 3 (some .boolean) e s m #[(.ref a0), (.int p1), (.int p2)] below meth c s₁) (hml : c.maxLocals = 3) (hZ : Z.Warmed39 s.vm) (T0 : State) {locs : List Loc} (X0 : Stand p l e ({ frames := 0, cells := 0, slots := 0, locals := 0 } : Room) s m #[(.ref a0), (.int p1), (.int p2)] below meth c T0 locs 0 0) (e0 : T0.heap = h0) (SZ0 : n0 ≤ h0.size) (NF0 : Fr n0 locs) (KP0 : Keep h0 h0 []) (E_a0 : Exa Z h0 a0 "com/example/recital/recital/Place") (F_a0_line : Fld Z h0 a0 "com/example/recital/recital/Place" "line" "I" (.int u0_line)) (F_a0_column : Fld Z h0 a0 "com/example/recital/recital/Place" "column" "I" (.int u0_column)) :
    own_Go p e below s ({ frames := 0, cells := 0, slots := 0, locals := 0 } : Room).cells ({ frames := 0, cells := 0, slots := 0, locals := 0 } : Room).slots (R4 (f4_0 p1 p2 u0_line u0_column)) (K4 Z a0 h0 n0 (f4_0 p1 p2 u0_line u0_column)) (T0.setTop (mkF m 0 #[.val (.ref a0), .val (.int p1), .val (.int p2)] [])) := by
  have hx := Bd.exec
  have hby := Bd.bytes
  have hown : s.vm.findClass "com/example/recital/recital/Place" = some m.cls := findClass_of_methodNamed Bd.named
  have hnm := (name_of_methodNamed Bd.named Bd.method).1
  unfold f4_0
  refine own_pre (F' := T0.setTop (mkF m 1 #[.val (.ref a0), .val (.int p1), .val (.int p2)] [(.ref a0)])) (fun _ k => XS.aloadN X0.here hx rfl (hb hby d4_0) rfl rfl k) ?_
  obtain ⟨T1, X1, e1, st'⟩ := getF X0 hx hZ hown (host := "") (Or.inl (hw _ (List.mem_of_getElem? (i := 14) rfl))) Via.refl e0 F_a0_line (g := (mkF m 1 #[.val (.ref a0), .val (.int p1), .val (.int p2)] [(.ref a0)])) rfl rfl (hb hby d4_1)
  refine own_pre (F' := T1.setTop (mkF m 4 #[.val (.ref a0), .val (.int p1), .val (.int p2)] [(.int u0_line)])) (fun t k => st' t k) ?_
  refine own_pre (F' := T1.setTop (mkF m 5 #[.val (.ref a0), .val (.int p1), .val (.int p2)] [(.int p1), (.int u0_line)])) (fun _ k => XS.iloadN X1.here hx rfl (hb hby d4_4) rfl k) ?_
  refine own_iteT R4 (K4 Z a0 h0 n0) (fun hc5 => ?_) (fun hc5 => ?_)
  · skip
    refine own_pre (F' := T1.setTop (mkF m 24 #[.val (.ref a0), .val (.int p1), .val (.int p2)] [])) (fun _ k => XS.icmpYes X1.here hx rfl (pc0 := 5) (pc' := 24) rfl (hb hby d4_5) rfl (tlt hc5).2.2.1 (by decide) (by decide) k) ?_
    exact g4_24 hw p1 p2 u0_line u0_column a0 Bd hml hZ T1 X1 e1 SZ0 NF0 KP0 E_a0 F_a0_line F_a0_column
  · skip
    refine own_pre (F' := T1.setTop (mkF m 8 #[.val (.ref a0), .val (.int p1), .val (.int p2)] [])) (fun _ k => XS.icmpNo X1.here hx rfl (hb hby d4_5) rfl (flt hc5).2.2.1 k) ?_
    refine own_pre (F' := T1.setTop (mkF m 9 #[.val (.ref a0), .val (.int p1), .val (.int p2)] [(.ref a0)])) (fun _ k => XS.aloadN X1.here hx rfl (hb hby d4_8) rfl rfl k) ?_
    obtain ⟨T2, X2, e2, st'⟩ := getF X1 hx hZ hown (host := "") (Or.inl (hw _ (List.mem_of_getElem? (i := 14) rfl))) Via.refl e1 F_a0_line (g := (mkF m 9 #[.val (.ref a0), .val (.int p1), .val (.int p2)] [(.ref a0)])) rfl rfl (hb hby d4_9)
    refine own_pre (F' := T2.setTop (mkF m 12 #[.val (.ref a0), .val (.int p1), .val (.int p2)] [(.int u0_line)])) (fun t k => st' t k) ?_
    refine own_pre (F' := T2.setTop (mkF m 13 #[.val (.ref a0), .val (.int p1), .val (.int p2)] [(.int p1), (.int u0_line)])) (fun _ k => XS.iloadN X2.here hx rfl (hb hby d4_12) rfl k) ?_
    refine own_iteT R4 (K4 Z a0 h0 n0) (fun hc13 => ?_) (fun hc13 => ?_)
    · skip
      refine own_pre (F' := T2.setTop (mkF m 16 #[.val (.ref a0), .val (.int p1), .val (.int p2)] [])) (fun _ k => XS.icmpNo X2.here hx rfl (hb hby d4_13) rfl (teq hc13).2 k) ?_
      refine own_pre (F' := T2.setTop (mkF m 17 #[.val (.ref a0), .val (.int p1), .val (.int p2)] [(.ref a0)])) (fun _ k => XS.aloadN X2.here hx rfl (hb hby d4_16) rfl rfl k) ?_
      obtain ⟨T3, X3, e3, st'⟩ := getF X2 hx hZ hown (host := "") (Or.inl (hw _ (List.mem_of_getElem? (i := 16) rfl))) Via.refl e2 F_a0_column (g := (mkF m 17 #[.val (.ref a0), .val (.int p1), .val (.int p2)] [(.ref a0)])) rfl rfl (hb hby d4_17)
      refine own_pre (F' := T3.setTop (mkF m 20 #[.val (.ref a0), .val (.int p1), .val (.int p2)] [(.int u0_column)])) (fun t k => st' t k) ?_
      refine own_pre (F' := T3.setTop (mkF m 21 #[.val (.ref a0), .val (.int p1), .val (.int p2)] [(.int p2), (.int u0_column)])) (fun _ k => XS.iloadN X3.here hx rfl (hb hby d4_20) rfl k) ?_
      refine own_iteT R4 (K4 Z a0 h0 n0) (fun hc21 => ?_) (fun hc21 => ?_)
      · skip
        refine own_pre (F' := T3.setTop (mkF m 24 #[.val (.ref a0), .val (.int p1), .val (.int p2)] [])) (fun _ k => XS.icmpNo X3.here hx rfl (hb hby d4_21) rfl (tlt hc21).2.2.2 k) ?_
        exact g4_24 hw p1 p2 u0_line u0_column a0 Bd hml hZ T3 X3 e3 SZ0 NF0 KP0 E_a0 F_a0_line F_a0_column
      · skip
        refine own_pre (F' := T3.setTop (mkF m 28 #[.val (.ref a0), .val (.int p1), .val (.int p2)] [])) (fun _ k => XS.icmpYes X3.here hx rfl (pc0 := 21) (pc' := 28) rfl (hb hby d4_21) rfl (flt hc21).2.2.2 (by decide) (by decide) k) ?_
        exact g4_28 hw p1 p2 u0_line u0_column a0 Bd hml hZ T3 X3 e3 SZ0 NF0 KP0 E_a0 F_a0_line F_a0_column
    · skip
      refine own_pre (F' := T2.setTop (mkF m 28 #[.val (.ref a0), .val (.int p1), .val (.int p2)] [])) (fun _ k => XS.icmpYes X2.here hx rfl (pc0 := 13) (pc' := 28) rfl (hb hby d4_13) rfl (feq hc13).2 (by decide) (by decide) k) ?_
      exact g4_28 hw p1 p2 u0_line u0_column a0 Bd hml hZ T2 X2 e2 SZ0 NF0 KP0 E_a0 F_a0_line F_a0_column
theorem ef_4 (m : MethodId) (a0 : Addr) (p1 : Int32) (p2 : Int32) : entryFrame m #[(.ref a0), (.int p1), (.int p2)] 3 = mkF m 0 #[.val (.ref a0), .val (.int p1), .val (.int p2)] [] := by first | (simp [entryFrame, mkF, argsToLocals, Value.category]; done) | rfl
set_option maxRecDepth 65536 in
set_option maxHeartbeats 40000000 in
theorem rm4 (l : Launch) (Z : State) (aw : Array Value) (hw : ∀ d ∈ tables_1, d.before aw Z = true) (ws : List Jvm.Cond) (p1 : Int32) (p2 : Int32) (u0_line : Int32) (u0_column : Int32) (a0 : Addr) (h0 : Heap) (n0 : Nat) (SZ0 : n0 ≤ h0.size) (E_a0 : Exa Z h0 a0 "com/example/recital/recital/Place") (F_a0_line : Fld Z h0 a0 "com/example/recital/recital/Place" "line" "I" (.int u0_line)) (F_a0_column : Fld Z h0 a0 "com/example/recital/recital/Place" "column" "I" (.int u0_column)) :
    MetFree l (⟨"com/example/recital/recital/Place", "isAfter", "(II)Z"⟩ : MethodName) (head1 (Jvm.Cond.code (⟨"com/example/recital/recital/Place", "isAfter", "(II)Z"⟩ : MethodName) prog_98_method_2_code 3 (some .boolean) :: ws) ({ frames := 0, cells := 0, slots := 0, locals := 0 } : Room)) (fun a U => a = #[(.ref a0), (.int p1), (.int p2)] ∧ Z.Warmed39 U.vm ∧ U.heap = h0) (fun _ _ _ _ _ => True) (fun _ U o U' => ∃ v L, o = .returned v ∧ own_Q (R4 (f4_0 p1 p2 u0_line u0_column)) (K4 Z a0 h0 n0 (f4_0 p1 p2 u0_line u0_column)) v U'.heap L ∧ FrameEnd U o U' L ({ frames := 0, cells := 0, slots := 0, locals := 0 } : Room).cells ({ frames := 0, cells := 0, slots := 0, locals := 0 } : Room).slots) := by
  refine MetFree.of_bodySF (plainFor_of_name own_pn1) hisR ?_
  intro p e s m args below meth c s₁ Bd hml0 hP hK
  obtain ⟨rfl, hZ, hh⟩ := hP
  have hml : c.maxLocals = 3 := hml0
  have e0 : s₁.heap = h0 := by rw [← hh, Bd.state]; rfl
  exact own_pre (fun t k => castTop (ef_4 m a0 p1 p2) k) (g4_0 hw p1 p2 u0_line u0_column a0 Bd hml hZ s₁ (Stand.of_body Bd) e0 SZ0 (Fr.nil n0) (Keep.refl _ _) E_a0 F_a0_line F_a0_column)
theorem own_pd1 : parseMethodDescriptor "(II)V" = some ⟨[.int, .int], none⟩ := by decide +kernel
theorem own_pd2 : parseMethodDescriptor "(II)Z" = some ⟨[.int, .int], some .boolean⟩ := by decide +kernel
/-! body 0 -/
theorem own_pn2 : plainName "com/example/recital/recital/PlaceIsAfterPinLaw" = true := by first | (simp [plainName, overriddenIn]; done) | decide +kernel
def R0 (t : Int32) : Option Value := some (.int t)
def K0 (Z : State)  (h0 : Heap) (n0 : Nat) (t : Int32) (h : Heap) (L : List Loc) : Prop := Fr n0 L
def f0_106 (p0 : Int32) (p1 : Int32) (p2 : Int32) (p3 : Int32) (p4 : Int32) (x8 : Int32) (x13 : Int32) : Int32 := (if x8 = x13 then (1 : Int32) else (0 : Int32))
set_option maxRecDepth 65536 in
set_option maxHeartbeats 40000000 in
theorem g0_106 {p : Program} {l : Launch} {e : Env} {s : State} {m : MethodId} {below : List Frame} {meth : Method} {c : Code} {s₁ : State} {ws : List Jvm.Cond} {Z : State} {aw : Array Value} (hw : ∀ d ∈ tables_1, d.before aw Z = true) {h0 : Heap} {n0 : Nat} (p0 : Int32) (p1 : Int32) (p2 : Int32) (p3 : Int32) (p4 : Int32)  (x5 : Int32) (x6 : Int32) (x7 : Addr) (x8 : Int32) (x9 : Int64) (x11 : Int64) (x13 : Int32)
    (Bd : BodyLoose p l x (head1 (Jvm.Cond.code x code maxLocals ret :: ws) room_1) code maxLocals ret e s m #[(.int p0), (.int p1), (.int p2), (.int p3), (.int p4)] below meth c s₁) (hml : c.maxLocals = 14) (hZ : Z.Warmed39 s.vm) (T0 : State) {locs : List Loc} (X0 : Stand p l e room_1 s m #[(.int p0), (.int p1), (.int p2), (.int p3), (.int p4)] below meth c T0 locs 1 2) {h : Heap} (e0 : T0.heap = h) (SZ0 : n0 ≤ h.size) (NF0 : Fr n0 locs) :
    own_Go p e below s room_1.cells room_1.slots (R0 (f0_106 p0 p1 p2 p3 p4 x8 x13)) (K0 Z  h0 n0 (f0_106 p0 p1 p2 p3 p4 x8 x13)) (T0.setTop (mkF m 106 #[.val (.int p0), .val (.int p1), .val (.int p2), .val (.int p3), .val (.int p4), .val (.int x5), .val (.int x6), .val (.ref x7), .val (.int x8), .val (.long x9), .second, .val (.long x11), .second, .val (.int x13)] [])) := by
  have hx := Bd.exec
  have hby := Bd.bytes
  have hown : s.vm.findClass "com/example/recital/recital/PlaceIsAfterPinLaw" = some m.cls := findClass_of_methodNamed Bd.named
  have hnm := (name_of_methodNamed Bd.named Bd.method).1
  unfold f0_106
  refine own_pre (F' := T0.setTop (mkF m 108 #[.val (.int p0), .val (.int p1), .val (.int p2), .val (.int p3), .val (.int p4), .val (.int x5), .val (.int x6), .val (.ref x7), .val (.int x8), .val (.long x9), .second, .val (.long x11), .second, .val (.int x13)] [(.int x8)])) (fun _ k => XS.iload X0.here hx rfl (hb hby at_106) rfl k) ?_
  refine own_pre (F' := T0.setTop (mkF m 110 #[.val (.int p0), .val (.int p1), .val (.int p2), .val (.int p3), .val (.int p4), .val (.int x5), .val (.int x6), .val (.ref x7), .val (.int x8), .val (.long x9), .second, .val (.long x11), .second, .val (.int x13)] [(.int x13), (.int x8)])) (fun _ k => XS.iload X0.here hx rfl (hb hby at_108) rfl k) ?_
  refine own_iteT R0 (K0 Z  h0 n0) (fun hc110 => ?_) (fun hc110 => ?_)
  · skip
    refine own_pre (F' := T0.setTop (mkF m 113 #[.val (.int p0), .val (.int p1), .val (.int p2), .val (.int p3), .val (.int p4), .val (.int x5), .val (.int x6), .val (.ref x7), .val (.int x8), .val (.long x9), .second, .val (.long x11), .second, .val (.int x13)] [])) (fun _ k => XS.icmpNo X0.here hx rfl (hb hby at_110) rfl (teq hc110).2 k) ?_
    refine own_pre (F' := T0.setTop (mkF m 114 #[.val (.int p0), .val (.int p1), .val (.int p2), .val (.int p3), .val (.int p4), .val (.int x5), .val (.int x6), .val (.ref x7), .val (.int x8), .val (.long x9), .second, .val (.long x11), .second, .val (.int x13)] [(.int (1 : Int32))])) (fun _ k => XS.iconst X0.here hx rfl (hb hby at_113) k) ?_
    refine own_pre (F' := T0.setTop (mkF m 118 #[.val (.int p0), .val (.int p1), .val (.int p2), .val (.int p3), .val (.int p4), .val (.int x5), .val (.int x6), .val (.ref x7), .val (.int x8), .val (.long x9), .second, .val (.long x11), .second, .val (.int x13)] [(.int (1 : Int32))])) (fun _ k => XS.goto X0.here hx rfl (pc0 := 114) (pc' := 118) rfl (hb hby at_114) (by decide) (by decide) k) ?_
    exact own_ret X0 hx Bd.notSynchronized Bd.returns rfl (Or.inl ⟨rfl, by simp, _, rfl⟩) (hb hby at_118) (by rw [e0]; exact NF0) (by decide) (by decide)
  · skip
    refine own_pre (F' := T0.setTop (mkF m 117 #[.val (.int p0), .val (.int p1), .val (.int p2), .val (.int p3), .val (.int p4), .val (.int x5), .val (.int x6), .val (.ref x7), .val (.int x8), .val (.long x9), .second, .val (.long x11), .second, .val (.int x13)] [])) (fun _ k => XS.icmpYes X0.here hx rfl (pc0 := 110) (pc' := 117) rfl (hb hby at_110) rfl (feq hc110).2 (by decide) (by decide) k) ?_
    refine own_pre (F' := T0.setTop (mkF m 118 #[.val (.int p0), .val (.int p1), .val (.int p2), .val (.int p3), .val (.int p4), .val (.int x5), .val (.int x6), .val (.ref x7), .val (.int x8), .val (.long x9), .second, .val (.long x11), .second, .val (.int x13)] [(.int (0 : Int32))])) (fun _ k => XS.iconst X0.here hx rfl (hb hby at_117) k) ?_
    exact own_ret X0 hx Bd.notSynchronized Bd.returns rfl (Or.inl ⟨rfl, by simp, _, rfl⟩) (hb hby at_118) (by rw [e0]; exact NF0) (by decide) (by decide)
def f0_104 (p0 : Int32) (p1 : Int32) (p2 : Int32) (p3 : Int32) (p4 : Int32) (x8 : Int32) (y0 : Int32) : Int32 := (f0_106 p0 p1 p2 p3 p4 x8 y0)
set_option maxRecDepth 65536 in
set_option maxHeartbeats 40000000 in
theorem g0_104 {p : Program} {l : Launch} {e : Env} {s : State} {m : MethodId} {below : List Frame} {meth : Method} {c : Code} {s₁ : State} {ws : List Jvm.Cond} {Z : State} {aw : Array Value} (hw : ∀ d ∈ tables_1, d.before aw Z = true) {h0 : Heap} {n0 : Nat} (p0 : Int32) (p1 : Int32) (p2 : Int32) (p3 : Int32) (p4 : Int32)  (x5 : Int32) (x6 : Int32) (x7 : Addr) (x8 : Int32) (x9 : Int64) (x11 : Int64) (y0 : Int32)
    (Bd : BodyLoose p l x (head1 (Jvm.Cond.code x code maxLocals ret :: ws) room_1) code maxLocals ret e s m #[(.int p0), (.int p1), (.int p2), (.int p3), (.int p4)] below meth c s₁) (hml : c.maxLocals = 14) (hZ : Z.Warmed39 s.vm) (T0 : State) {locs : List Loc} (X0 : Stand p l e room_1 s m #[(.int p0), (.int p1), (.int p2), (.int p3), (.int p4)] below meth c T0 locs 1 2) {h : Heap} (e0 : T0.heap = h) (SZ0 : n0 ≤ h.size) (NF0 : Fr n0 locs) :
    own_Go p e below s room_1.cells room_1.slots (R0 (f0_104 p0 p1 p2 p3 p4 x8 y0)) (K0 Z  h0 n0 (f0_104 p0 p1 p2 p3 p4 x8 y0)) (T0.setTop (mkF m 104 #[.val (.int p0), .val (.int p1), .val (.int p2), .val (.int p3), .val (.int p4), .val (.int x5), .val (.int x6), .val (.ref x7), .val (.int x8), .val (.long x9), .second, .val (.long x11), .second, .unset] [(.int y0)])) := by
  have hx := Bd.exec
  have hby := Bd.bytes
  have hown : s.vm.findClass "com/example/recital/recital/PlaceIsAfterPinLaw" = some m.cls := findClass_of_methodNamed Bd.named
  have hnm := (name_of_methodNamed Bd.named Bd.method).1
  unfold f0_104
  refine own_pre (F' := T0.setTop (mkF m 106 #[.val (.int p0), .val (.int p1), .val (.int p2), .val (.int p3), .val (.int p4), .val (.int x5), .val (.int x6), .val (.ref x7), .val (.int x8), .val (.long x9), .second, .val (.long x11), .second, .val (.int y0)] [])) (fun _ k => XS.istore X0.here hx rfl (hb hby at_104) rfl (l' := #[.val (.int p0), .val (.int p1), .val (.int p2), .val (.int p3), .val (.int p4), .val (.int x5), .val (.int x6), .val (.ref x7), .val (.int x8), .val (.long x9), .second, .val (.long x11), .second, .val (.int y0)]) rfl k) ?_
  exact g0_106 hw p0 p1 p2 p3 p4  x5 x6 x7 x8 x9 x11 y0 Bd hml hZ T0 X0 e0 SZ0 NF0
def f0_26 (p0 : Int32) (p1 : Int32) (p2 : Int32) (p3 : Int32) (p4 : Int32) (x5 : Int32) (y0 : Int32) : Int32 := (if (0 : Int64) < ((p0.toInt64) - (x5.toInt64)) then (f0_106 p0 p1 p2 p3 p4 (f4_0 x5 y0 (f1_0 p0 p1 (0 : Int32) (0 : Int32)).1 (f1_0 p0 p1 (0 : Int32) (0 : Int32)).2) (1 : Int32)) else (if ((p0.toInt64) - (x5.toInt64)) < (0 : Int64) then (f0_106 p0 p1 p2 p3 p4 (f4_0 x5 y0 (f1_0 p0 p1 (0 : Int32) (0 : Int32)).1 (f1_0 p0 p1 (0 : Int32) (0 : Int32)).2) (0 : Int32)) else (if (0 : Int64) < ((p1.toInt64) - (y0.toInt64)) then (f0_104 p0 p1 p2 p3 p4 (f4_0 x5 y0 (f1_0 p0 p1 (0 : Int32) (0 : Int32)).1 (f1_0 p0 p1 (0 : Int32) (0 : Int32)).2) (1 : Int32)) else (f0_104 p0 p1 p2 p3 p4 (f4_0 x5 y0 (f1_0 p0 p1 (0 : Int32) (0 : Int32)).1 (f1_0 p0 p1 (0 : Int32) (0 : Int32)).2) (0 : Int32)))))
set_option maxRecDepth 65536 in
set_option maxHeartbeats 40000000 in
theorem g0_26 {p : Program} {l : Launch} {e : Env} {s : State} {m : MethodId} {below : List Frame} {meth : Method} {c : Code} {s₁ : State} {ws : List Jvm.Cond} {Z : State} {aw : Array Value} (hw : ∀ d ∈ tables_1, d.before aw Z = true) {h0 : Heap} {n0 : Nat} (p0 : Int32) (p1 : Int32) (p2 : Int32) (p3 : Int32) (p4 : Int32)  (x5 : Int32) (y0 : Int32)
    (Bd : BodyLoose p l x (head1 (Jvm.Cond.code x code maxLocals ret :: ws) room_1) code maxLocals ret e s m #[(.int p0), (.int p1), (.int p2), (.int p3), (.int p4)] below meth c s₁) (hml : c.maxLocals = 14) (hZ : Z.Warmed39 s.vm) (T0 : State) {locs : List Loc} (X0 : Stand p l e room_1 s m #[(.int p0), (.int p1), (.int p2), (.int p3), (.int p4)] below meth c T0 locs 0 0) {h : Heap} (e0 : T0.heap = h) (SZ0 : n0 ≤ h.size) (NF0 : Fr n0 locs) :
    own_Go p e below s room_1.cells room_1.slots (R0 (f0_26 p0 p1 p2 p3 p4 x5 y0)) (K0 Z  h0 n0 (f0_26 p0 p1 p2 p3 p4 x5 y0)) (T0.setTop (mkF m 26 #[.val (.int p0), .val (.int p1), .val (.int p2), .val (.int p3), .val (.int p4), .val (.int x5), .unset, .unset, .unset, .unset, .unset, .unset, .unset, .unset] [(.int y0)])) := by
  have hx := Bd.exec
  have hby := Bd.bytes
  have hown : s.vm.findClass "com/example/recital/recital/PlaceIsAfterPinLaw" = some m.cls := findClass_of_methodNamed Bd.named
  have hnm := (name_of_methodNamed Bd.named Bd.method).1
  unfold f0_26
  refine own_pre (F' := T0.setTop (mkF m 28 #[.val (.int p0), .val (.int p1), .val (.int p2), .val (.int p3), .val (.int p4), .val (.int x5), .val (.int y0), .unset, .unset, .unset, .unset, .unset, .unset, .unset] [])) (fun _ k => XS.istore X0.here hx rfl (hb hby at_26) rfl (l' := #[.val (.int p0), .val (.int p1), .val (.int p2), .val (.int p3), .val (.int p4), .val (.int x5), .val (.int y0), .unset, .unset, .unset, .unset, .unset, .unset, .unset]) rfl k) ?_
  obtain ⟨T1, h1, X1, e1, E1, A1, D1, -, st'⟩ := newO X0 hx hZ hown (hw _ (List.mem_of_getElem? (i := 0) rfl)) (hw _ (List.mem_of_getElem? (i := 1) rfl)) (hw _ (List.mem_of_getElem? (i := 2) rfl)) e0 (g := (mkF m 28 #[.val (.int p0), .val (.int p1), .val (.int p2), .val (.int p3), .val (.int p4), .val (.int x5), .val (.int y0), .unset, .unset, .unset, .unset, .unset, .unset, .unset] [])) rfl (hb hby at_28) (by decide) (by decide)
  obtain ⟨b1, g1⟩ : ∃ z, z = h.size := ⟨_, rfl⟩
  rw [← g1] at A1 D1 st'
  have g_b1 : n0 ≤ b1 := Nat.le_trans SZ0 (Nat.le_of_eq g1.symm)
  have SZ1 : n0 ≤ h1.size := Nat.le_trans SZ0 E1.1
  have f2 : Fld Z h1 b1 "com/example/recital/recital/Place" "line" "I" (.int (0 : Int32)) := D1 (Or.inr (hw _ (List.mem_of_getElem? (i := 15) rfl))) (ty := .int) (by decide)
  have f3 : Fld Z h1 b1 "com/example/recital/recital/Place" "column" "I" (.int (0 : Int32)) := D1 (Or.inr (hw _ (List.mem_of_getElem? (i := 17) rfl))) (ty := .int) (by decide)
  refine own_pre (F' := T1.setTop (mkF m 31 #[.val (.int p0), .val (.int p1), .val (.int p2), .val (.int p3), .val (.int p4), .val (.int x5), .val (.int y0), .unset, .unset, .unset, .unset, .unset, .unset, .unset] [(.ref b1)])) (fun t k => st' t k) ?_
  refine own_pre (F' := T1.setTop (mkF m 32 #[.val (.int p0), .val (.int p1), .val (.int p2), .val (.int p3), .val (.int p4), .val (.int x5), .val (.int y0), .unset, .unset, .unset, .unset, .unset, .unset, .unset] [(.ref b1), (.ref b1)])) (fun _ k => XS.dup X1.here hx rfl (hb hby at_31) rfl rfl k) ?_
  refine own_pre (F' := T1.setTop (mkF m 33 #[.val (.int p0), .val (.int p1), .val (.int p2), .val (.int p3), .val (.int p4), .val (.int x5), .val (.int y0), .unset, .unset, .unset, .unset, .unset, .unset, .unset] [(.int p0), (.ref b1), (.ref b1)])) (fun _ k => XS.iloadN X1.here hx rfl (hb hby at_32) rfl k) ?_
  refine own_pre (F' := T1.setTop (mkF m 34 #[.val (.int p0), .val (.int p1), .val (.int p2), .val (.int p3), .val (.int p4), .val (.int x5), .val (.int y0), .unset, .unset, .unset, .unset, .unset, .unset, .unset] [(.int p1), (.int p0), (.ref b1), (.ref b1)])) (fun _ k => XS.iloadN X1.here hx rfl (hb hby at_33) rfl k) ?_
  obtain ⟨_, _, ⟨T4, L4, k4, n4⟩, -, X4', ⟨Lc4, hQ4, l4, y4, z4⟩, st'⟩ := X1.specialBack hx (y := (⟨"com/example/recital/recital/Place", "<init>", "(II)V"⟩ : MethodName)) rfl hown (mvT hZ (hw _ (List.mem_of_getElem? (i := 3) rfl))) (mvT hZ (hw _ (List.mem_of_getElem? (i := 4) rfl))) (mvT hZ (hw _ (List.mem_of_getElem? (i := 5) rfl))) (by decide) (backOf (W := 1) (rm1 l Z aw hw [] p0 p1 (0 : Int32) (0 : Int32) b1 h1 n0 SZ1 A1 f2 f3 g_b1) hZ (hw _ (List.mem_of_getElem? (i := 5) rfl)) (hw _ (List.mem_of_getElem? (i := 2) rfl)) (by decide) (by decide)) (g := (mkF m 34 #[.val (.int p0), .val (.int p1), .val (.int p2), .val (.int p3), .val (.int p4), .val (.int x5), .val (.int y0), .unset, .unset, .unset, .unset, .unset, .unset, .unset] [(.int p1), (.int p0), (.ref b1), (.ref b1)])) rfl (by rw [hml]; rfl) (Steps.refl _) (a := b1) (argsL := [(.int p0), (.int p1)]) (rest := [(.ref b1)]) (lenOf own_pd1 rfl) rfl (by show 2 * 0 + _ ≤ _; exact Nat.le_of_eq rfl) (hb hby at_34) (fun _ _ => ⟨rfl, e1, (by decide : 1 + 0 ≤ _), (by decide : 2 + 0 ≤ _)⟩)
  dsimp only [Pt.U, Pt.locs, Pt.cells, Pt.slots] at X4' l4 y4 z4 st' hQ4
  subst l4 y4 z4
  obtain ⟨rfl, NFq4, KPq4, fe4_0, ff4_0_line, ff4_0_column⟩ := hQ4
  have X4 : Stand p l e room_1 s m #[(.int p0), (.int p1), (.int p2), (.int p3), (.int p4)] below meth c T4 _ 1 2 := X4'
  have NF4 := Fr.app NF0 NFq4
  have SZ4 : n0 ≤ T4.heap.size := Nat.le_trans SZ1 KPq4.1
  have f5 := A1.keep KPq4
  refine own_pre (F' := T4.setTop (mkF m 37 #[.val (.int p0), .val (.int p1), .val (.int p2), .val (.int p3), .val (.int p4), .val (.int x5), .val (.int y0), .unset, .unset, .unset, .unset, .unset, .unset, .unset] [(.ref b1)])) (fun t k => st'.trans k) ?_
  refine own_pre (F' := T4.setTop (mkF m 39 #[.val (.int p0), .val (.int p1), .val (.int p2), .val (.int p3), .val (.int p4), .val (.int x5), .val (.int y0), .val (.ref b1), .unset, .unset, .unset, .unset, .unset, .unset] [])) (fun _ k => XS.astore X4.here hx rfl (hb hby at_37) rfl rfl (l' := #[.val (.int p0), .val (.int p1), .val (.int p2), .val (.int p3), .val (.int p4), .val (.int x5), .val (.int y0), .val (.ref b1), .unset, .unset, .unset, .unset, .unset, .unset]) rfl k) ?_
  refine own_pre (F' := T4.setTop (mkF m 41 #[.val (.int p0), .val (.int p1), .val (.int p2), .val (.int p3), .val (.int p4), .val (.int x5), .val (.int y0), .val (.ref b1), .unset, .unset, .unset, .unset, .unset, .unset] [(.ref b1)])) (fun _ k => XS.aload X4.here hx rfl (hb hby at_39) rfl rfl k) ?_
  refine own_pre (F' := T4.setTop (mkF m 43 #[.val (.int p0), .val (.int p1), .val (.int p2), .val (.int p3), .val (.int p4), .val (.int x5), .val (.int y0), .val (.ref b1), .unset, .unset, .unset, .unset, .unset, .unset] [(.int x5), (.ref b1)])) (fun _ k => XS.iload X4.here hx rfl (hb hby at_41) rfl k) ?_
  refine own_pre (F' := T4.setTop (mkF m 45 #[.val (.int p0), .val (.int p1), .val (.int p2), .val (.int p3), .val (.int p4), .val (.int x5), .val (.int y0), .val (.ref b1), .unset, .unset, .unset, .unset, .unset, .unset] [(.int y0), (.int x5), (.ref b1)])) (fun _ k => XS.iload X4.here hx rfl (hb hby at_43) rfl k) ?_
  obtain ⟨cq6, kq6, qa6, qb6, qc6⟩ := isOf hZ (rfl : T4.heap = T4.heap) fe4_0
  obtain ⟨_, _, ⟨T6, L6, k6, n6⟩, -, X6', ⟨Lc6, hQ6, l6, y6, z6⟩, st'⟩ := X4.virtualBack hx (y := (⟨"com/example/recital/recital/Place", "isAfter", "(II)Z"⟩ : MethodName)) (z := (⟨"com/example/recital/recital/Place", "isAfter", "(II)Z"⟩ : MethodName)) hown (mvT hZ (hw _ (List.mem_of_getElem? (i := 18) rfl))) (mvT hZ (hw _ (List.mem_of_getElem? (i := 19) rfl))) (notFace_of_selects (args := #[]) (mvT hZ (hw _ (List.mem_of_getElem? (i := 21) rfl)))) (mvT hZ (hw _ (List.mem_of_getElem? (i := 21) rfl))) (mvT hZ (hw _ (List.mem_of_getElem? (i := 20) rfl))) (by decide) (backOf (W := 0) (rm4 l Z aw hw [] x5 y0 (f1_0 p0 p1 (0 : Int32) (0 : Int32)).1 (f1_0 p0 p1 (0 : Int32) (0 : Int32)).2 b1 T4.heap n0 SZ4 fe4_0 ff4_0_line ff4_0_column) hZ (hw _ (List.mem_of_getElem? (i := 22) rfl)) (hw _ (List.mem_of_getElem? (i := 2) rfl)) (by decide) (by decide)) qa6 qc6 (g := (mkF m 45 #[.val (.int p0), .val (.int p1), .val (.int p2), .val (.int p3), .val (.int p4), .val (.int x5), .val (.int y0), .val (.ref b1), .unset, .unset, .unset, .unset, .unset, .unset] [(.int y0), (.int x5), (.ref b1)])) rfl (by rw [hml]; rfl) (Steps.refl _) (argsL := [(.int x5), (.int y0)]) (rest := []) (lenOf own_pd2 rfl) rfl (by show 2 * 0 + _ ≤ _; exact Nat.le_of_eq rfl) (hb hby at_45) (fun _ _ => ⟨rfl, (rfl : T4.heap = T4.heap), (by decide : 1 + 0 ≤ _), (by decide : 2 + 0 ≤ _)⟩)
  dsimp only [Pt.U, Pt.locs, Pt.cells, Pt.slots] at X6' l6 y6 z6 st' hQ6
  subst l6 y6 z6
  obtain ⟨rfl, NFq6, KPq6⟩ := hQ6
  have X6 : Stand p l e room_1 s m #[(.int p0), (.int p1), (.int p2), (.int p3), (.int p4)] below meth c T6 _ 1 2 := X6'
  have NF6 := Fr.app NF4 NFq6
  have SZ6 : n0 ≤ T6.heap.size := Nat.le_trans SZ4 KPq6.1
  have f7 := fe4_0.keep KPq6
  have f8 := ff4_0_line.keep KPq6 nin0
  have f9 := ff4_0_column.keep KPq6 nin0
  refine own_pre (F' := T6.setTop (mkF m 48 #[.val (.int p0), .val (.int p1), .val (.int p2), .val (.int p3), .val (.int p4), .val (.int x5), .val (.int y0), .val (.ref b1), .unset, .unset, .unset, .unset, .unset, .unset] [(.int (f4_0 x5 y0 (f1_0 p0 p1 (0 : Int32) (0 : Int32)).1 (f1_0 p0 p1 (0 : Int32) (0 : Int32)).2))])) (fun t k => st'.trans k) ?_
  refine own_pre (F' := T6.setTop (mkF m 50 #[.val (.int p0), .val (.int p1), .val (.int p2), .val (.int p3), .val (.int p4), .val (.int x5), .val (.int y0), .val (.ref b1), .val (.int (f4_0 x5 y0 (f1_0 p0 p1 (0 : Int32) (0 : Int32)).1 (f1_0 p0 p1 (0 : Int32) (0 : Int32)).2)), .unset, .unset, .unset, .unset, .unset] [])) (fun _ k => XS.istore X6.here hx rfl (hb hby at_48) rfl (l' := #[.val (.int p0), .val (.int p1), .val (.int p2), .val (.int p3), .val (.int p4), .val (.int x5), .val (.int y0), .val (.ref b1), .val (.int (f4_0 x5 y0 (f1_0 p0 p1 (0 : Int32) (0 : Int32)).1 (f1_0 p0 p1 (0 : Int32) (0 : Int32)).2)), .unset, .unset, .unset, .unset, .unset]) rfl k) ?_
  refine own_pre (F' := T6.setTop (mkF m 51 #[.val (.int p0), .val (.int p1), .val (.int p2), .val (.int p3), .val (.int p4), .val (.int x5), .val (.int y0), .val (.ref b1), .val (.int (f4_0 x5 y0 (f1_0 p0 p1 (0 : Int32) (0 : Int32)).1 (f1_0 p0 p1 (0 : Int32) (0 : Int32)).2)), .unset, .unset, .unset, .unset, .unset] [(.int p0)])) (fun _ k => XS.iloadN X6.here hx rfl (hb hby at_50) rfl k) ?_
  refine own_pre (F' := T6.setTop (mkF m 52 #[.val (.int p0), .val (.int p1), .val (.int p2), .val (.int p3), .val (.int p4), .val (.int x5), .val (.int y0), .val (.ref b1), .val (.int (f4_0 x5 y0 (f1_0 p0 p1 (0 : Int32) (0 : Int32)).1 (f1_0 p0 p1 (0 : Int32) (0 : Int32)).2)), .unset, .unset, .unset, .unset, .unset] [(.long (p0.toInt64))])) (fun _ k => XS.i2l X6.here hx rfl (hb hby at_51) rfl k) ?_
  refine own_pre (F' := T6.setTop (mkF m 54 #[.val (.int p0), .val (.int p1), .val (.int p2), .val (.int p3), .val (.int p4), .val (.int x5), .val (.int y0), .val (.ref b1), .val (.int (f4_0 x5 y0 (f1_0 p0 p1 (0 : Int32) (0 : Int32)).1 (f1_0 p0 p1 (0 : Int32) (0 : Int32)).2)), .unset, .unset, .unset, .unset, .unset] [(.int x5), (.long (p0.toInt64))])) (fun _ k => XS.iload X6.here hx rfl (hb hby at_52) rfl k) ?_
  refine own_pre (F' := T6.setTop (mkF m 55 #[.val (.int p0), .val (.int p1), .val (.int p2), .val (.int p3), .val (.int p4), .val (.int x5), .val (.int y0), .val (.ref b1), .val (.int (f4_0 x5 y0 (f1_0 p0 p1 (0 : Int32) (0 : Int32)).1 (f1_0 p0 p1 (0 : Int32) (0 : Int32)).2)), .unset, .unset, .unset, .unset, .unset] [(.long (x5.toInt64)), (.long (p0.toInt64))])) (fun _ k => XS.i2l X6.here hx rfl (hb hby at_54) rfl k) ?_
  refine own_pre (F' := T6.setTop (mkF m 56 #[.val (.int p0), .val (.int p1), .val (.int p2), .val (.int p3), .val (.int p4), .val (.int x5), .val (.int y0), .val (.ref b1), .val (.int (f4_0 x5 y0 (f1_0 p0 p1 (0 : Int32) (0 : Int32)).1 (f1_0 p0 p1 (0 : Int32) (0 : Int32)).2)), .unset, .unset, .unset, .unset, .unset] [(.long ((p0.toInt64) - (x5.toInt64)))])) (fun _ k => XS.lsub X6.here hx rfl (hb hby at_55) rfl k) ?_
  refine own_pre (F' := T6.setTop (mkF m 58 #[.val (.int p0), .val (.int p1), .val (.int p2), .val (.int p3), .val (.int p4), .val (.int x5), .val (.int y0), .val (.ref b1), .val (.int (f4_0 x5 y0 (f1_0 p0 p1 (0 : Int32) (0 : Int32)).1 (f1_0 p0 p1 (0 : Int32) (0 : Int32)).2)), .val (.long ((p0.toInt64) - (x5.toInt64))), .second, .unset, .unset, .unset] [])) (fun _ k => XS.lstore X6.here hx rfl (hb hby at_56) rfl (l' := #[.val (.int p0), .val (.int p1), .val (.int p2), .val (.int p3), .val (.int p4), .val (.int x5), .val (.int y0), .val (.ref b1), .val (.int (f4_0 x5 y0 (f1_0 p0 p1 (0 : Int32) (0 : Int32)).1 (f1_0 p0 p1 (0 : Int32) (0 : Int32)).2)), .val (.long ((p0.toInt64) - (x5.toInt64))), .second, .unset, .unset, .unset]) rfl k) ?_
  refine own_pre (F' := T6.setTop (mkF m 59 #[.val (.int p0), .val (.int p1), .val (.int p2), .val (.int p3), .val (.int p4), .val (.int x5), .val (.int y0), .val (.ref b1), .val (.int (f4_0 x5 y0 (f1_0 p0 p1 (0 : Int32) (0 : Int32)).1 (f1_0 p0 p1 (0 : Int32) (0 : Int32)).2)), .val (.long ((p0.toInt64) - (x5.toInt64))), .second, .unset, .unset, .unset] [(.int p1)])) (fun _ k => XS.iloadN X6.here hx rfl (hb hby at_58) rfl k) ?_
  refine own_pre (F' := T6.setTop (mkF m 60 #[.val (.int p0), .val (.int p1), .val (.int p2), .val (.int p3), .val (.int p4), .val (.int x5), .val (.int y0), .val (.ref b1), .val (.int (f4_0 x5 y0 (f1_0 p0 p1 (0 : Int32) (0 : Int32)).1 (f1_0 p0 p1 (0 : Int32) (0 : Int32)).2)), .val (.long ((p0.toInt64) - (x5.toInt64))), .second, .unset, .unset, .unset] [(.long (p1.toInt64))])) (fun _ k => XS.i2l X6.here hx rfl (hb hby at_59) rfl k) ?_
  refine own_pre (F' := T6.setTop (mkF m 62 #[.val (.int p0), .val (.int p1), .val (.int p2), .val (.int p3), .val (.int p4), .val (.int x5), .val (.int y0), .val (.ref b1), .val (.int (f4_0 x5 y0 (f1_0 p0 p1 (0 : Int32) (0 : Int32)).1 (f1_0 p0 p1 (0 : Int32) (0 : Int32)).2)), .val (.long ((p0.toInt64) - (x5.toInt64))), .second, .unset, .unset, .unset] [(.int y0), (.long (p1.toInt64))])) (fun _ k => XS.iload X6.here hx rfl (hb hby at_60) rfl k) ?_
  refine own_pre (F' := T6.setTop (mkF m 63 #[.val (.int p0), .val (.int p1), .val (.int p2), .val (.int p3), .val (.int p4), .val (.int x5), .val (.int y0), .val (.ref b1), .val (.int (f4_0 x5 y0 (f1_0 p0 p1 (0 : Int32) (0 : Int32)).1 (f1_0 p0 p1 (0 : Int32) (0 : Int32)).2)), .val (.long ((p0.toInt64) - (x5.toInt64))), .second, .unset, .unset, .unset] [(.long (y0.toInt64)), (.long (p1.toInt64))])) (fun _ k => XS.i2l X6.here hx rfl (hb hby at_62) rfl k) ?_
  refine own_pre (F' := T6.setTop (mkF m 64 #[.val (.int p0), .val (.int p1), .val (.int p2), .val (.int p3), .val (.int p4), .val (.int x5), .val (.int y0), .val (.ref b1), .val (.int (f4_0 x5 y0 (f1_0 p0 p1 (0 : Int32) (0 : Int32)).1 (f1_0 p0 p1 (0 : Int32) (0 : Int32)).2)), .val (.long ((p0.toInt64) - (x5.toInt64))), .second, .unset, .unset, .unset] [(.long ((p1.toInt64) - (y0.toInt64)))])) (fun _ k => XS.lsub X6.here hx rfl (hb hby at_63) rfl k) ?_
  refine own_pre (F' := T6.setTop (mkF m 66 #[.val (.int p0), .val (.int p1), .val (.int p2), .val (.int p3), .val (.int p4), .val (.int x5), .val (.int y0), .val (.ref b1), .val (.int (f4_0 x5 y0 (f1_0 p0 p1 (0 : Int32) (0 : Int32)).1 (f1_0 p0 p1 (0 : Int32) (0 : Int32)).2)), .val (.long ((p0.toInt64) - (x5.toInt64))), .second, .val (.long ((p1.toInt64) - (y0.toInt64))), .second, .unset] [])) (fun _ k => XS.lstore X6.here hx rfl (hb hby at_64) rfl (l' := #[.val (.int p0), .val (.int p1), .val (.int p2), .val (.int p3), .val (.int p4), .val (.int x5), .val (.int y0), .val (.ref b1), .val (.int (f4_0 x5 y0 (f1_0 p0 p1 (0 : Int32) (0 : Int32)).1 (f1_0 p0 p1 (0 : Int32) (0 : Int32)).2)), .val (.long ((p0.toInt64) - (x5.toInt64))), .second, .val (.long ((p1.toInt64) - (y0.toInt64))), .second, .unset]) rfl k) ?_
  refine own_pre (F' := T6.setTop (mkF m 68 #[.val (.int p0), .val (.int p1), .val (.int p2), .val (.int p3), .val (.int p4), .val (.int x5), .val (.int y0), .val (.ref b1), .val (.int (f4_0 x5 y0 (f1_0 p0 p1 (0 : Int32) (0 : Int32)).1 (f1_0 p0 p1 (0 : Int32) (0 : Int32)).2)), .val (.long ((p0.toInt64) - (x5.toInt64))), .second, .val (.long ((p1.toInt64) - (y0.toInt64))), .second, .unset] [(.long ((p0.toInt64) - (x5.toInt64)))])) (fun _ k => XS.lload X6.here hx rfl (hb hby at_66) rfl k) ?_
  refine own_pre (F' := T6.setTop (mkF m 69 #[.val (.int p0), .val (.int p1), .val (.int p2), .val (.int p3), .val (.int p4), .val (.int x5), .val (.int y0), .val (.ref b1), .val (.int (f4_0 x5 y0 (f1_0 p0 p1 (0 : Int32) (0 : Int32)).1 (f1_0 p0 p1 (0 : Int32) (0 : Int32)).2)), .val (.long ((p0.toInt64) - (x5.toInt64))), .second, .val (.long ((p1.toInt64) - (y0.toInt64))), .second, .unset] [(.long (0 : Int64)), (.long ((p0.toInt64) - (x5.toInt64)))])) (fun _ k => XS.lconst X6.here hx rfl (hb hby at_68) k) ?_
  refine own_pre (F' := T6.setTop (mkF m 70 #[.val (.int p0), .val (.int p1), .val (.int p2), .val (.int p3), .val (.int p4), .val (.int x5), .val (.int y0), .val (.ref b1), .val (.int (f4_0 x5 y0 (f1_0 p0 p1 (0 : Int32) (0 : Int32)).1 (f1_0 p0 p1 (0 : Int32) (0 : Int32)).2)), .val (.long ((p0.toInt64) - (x5.toInt64))), .second, .val (.long ((p1.toInt64) - (y0.toInt64))), .second, .unset] [(.int (lcmpW ((p0.toInt64) - (x5.toInt64)) (0 : Int64)))])) (fun _ k => XS.lcmp X6.here hx rfl (hb hby at_69) rfl k) ?_
  refine own_iteT R0 (K0 Z  h0 n0) (fun hc70 => ?_) (fun hc70 => ?_)
  · skip
    refine own_pre (F' := T6.setTop (mkF m 73 #[.val (.int p0), .val (.int p1), .val (.int p2), .val (.int p3), .val (.int p4), .val (.int x5), .val (.int y0), .val (.ref b1), .val (.int (f4_0 x5 y0 (f1_0 p0 p1 (0 : Int32) (0 : Int32)).1 (f1_0 p0 p1 (0 : Int32) (0 : Int32)).2)), .val (.long ((p0.toInt64) - (x5.toInt64))), .second, .val (.long ((p1.toInt64) - (y0.toInt64))), .second, .unset] [])) (fun _ k => XS.ifNo X6.here hx rfl (hb hby at_70) rfl ((if0 _ _).trans (tlt ((lw_gt _ _).mpr hc70)).2.2.2) k) ?_
    refine own_pre (F' := T6.setTop (mkF m 74 #[.val (.int p0), .val (.int p1), .val (.int p2), .val (.int p3), .val (.int p4), .val (.int x5), .val (.int y0), .val (.ref b1), .val (.int (f4_0 x5 y0 (f1_0 p0 p1 (0 : Int32) (0 : Int32)).1 (f1_0 p0 p1 (0 : Int32) (0 : Int32)).2)), .val (.long ((p0.toInt64) - (x5.toInt64))), .second, .val (.long ((p1.toInt64) - (y0.toInt64))), .second, .unset] [(.int (1 : Int32))])) (fun _ k => XS.iconst X6.here hx rfl (hb hby at_73) k) ?_
    refine own_pre (F' := T6.setTop (mkF m 76 #[.val (.int p0), .val (.int p1), .val (.int p2), .val (.int p3), .val (.int p4), .val (.int x5), .val (.int y0), .val (.ref b1), .val (.int (f4_0 x5 y0 (f1_0 p0 p1 (0 : Int32) (0 : Int32)).1 (f1_0 p0 p1 (0 : Int32) (0 : Int32)).2)), .val (.long ((p0.toInt64) - (x5.toInt64))), .second, .val (.long ((p1.toInt64) - (y0.toInt64))), .second, .val (.int (1 : Int32))] [])) (fun _ k => XS.istore X6.here hx rfl (hb hby at_74) rfl (l' := #[.val (.int p0), .val (.int p1), .val (.int p2), .val (.int p3), .val (.int p4), .val (.int x5), .val (.int y0), .val (.ref b1), .val (.int (f4_0 x5 y0 (f1_0 p0 p1 (0 : Int32) (0 : Int32)).1 (f1_0 p0 p1 (0 : Int32) (0 : Int32)).2)), .val (.long ((p0.toInt64) - (x5.toInt64))), .second, .val (.long ((p1.toInt64) - (y0.toInt64))), .second, .val (.int (1 : Int32))]) rfl k) ?_
    refine own_pre (F' := T6.setTop (mkF m 106 #[.val (.int p0), .val (.int p1), .val (.int p2), .val (.int p3), .val (.int p4), .val (.int x5), .val (.int y0), .val (.ref b1), .val (.int (f4_0 x5 y0 (f1_0 p0 p1 (0 : Int32) (0 : Int32)).1 (f1_0 p0 p1 (0 : Int32) (0 : Int32)).2)), .val (.long ((p0.toInt64) - (x5.toInt64))), .second, .val (.long ((p1.toInt64) - (y0.toInt64))), .second, .val (.int (1 : Int32))] [])) (fun _ k => XS.goto X6.here hx rfl (pc0 := 76) (pc' := 106) rfl (hb hby at_76) (by decide) (by decide) k) ?_
    exact g0_106 hw p0 p1 p2 p3 p4  x5 y0 b1 (f4_0 x5 y0 (f1_0 p0 p1 (0 : Int32) (0 : Int32)).1 (f1_0 p0 p1 (0 : Int32) (0 : Int32)).2) ((p0.toInt64) - (x5.toInt64)) ((p1.toInt64) - (y0.toInt64)) (1 : Int32) Bd hml hZ T6 X6 (rfl : T6.heap = T6.heap) SZ6 NF6
  · skip
    refine own_pre (F' := T6.setTop (mkF m 79 #[.val (.int p0), .val (.int p1), .val (.int p2), .val (.int p3), .val (.int p4), .val (.int x5), .val (.int y0), .val (.ref b1), .val (.int (f4_0 x5 y0 (f1_0 p0 p1 (0 : Int32) (0 : Int32)).1 (f1_0 p0 p1 (0 : Int32) (0 : Int32)).2)), .val (.long ((p0.toInt64) - (x5.toInt64))), .second, .val (.long ((p1.toInt64) - (y0.toInt64))), .second, .unset] [])) (fun _ k => XS.ifYes X6.here hx rfl (pc0 := 70) (pc' := 79) rfl (hb hby at_70) rfl ((if0 _ _).trans (flt (fun q => hc70 ((lw_gt _ _).mp q))).2.2.2) (by decide) (by decide) k) ?_
    refine own_pre (F' := T6.setTop (mkF m 81 #[.val (.int p0), .val (.int p1), .val (.int p2), .val (.int p3), .val (.int p4), .val (.int x5), .val (.int y0), .val (.ref b1), .val (.int (f4_0 x5 y0 (f1_0 p0 p1 (0 : Int32) (0 : Int32)).1 (f1_0 p0 p1 (0 : Int32) (0 : Int32)).2)), .val (.long ((p0.toInt64) - (x5.toInt64))), .second, .val (.long ((p1.toInt64) - (y0.toInt64))), .second, .unset] [(.long ((p0.toInt64) - (x5.toInt64)))])) (fun _ k => XS.lload X6.here hx rfl (hb hby at_79) rfl k) ?_
    refine own_pre (F' := T6.setTop (mkF m 82 #[.val (.int p0), .val (.int p1), .val (.int p2), .val (.int p3), .val (.int p4), .val (.int x5), .val (.int y0), .val (.ref b1), .val (.int (f4_0 x5 y0 (f1_0 p0 p1 (0 : Int32) (0 : Int32)).1 (f1_0 p0 p1 (0 : Int32) (0 : Int32)).2)), .val (.long ((p0.toInt64) - (x5.toInt64))), .second, .val (.long ((p1.toInt64) - (y0.toInt64))), .second, .unset] [(.long (0 : Int64)), (.long ((p0.toInt64) - (x5.toInt64)))])) (fun _ k => XS.lconst X6.here hx rfl (hb hby at_81) k) ?_
    refine own_pre (F' := T6.setTop (mkF m 83 #[.val (.int p0), .val (.int p1), .val (.int p2), .val (.int p3), .val (.int p4), .val (.int x5), .val (.int y0), .val (.ref b1), .val (.int (f4_0 x5 y0 (f1_0 p0 p1 (0 : Int32) (0 : Int32)).1 (f1_0 p0 p1 (0 : Int32) (0 : Int32)).2)), .val (.long ((p0.toInt64) - (x5.toInt64))), .second, .val (.long ((p1.toInt64) - (y0.toInt64))), .second, .unset] [(.int (lcmpW ((p0.toInt64) - (x5.toInt64)) (0 : Int64)))])) (fun _ k => XS.lcmp X6.here hx rfl (hb hby at_82) rfl k) ?_
    refine own_iteT R0 (K0 Z  h0 n0) (fun hc83 => ?_) (fun hc83 => ?_)
    · skip
      refine own_pre (F' := T6.setTop (mkF m 86 #[.val (.int p0), .val (.int p1), .val (.int p2), .val (.int p3), .val (.int p4), .val (.int x5), .val (.int y0), .val (.ref b1), .val (.int (f4_0 x5 y0 (f1_0 p0 p1 (0 : Int32) (0 : Int32)).1 (f1_0 p0 p1 (0 : Int32) (0 : Int32)).2)), .val (.long ((p0.toInt64) - (x5.toInt64))), .second, .val (.long ((p1.toInt64) - (y0.toInt64))), .second, .unset] [])) (fun _ k => XS.ifNo X6.here hx rfl (hb hby at_83) rfl ((if0 _ _).trans (tlt ((lw_lt _ _).mpr hc83)).2.1) k) ?_
      refine own_pre (F' := T6.setTop (mkF m 87 #[.val (.int p0), .val (.int p1), .val (.int p2), .val (.int p3), .val (.int p4), .val (.int x5), .val (.int y0), .val (.ref b1), .val (.int (f4_0 x5 y0 (f1_0 p0 p1 (0 : Int32) (0 : Int32)).1 (f1_0 p0 p1 (0 : Int32) (0 : Int32)).2)), .val (.long ((p0.toInt64) - (x5.toInt64))), .second, .val (.long ((p1.toInt64) - (y0.toInt64))), .second, .unset] [(.int (0 : Int32))])) (fun _ k => XS.iconst X6.here hx rfl (hb hby at_86) k) ?_
      refine own_pre (F' := T6.setTop (mkF m 89 #[.val (.int p0), .val (.int p1), .val (.int p2), .val (.int p3), .val (.int p4), .val (.int x5), .val (.int y0), .val (.ref b1), .val (.int (f4_0 x5 y0 (f1_0 p0 p1 (0 : Int32) (0 : Int32)).1 (f1_0 p0 p1 (0 : Int32) (0 : Int32)).2)), .val (.long ((p0.toInt64) - (x5.toInt64))), .second, .val (.long ((p1.toInt64) - (y0.toInt64))), .second, .val (.int (0 : Int32))] [])) (fun _ k => XS.istore X6.here hx rfl (hb hby at_87) rfl (l' := #[.val (.int p0), .val (.int p1), .val (.int p2), .val (.int p3), .val (.int p4), .val (.int x5), .val (.int y0), .val (.ref b1), .val (.int (f4_0 x5 y0 (f1_0 p0 p1 (0 : Int32) (0 : Int32)).1 (f1_0 p0 p1 (0 : Int32) (0 : Int32)).2)), .val (.long ((p0.toInt64) - (x5.toInt64))), .second, .val (.long ((p1.toInt64) - (y0.toInt64))), .second, .val (.int (0 : Int32))]) rfl k) ?_
      refine own_pre (F' := T6.setTop (mkF m 106 #[.val (.int p0), .val (.int p1), .val (.int p2), .val (.int p3), .val (.int p4), .val (.int x5), .val (.int y0), .val (.ref b1), .val (.int (f4_0 x5 y0 (f1_0 p0 p1 (0 : Int32) (0 : Int32)).1 (f1_0 p0 p1 (0 : Int32) (0 : Int32)).2)), .val (.long ((p0.toInt64) - (x5.toInt64))), .second, .val (.long ((p1.toInt64) - (y0.toInt64))), .second, .val (.int (0 : Int32))] [])) (fun _ k => XS.goto X6.here hx rfl (pc0 := 89) (pc' := 106) rfl (hb hby at_89) (by decide) (by decide) k) ?_
      exact g0_106 hw p0 p1 p2 p3 p4  x5 y0 b1 (f4_0 x5 y0 (f1_0 p0 p1 (0 : Int32) (0 : Int32)).1 (f1_0 p0 p1 (0 : Int32) (0 : Int32)).2) ((p0.toInt64) - (x5.toInt64)) ((p1.toInt64) - (y0.toInt64)) (0 : Int32) Bd hml hZ T6 X6 (rfl : T6.heap = T6.heap) SZ6 NF6
    · skip
      refine own_pre (F' := T6.setTop (mkF m 92 #[.val (.int p0), .val (.int p1), .val (.int p2), .val (.int p3), .val (.int p4), .val (.int x5), .val (.int y0), .val (.ref b1), .val (.int (f4_0 x5 y0 (f1_0 p0 p1 (0 : Int32) (0 : Int32)).1 (f1_0 p0 p1 (0 : Int32) (0 : Int32)).2)), .val (.long ((p0.toInt64) - (x5.toInt64))), .second, .val (.long ((p1.toInt64) - (y0.toInt64))), .second, .unset] [])) (fun _ k => XS.ifYes X6.here hx rfl (pc0 := 83) (pc' := 92) rfl (hb hby at_83) rfl ((if0 _ _).trans (flt (fun q => hc83 ((lw_lt _ _).mp q))).2.1) (by decide) (by decide) k) ?_
      refine own_pre (F' := T6.setTop (mkF m 94 #[.val (.int p0), .val (.int p1), .val (.int p2), .val (.int p3), .val (.int p4), .val (.int x5), .val (.int y0), .val (.ref b1), .val (.int (f4_0 x5 y0 (f1_0 p0 p1 (0 : Int32) (0 : Int32)).1 (f1_0 p0 p1 (0 : Int32) (0 : Int32)).2)), .val (.long ((p0.toInt64) - (x5.toInt64))), .second, .val (.long ((p1.toInt64) - (y0.toInt64))), .second, .unset] [(.long ((p1.toInt64) - (y0.toInt64)))])) (fun _ k => XS.lload X6.here hx rfl (hb hby at_92) rfl k) ?_
      refine own_pre (F' := T6.setTop (mkF m 95 #[.val (.int p0), .val (.int p1), .val (.int p2), .val (.int p3), .val (.int p4), .val (.int x5), .val (.int y0), .val (.ref b1), .val (.int (f4_0 x5 y0 (f1_0 p0 p1 (0 : Int32) (0 : Int32)).1 (f1_0 p0 p1 (0 : Int32) (0 : Int32)).2)), .val (.long ((p0.toInt64) - (x5.toInt64))), .second, .val (.long ((p1.toInt64) - (y0.toInt64))), .second, .unset] [(.long (0 : Int64)), (.long ((p1.toInt64) - (y0.toInt64)))])) (fun _ k => XS.lconst X6.here hx rfl (hb hby at_94) k) ?_
      refine own_pre (F' := T6.setTop (mkF m 96 #[.val (.int p0), .val (.int p1), .val (.int p2), .val (.int p3), .val (.int p4), .val (.int x5), .val (.int y0), .val (.ref b1), .val (.int (f4_0 x5 y0 (f1_0 p0 p1 (0 : Int32) (0 : Int32)).1 (f1_0 p0 p1 (0 : Int32) (0 : Int32)).2)), .val (.long ((p0.toInt64) - (x5.toInt64))), .second, .val (.long ((p1.toInt64) - (y0.toInt64))), .second, .unset] [(.int (lcmpW ((p1.toInt64) - (y0.toInt64)) (0 : Int64)))])) (fun _ k => XS.lcmp X6.here hx rfl (hb hby at_95) rfl k) ?_
      refine own_iteT R0 (K0 Z  h0 n0) (fun hc96 => ?_) (fun hc96 => ?_)
      · skip
        refine own_pre (F' := T6.setTop (mkF m 99 #[.val (.int p0), .val (.int p1), .val (.int p2), .val (.int p3), .val (.int p4), .val (.int x5), .val (.int y0), .val (.ref b1), .val (.int (f4_0 x5 y0 (f1_0 p0 p1 (0 : Int32) (0 : Int32)).1 (f1_0 p0 p1 (0 : Int32) (0 : Int32)).2)), .val (.long ((p0.toInt64) - (x5.toInt64))), .second, .val (.long ((p1.toInt64) - (y0.toInt64))), .second, .unset] [])) (fun _ k => XS.ifNo X6.here hx rfl (hb hby at_96) rfl ((if0 _ _).trans (tlt ((lw_gt _ _).mpr hc96)).2.2.2) k) ?_
        refine own_pre (F' := T6.setTop (mkF m 100 #[.val (.int p0), .val (.int p1), .val (.int p2), .val (.int p3), .val (.int p4), .val (.int x5), .val (.int y0), .val (.ref b1), .val (.int (f4_0 x5 y0 (f1_0 p0 p1 (0 : Int32) (0 : Int32)).1 (f1_0 p0 p1 (0 : Int32) (0 : Int32)).2)), .val (.long ((p0.toInt64) - (x5.toInt64))), .second, .val (.long ((p1.toInt64) - (y0.toInt64))), .second, .unset] [(.int (1 : Int32))])) (fun _ k => XS.iconst X6.here hx rfl (hb hby at_99) k) ?_
        refine own_pre (F' := T6.setTop (mkF m 104 #[.val (.int p0), .val (.int p1), .val (.int p2), .val (.int p3), .val (.int p4), .val (.int x5), .val (.int y0), .val (.ref b1), .val (.int (f4_0 x5 y0 (f1_0 p0 p1 (0 : Int32) (0 : Int32)).1 (f1_0 p0 p1 (0 : Int32) (0 : Int32)).2)), .val (.long ((p0.toInt64) - (x5.toInt64))), .second, .val (.long ((p1.toInt64) - (y0.toInt64))), .second, .unset] [(.int (1 : Int32))])) (fun _ k => XS.goto X6.here hx rfl (pc0 := 100) (pc' := 104) rfl (hb hby at_100) (by decide) (by decide) k) ?_
        exact g0_104 hw p0 p1 p2 p3 p4  x5 y0 b1 (f4_0 x5 y0 (f1_0 p0 p1 (0 : Int32) (0 : Int32)).1 (f1_0 p0 p1 (0 : Int32) (0 : Int32)).2) ((p0.toInt64) - (x5.toInt64)) ((p1.toInt64) - (y0.toInt64)) (1 : Int32) Bd hml hZ T6 X6 (rfl : T6.heap = T6.heap) SZ6 NF6
      · skip
        refine own_pre (F' := T6.setTop (mkF m 103 #[.val (.int p0), .val (.int p1), .val (.int p2), .val (.int p3), .val (.int p4), .val (.int x5), .val (.int y0), .val (.ref b1), .val (.int (f4_0 x5 y0 (f1_0 p0 p1 (0 : Int32) (0 : Int32)).1 (f1_0 p0 p1 (0 : Int32) (0 : Int32)).2)), .val (.long ((p0.toInt64) - (x5.toInt64))), .second, .val (.long ((p1.toInt64) - (y0.toInt64))), .second, .unset] [])) (fun _ k => XS.ifYes X6.here hx rfl (pc0 := 96) (pc' := 103) rfl (hb hby at_96) rfl ((if0 _ _).trans (flt (fun q => hc96 ((lw_gt _ _).mp q))).2.2.2) (by decide) (by decide) k) ?_
        refine own_pre (F' := T6.setTop (mkF m 104 #[.val (.int p0), .val (.int p1), .val (.int p2), .val (.int p3), .val (.int p4), .val (.int x5), .val (.int y0), .val (.ref b1), .val (.int (f4_0 x5 y0 (f1_0 p0 p1 (0 : Int32) (0 : Int32)).1 (f1_0 p0 p1 (0 : Int32) (0 : Int32)).2)), .val (.long ((p0.toInt64) - (x5.toInt64))), .second, .val (.long ((p1.toInt64) - (y0.toInt64))), .second, .unset] [(.int (0 : Int32))])) (fun _ k => XS.iconst X6.here hx rfl (hb hby at_103) k) ?_
        exact g0_104 hw p0 p1 p2 p3 p4  x5 y0 b1 (f4_0 x5 y0 (f1_0 p0 p1 (0 : Int32) (0 : Int32)).1 (f1_0 p0 p1 (0 : Int32) (0 : Int32)).2) ((p0.toInt64) - (x5.toInt64)) ((p1.toInt64) - (y0.toInt64)) (0 : Int32) Bd hml hZ T6 X6 (rfl : T6.heap = T6.heap) SZ6 NF6
def f0_12 (p0 : Int32) (p1 : Int32) (p2 : Int32) (p3 : Int32) (p4 : Int32) (y0 : Int32) : Int32 := (if (p4 &&& (2 : Int32)) = (0 : Int32) then (f0_26 p0 p1 p2 p3 p4 y0 p3) else (f0_26 p0 p1 p2 p3 p4 y0 p1))
set_option maxRecDepth 65536 in
set_option maxHeartbeats 40000000 in
theorem g0_12 {p : Program} {l : Launch} {e : Env} {s : State} {m : MethodId} {below : List Frame} {meth : Method} {c : Code} {s₁ : State} {ws : List Jvm.Cond} {Z : State} {aw : Array Value} (hw : ∀ d ∈ tables_1, d.before aw Z = true) {h0 : Heap} {n0 : Nat} (p0 : Int32) (p1 : Int32) (p2 : Int32) (p3 : Int32) (p4 : Int32)  (y0 : Int32)
    (Bd : BodyLoose p l x (head1 (Jvm.Cond.code x code maxLocals ret :: ws) room_1) code maxLocals ret e s m #[(.int p0), (.int p1), (.int p2), (.int p3), (.int p4)] below meth c s₁) (hml : c.maxLocals = 14) (hZ : Z.Warmed39 s.vm) (T0 : State) {locs : List Loc} (X0 : Stand p l e room_1 s m #[(.int p0), (.int p1), (.int p2), (.int p3), (.int p4)] below meth c T0 locs 0 0) {h : Heap} (e0 : T0.heap = h) (SZ0 : n0 ≤ h.size) (NF0 : Fr n0 locs) :
    own_Go p e below s room_1.cells room_1.slots (R0 (f0_12 p0 p1 p2 p3 p4 y0)) (K0 Z  h0 n0 (f0_12 p0 p1 p2 p3 p4 y0)) (T0.setTop (mkF m 12 #[.val (.int p0), .val (.int p1), .val (.int p2), .val (.int p3), .val (.int p4), .unset, .unset, .unset, .unset, .unset, .unset, .unset, .unset, .unset] [(.int y0)])) := by
  have hx := Bd.exec
  have hby := Bd.bytes
  have hown : s.vm.findClass "com/example/recital/recital/PlaceIsAfterPinLaw" = some m.cls := findClass_of_methodNamed Bd.named
  have hnm := (name_of_methodNamed Bd.named Bd.method).1
  unfold f0_12
  refine own_pre (F' := T0.setTop (mkF m 14 #[.val (.int p0), .val (.int p1), .val (.int p2), .val (.int p3), .val (.int p4), .val (.int y0), .unset, .unset, .unset, .unset, .unset, .unset, .unset, .unset] [])) (fun _ k => XS.istore X0.here hx rfl (hb hby at_12) rfl (l' := #[.val (.int p0), .val (.int p1), .val (.int p2), .val (.int p3), .val (.int p4), .val (.int y0), .unset, .unset, .unset, .unset, .unset, .unset, .unset, .unset]) rfl k) ?_
  refine own_pre (F' := T0.setTop (mkF m 16 #[.val (.int p0), .val (.int p1), .val (.int p2), .val (.int p3), .val (.int p4), .val (.int y0), .unset, .unset, .unset, .unset, .unset, .unset, .unset, .unset] [(.int p4)])) (fun _ k => XS.iload X0.here hx rfl (hb hby at_14) rfl k) ?_
  refine own_pre (F' := T0.setTop (mkF m 17 #[.val (.int p0), .val (.int p1), .val (.int p2), .val (.int p3), .val (.int p4), .val (.int y0), .unset, .unset, .unset, .unset, .unset, .unset, .unset, .unset] [(.int (2 : Int32)), (.int p4)])) (fun _ k => XS.iconst X0.here hx rfl (hb hby at_16) k) ?_
  refine own_pre (F' := T0.setTop (mkF m 18 #[.val (.int p0), .val (.int p1), .val (.int p2), .val (.int p3), .val (.int p4), .val (.int y0), .unset, .unset, .unset, .unset, .unset, .unset, .unset, .unset] [(.int (p4 &&& (2 : Int32)))])) (fun _ k => XS.iand X0.here hx rfl (hb hby at_17) rfl k) ?_
  refine own_iteT R0 (K0 Z  h0 n0) (fun hc18 => ?_) (fun hc18 => ?_)
  · skip
    refine own_pre (F' := T0.setTop (mkF m 25 #[.val (.int p0), .val (.int p1), .val (.int p2), .val (.int p3), .val (.int p4), .val (.int y0), .unset, .unset, .unset, .unset, .unset, .unset, .unset, .unset] [])) (fun _ k => XS.ifYes X0.here hx rfl (pc0 := 18) (pc' := 25) rfl (hb hby at_18) rfl ((if0 _ _).trans (teq hc18).1) (by decide) (by decide) k) ?_
    refine own_pre (F' := T0.setTop (mkF m 26 #[.val (.int p0), .val (.int p1), .val (.int p2), .val (.int p3), .val (.int p4), .val (.int y0), .unset, .unset, .unset, .unset, .unset, .unset, .unset, .unset] [(.int p3)])) (fun _ k => XS.iloadN X0.here hx rfl (hb hby at_25) rfl k) ?_
    exact g0_26 hw p0 p1 p2 p3 p4  y0 p3 Bd hml hZ T0 X0 e0 SZ0 NF0
  · skip
    refine own_pre (F' := T0.setTop (mkF m 21 #[.val (.int p0), .val (.int p1), .val (.int p2), .val (.int p3), .val (.int p4), .val (.int y0), .unset, .unset, .unset, .unset, .unset, .unset, .unset, .unset] [])) (fun _ k => XS.ifNo X0.here hx rfl (hb hby at_18) rfl ((if0 _ _).trans (feq hc18).1) k) ?_
    refine own_pre (F' := T0.setTop (mkF m 22 #[.val (.int p0), .val (.int p1), .val (.int p2), .val (.int p3), .val (.int p4), .val (.int y0), .unset, .unset, .unset, .unset, .unset, .unset, .unset, .unset] [(.int p1)])) (fun _ k => XS.iloadN X0.here hx rfl (hb hby at_21) rfl k) ?_
    refine own_pre (F' := T0.setTop (mkF m 26 #[.val (.int p0), .val (.int p1), .val (.int p2), .val (.int p3), .val (.int p4), .val (.int y0), .unset, .unset, .unset, .unset, .unset, .unset, .unset, .unset] [(.int p1)])) (fun _ k => XS.goto X0.here hx rfl (pc0 := 22) (pc' := 26) rfl (hb hby at_22) (by decide) (by decide) k) ?_
    exact g0_26 hw p0 p1 p2 p3 p4  y0 p1 Bd hml hZ T0 X0 e0 SZ0 NF0
def f0_0 (p0 : Int32) (p1 : Int32) (p2 : Int32) (p3 : Int32) (p4 : Int32) : Int32 := (if (p4 &&& (1 : Int32)) = (0 : Int32) then (f0_12 p0 p1 p2 p3 p4 p2) else (f0_12 p0 p1 p2 p3 p4 p0))
set_option maxRecDepth 65536 in
set_option maxHeartbeats 40000000 in
theorem g0_0 {p : Program} {l : Launch} {e : Env} {s : State} {m : MethodId} {below : List Frame} {meth : Method} {c : Code} {s₁ : State} {ws : List Jvm.Cond} {Z : State} {aw : Array Value} (hw : ∀ d ∈ tables_1, d.before aw Z = true) {h0 : Heap} {n0 : Nat} (p0 : Int32) (p1 : Int32) (p2 : Int32) (p3 : Int32) (p4 : Int32) 
    (Bd : BodyLoose p l x (head1 (Jvm.Cond.code x code maxLocals ret :: ws) room_1) code maxLocals ret e s m #[(.int p0), (.int p1), (.int p2), (.int p3), (.int p4)] below meth c s₁) (hml : c.maxLocals = 14) (hZ : Z.Warmed39 s.vm) (T0 : State) {locs : List Loc} (X0 : Stand p l e room_1 s m #[(.int p0), (.int p1), (.int p2), (.int p3), (.int p4)] below meth c T0 locs 0 0) (e0 : T0.heap = h0) (SZ0 : n0 ≤ h0.size) (NF0 : Fr n0 locs) :
    own_Go p e below s room_1.cells room_1.slots (R0 (f0_0 p0 p1 p2 p3 p4)) (K0 Z  h0 n0 (f0_0 p0 p1 p2 p3 p4)) (T0.setTop (mkF m 0 #[.val (.int p0), .val (.int p1), .val (.int p2), .val (.int p3), .val (.int p4), .unset, .unset, .unset, .unset, .unset, .unset, .unset, .unset, .unset] [])) := by
  have hx := Bd.exec
  have hby := Bd.bytes
  have hown : s.vm.findClass "com/example/recital/recital/PlaceIsAfterPinLaw" = some m.cls := findClass_of_methodNamed Bd.named
  have hnm := (name_of_methodNamed Bd.named Bd.method).1
  unfold f0_0
  refine own_pre (F' := T0.setTop (mkF m 2 #[.val (.int p0), .val (.int p1), .val (.int p2), .val (.int p3), .val (.int p4), .unset, .unset, .unset, .unset, .unset, .unset, .unset, .unset, .unset] [(.int p4)])) (fun _ k => XS.iload X0.here hx rfl (hb hby at_0) rfl k) ?_
  refine own_pre (F' := T0.setTop (mkF m 3 #[.val (.int p0), .val (.int p1), .val (.int p2), .val (.int p3), .val (.int p4), .unset, .unset, .unset, .unset, .unset, .unset, .unset, .unset, .unset] [(.int (1 : Int32)), (.int p4)])) (fun _ k => XS.iconst X0.here hx rfl (hb hby at_2) k) ?_
  refine own_pre (F' := T0.setTop (mkF m 4 #[.val (.int p0), .val (.int p1), .val (.int p2), .val (.int p3), .val (.int p4), .unset, .unset, .unset, .unset, .unset, .unset, .unset, .unset, .unset] [(.int (p4 &&& (1 : Int32)))])) (fun _ k => XS.iand X0.here hx rfl (hb hby at_3) rfl k) ?_
  refine own_iteT R0 (K0 Z  h0 n0) (fun hc4 => ?_) (fun hc4 => ?_)
  · skip
    refine own_pre (F' := T0.setTop (mkF m 11 #[.val (.int p0), .val (.int p1), .val (.int p2), .val (.int p3), .val (.int p4), .unset, .unset, .unset, .unset, .unset, .unset, .unset, .unset, .unset] [])) (fun _ k => XS.ifYes X0.here hx rfl (pc0 := 4) (pc' := 11) rfl (hb hby at_4) rfl ((if0 _ _).trans (teq hc4).1) (by decide) (by decide) k) ?_
    refine own_pre (F' := T0.setTop (mkF m 12 #[.val (.int p0), .val (.int p1), .val (.int p2), .val (.int p3), .val (.int p4), .unset, .unset, .unset, .unset, .unset, .unset, .unset, .unset, .unset] [(.int p2)])) (fun _ k => XS.iloadN X0.here hx rfl (hb hby at_11) rfl k) ?_
    exact g0_12 hw p0 p1 p2 p3 p4  p2 Bd hml hZ T0 X0 e0 SZ0 NF0
  · skip
    refine own_pre (F' := T0.setTop (mkF m 7 #[.val (.int p0), .val (.int p1), .val (.int p2), .val (.int p3), .val (.int p4), .unset, .unset, .unset, .unset, .unset, .unset, .unset, .unset, .unset] [])) (fun _ k => XS.ifNo X0.here hx rfl (hb hby at_4) rfl ((if0 _ _).trans (feq hc4).1) k) ?_
    refine own_pre (F' := T0.setTop (mkF m 8 #[.val (.int p0), .val (.int p1), .val (.int p2), .val (.int p3), .val (.int p4), .unset, .unset, .unset, .unset, .unset, .unset, .unset, .unset, .unset] [(.int p0)])) (fun _ k => XS.iloadN X0.here hx rfl (hb hby at_7) rfl k) ?_
    refine own_pre (F' := T0.setTop (mkF m 12 #[.val (.int p0), .val (.int p1), .val (.int p2), .val (.int p3), .val (.int p4), .unset, .unset, .unset, .unset, .unset, .unset, .unset, .unset, .unset] [(.int p0)])) (fun _ k => XS.goto X0.here hx rfl (pc0 := 8) (pc' := 12) rfl (hb hby at_8) (by decide) (by decide) k) ?_
    exact g0_12 hw p0 p1 p2 p3 p4  p0 Bd hml hZ T0 X0 e0 SZ0 NF0
theorem ef_0 (m : MethodId) (p0 : Int32) (p1 : Int32) (p2 : Int32) (p3 : Int32) (p4 : Int32) : entryFrame m #[(.int p0), (.int p1), (.int p2), (.int p3), (.int p4)] maxLocals = mkF m 0 #[.val (.int p0), .val (.int p1), .val (.int p2), .val (.int p3), .val (.int p4), .unset, .unset, .unset, .unset, .unset, .unset, .unset, .unset, .unset] [] := by first | (simp [entryFrame, mkF, argsToLocals, Value.category, maxLocals]; done) | rfl
set_option maxRecDepth 65536 in
set_option maxHeartbeats 40000000 in
theorem rm0 (l : Launch) (Z : State) (aw : Array Value) (hw : ∀ d ∈ tables_1, d.before aw Z = true) (ws : List Jvm.Cond) (p0 : Int32) (p1 : Int32) (p2 : Int32) (p3 : Int32) (p4 : Int32)  (h0 : Heap) (n0 : Nat) (SZ0 : n0 ≤ h0.size) :
    MetFree l x (head1 (Jvm.Cond.code x code maxLocals ret :: ws) room_1) (fun a U => a = #[(.int p0), (.int p1), (.int p2), (.int p3), (.int p4)] ∧ Z.Warmed39 U.vm ∧ U.heap = h0) (fun _ _ _ _ _ => True) (fun _ U o U' => ∃ v L, o = .returned v ∧ own_Q (R0 (f0_0 p0 p1 p2 p3 p4)) (K0 Z  h0 n0 (f0_0 p0 p1 p2 p3 p4)) v U'.heap L ∧ FrameEnd U o U' L room_1.cells room_1.slots) := by
  refine MetFree.of_bodySF (plainFor_of_name own_pn2) hisR ?_
  intro p e s m args below meth c s₁ Bd hml0 hP hK
  obtain ⟨rfl, hZ, hh⟩ := hP
  have hml : c.maxLocals = 14 := hml0
  have e0 : s₁.heap = h0 := by rw [← hh, Bd.state]; rfl
  exact own_pre (fun t k => castTop (ef_0 m p0 p1 p2 p3 p4) k) (g0_0 hw p0 p1 p2 p3 p4  Bd hml hZ s₁ (Stand.of_body Bd) e0 SZ0 (Fr.nil n0))
theorem own_d (x y : Int32) : (x.toInt64 - y.toInt64).toInt = x.toInt - y.toInt := by
  have h := c_lsub x.toInt64 y.toInt64
  rw [c_i2l, c_i2l] at h
  have r := rng64 (x.toInt64 - y.toInt64)
  have r1 := rng32 x
  have r2 := rng32 y
  omega
theorem own_p (x y : Int32) : (0 : Int64) < x.toInt64 - y.toInt64 ↔ y < x := by
  rw [Int64.lt_iff_toInt_lt, own_d, Int32.lt_iff_toInt_lt, show (0 : Int64).toInt = 0 from rfl]; omega
theorem own_n (x y : Int32) : x.toInt64 - y.toInt64 < (0 : Int64) ↔ x < y := by
  rw [Int64.lt_iff_toInt_lt, own_d, Int32.lt_iff_toInt_lt, show (0 : Int64).toInt = 0 from rfl]; omega
theorem own_mid (a b c d e x y : Int32) : f0_26 a b c d e x y = 1 := by
  simp only [f0_26, f0_104, f0_106, f4_0, f4_24, f4_28, f1_0, own_p, own_n]
  by_cases h1 : x < a
  · simp [h1]
  by_cases h2 : a < x
  · have : ¬ a = x := fun q => Int32.lt_irrefl (q ▸ h2)
    simp [h1, h2, this]
  have : a = x := by
    rw [Int32.lt_iff_toInt_lt] at h1 h2; exact Int32.toInt_inj.mp (by omega)
  by_cases h3 : y < b <;> simp [h1, h2, h3, this]
theorem own_law (a b c d e : Int32) : f0_0 a b c d e = 1 := by
  unfold f0_0; split <;> (unfold f0_12; split <;> exact own_mid _ _ _ _ _ _ _)
set_option maxRecDepth 65536 in
set_option maxHeartbeats 40000000 in
theorem comes_1 {Post : Tables → Env → Array Value → State → Outcome → State → Prop} (hpost : ∀ tb e args s v u, (limb_1_1.after args s (.returned v) u = true ∧ limb_1_2.after args s (.returned v) u = true ∧ True) → FrameEnd s (.returned v) u (Jvm.fieldLocs frame_1_writes args s ++ Jvm.arrayLocs frame_1_arrays args s ++ Jvm.staticLocs frame_1_statics s) 16 128 → Post tb e args s (.returned v) u) :
    ArmFor flags0 classFile x code maxLocals ret World_1 tables_1 room_1 Calls_1 rest_1 Pre_1 Post := by
  intro l hfl _ _ p e ha hc hk s m args below hf hA hF happ hP
  obtain ⟨hcalls, hrest, hpre⟩ := hP
  obtain ⟨-, -, -, hnamed, -, -, -, hat⟩ := (Spec.applies_iff hf).mp happ
  obtain ⟨hg, hn⟩ := and_e (Cond.before_iff.mp (show (Jvm.Cond.and given_1 narrow_1).before args s = true from hpre))
  obtain ⟨g1, g2⟩ := and_e hg
  obtain ⟨g3, g4⟩ := and_e g2
  obtain ⟨g5, g6⟩ := and_e g4
  obtain ⟨g7, g8⟩ := and_e g6
  obtain ⟨g9, g10⟩ := and_e g8
  obtain ⟨w0, w1, w2, w3, w4, rfl⟩ : ∃ w0 w1 w2 w3 w4 : Value, args = #[w0, w1, w2, w3, w4] := by
    have hs : args.size = 5 := by simpa [Cond.value, given_1] using g1
    obtain ⟨L⟩ := args
    match L, hs with
    | [w0, w1, w2, w3, w4], _ => exact ⟨w0, w1, w2, w3, w4, rfl⟩
  have hw := fun d (hd : d ∈ tables_1) => atoms_spec (ws := Jvm.Cond.code x code maxLocals ret :: tables_1) hat d (List.mem_cons_of_mem _ hd)
  have hfit : Fit s := fun {y c} hc i hi => by
    obtain ⟨ha, rfl⟩ := Array.getElem?_eq_some_iff.mp hc
    have q := List.all_eq_true.mp ((Array.all_eq_true_iff_forall_mem.mp hF) _ (Array.getElem_mem ha)) i (List.mem_range.mpr hi)
    simpa [Array.getElem?_eq_getElem hi] using q
  obtain ⟨i0, ei0⟩ := is_v g3
  obtain rfl : w0 = (.int i0) := Option.some.inj ei0
  obtain ⟨i1, ei1⟩ := is_v g5
  obtain rfl : w1 = (.int i1) := Option.some.inj ei1
  obtain ⟨i2, ei2⟩ := is_v g7
  obtain rfl : w2 = (.int i2) := Option.some.inj ei2
  obtain ⟨i3, ei3⟩ := is_v g9
  obtain rfl : w3 = (.int i3) := Option.some.inj ei3
  obtain ⟨i4, ei4⟩ := is_v g10
  obtain rfl : w4 = (.int i4) := Option.some.inj ei4
  obtain ⟨n, o, h1, h2, h3, v, L, rfl, ⟨hv, hK⟩, hq⟩ := rm0 l s _ hw tables_1 i0 i1 i2 i3 i4 s.heap s.heap.size (Nat.le_refl _) p e ha hc hk s m _ below hf ((Spec.applies_iff_loose hf).mp happ).1 ⟨rfl, State.Warmed39.refl s, rfl⟩ trivial
  rw [R0, own_law] at hv
  subst hv
  refine ⟨n, _, h1, h2, h3, hpost _ _ _ _ _ _ ⟨Cond.after_iff.mpr rfl, Cond.after_iff.mpr (eq_i res_at (Term.int_eval (1)) rfl), trivial⟩ ⟨hq.1, hq.2.1, (hq.2.2.sift fun y hy => ?_).mono (by decide) (by decide)⟩⟩
  exact Or.inr (hK y hy)
theorem main_1_1 : Claimed_1_1 := comes_1 fun _ _ _ _ _ _ h hF => ⟨h.1, hF⟩
theorem main_1_2 : Claimed_1_2 := comes_1 fun _ _ _ _ _ _ h hF => ⟨h.2.1, hF⟩
end Jvm.Pilot.@@N@@
namespace Jvm.Pilot.@@N@@
open Jvm Jvm.ClassFile Sem Op Lib Jvm.Free Jvm.Stand Jvm.Pilot.@@N@@.Jvm.D
/-! MADE BY PROGRAM (witnessworld.py) out of the Statement's table words and the real class files: 11 classes; the members and pool entries that the words name. The judged class is class 1, her method 1. -/
namespace start1
open Jvm.ClassFile
def u (s : String) : CpInfo := .utf8 (stringToUtf16 s)
/-- a pool by its gaps: so many unusable entries, then the entry; so many at the end -/
def gap : Nat → List CpInfo → List CpInfo
  | 0, r => r
  | n + 1, r => .unusable :: gap n r
def poolList (es : List (Nat × CpInfo)) (last : Nat) : List CpInfo := es.foldr (fun e r => gap e.1 (e.2 :: r)) (gap last [])
def pool (es : List (Nat × CpInfo)) (last : Nat) : Array CpInfo := ⟨poolList es last⟩
def fileOf (pool : Array CpInfo) (this : Nat) (attrs : Array Attribute := #[]) (ms : Array MethodInfo := #[]) (fl : Nat := 33) (sup : Nat := 0) (ifs : Array Nat := #[]) (fds : Array FieldInfo := #[]) : ClassFile where
  minorVersion := 0
  majorVersion := 65
  constantPool := pool
  accessFlags := fl
  thisClass := this
  superClass := sup
  interfaces := ifs
  fields := fds
  methods := ms
  attributes := attrs
def plain (name : String) (sup : Option ClassId) : Class where
  name := name
  kind := .ordinary
  loader := none
  accessFlags := 33
  super := sup
  interfaces := #[]
  cf := none
  fields := #[]
  methods := #[]
  instanceTypes := #[]
  staticTypes := #[]
  resolved := #[]
  callSites := []
  init := .initialized
  statics := none
  mirror := none

def pool0 : Array CpInfo := pool [(5, u "<init>"), (0, u "()V"), (1, .class_ 10), (1, u "java/lang/Object")] 113

def k0c0 : Code := { maxStack := 0, maxLocals := 1, code := object_method_1_code, exceptionTable := #[], attributes := #[] }
def k0m0 : Method := { name := "<init>", desc := "()V", sig := { parameters := [], returnType := none }, accessFlags := 1, code := some k0c0 }
/-- java/lang/Object -/
def k0 : Class := { plain "java/lang/Object" none with
  accessFlags := 33
  interfaces := #[]
  cf := some (fileOf pool0 8 #[] #[{ accessFlags := 1, nameIndex := 5, descriptorIndex := 6, attributes := #[] }] 33 0 #[] #[])
  fields := #[]
  methods := #[k0m0]
  instanceTypes := #[]
  staticTypes := #[]
  resolved := Array.replicate 124 none
  statics := none }

def pool1 : Array CpInfo := pool [(2, .class_ 4), (1, u "java/lang/Object"), (0, u "<init>"), (0, u "()V"), (0, .class_ 8), (0, u "com/example/recital/recital/Place"), (0, .methodref 7 10), (0, .nameAndType 5 11), (0, u "(II)V"), (0, .methodref 7 13), (0, .nameAndType 14 15), (0, u "isAfter"), (0, u "(II)Z"), (0, .class_ 17), (0, u "com/example/recital/recital/PlaceIsAfterPinLaw"), (2, u "law"), (0, u "(IIIII)Z")] 3

def k1m0 : Method := { name := "<init>", desc := "()V", sig := { parameters := [], returnType := none }, accessFlags := 1, code := none }
def k1c1 : Code := { maxStack := 4, maxLocals := 14, code := code, exceptionTable := #[], attributes := #[] }
def k1m1 : Method := { name := "law", desc := "(IIIII)Z", sig := { parameters := [.int, .int, .int, .int, .int], returnType := some .boolean }, accessFlags := 9, code := some k1c1 }
/-- com/example/recital/recital/PlaceIsAfterPinLaw -/
def k1 : Class := { plain "com/example/recital/recital/PlaceIsAfterPinLaw" (some 0) with
  accessFlags := 49
  interfaces := #[]
  cf := some (fileOf pool1 16 #[] #[{ accessFlags := 1, nameIndex := 5, descriptorIndex := 6, attributes := #[] }, { accessFlags := 9, nameIndex := 20, descriptorIndex := 21, attributes := #[] }] 49 2 #[] #[])
  fields := #[]
  methods := #[k1m0, k1m1]
  instanceTypes := #[]
  staticTypes := #[]
  resolved := Array.replicate 25 none
  statics := none }

def pool2 : Array CpInfo := pool [(1, .methodref 2 3), (0, .class_ 4), (0, .nameAndType 5 6), (0, u "java/lang/Object"), (0, u "<init>"), (0, u "()V"), (0, .class_ 8), (0, u "java/lang/Record")] 13

def k2c0 : Code := { maxStack := 1, maxLocals := 1, code := jdk_30_method_1_code, exceptionTable := #[], attributes := #[] }
def k2m0 : Method := { name := "<init>", desc := "()V", sig := { parameters := [], returnType := none }, accessFlags := 4, code := some k2c0 }
/-- java/lang/Record -/
def k2 : Class := { plain "java/lang/Record" (some 0) with
  accessFlags := 1057
  interfaces := #[]
  cf := some (fileOf pool2 7 #[] #[{ accessFlags := 4, nameIndex := 5, descriptorIndex := 6, attributes := #[] }] 1057 2 #[] #[])
  fields := #[]
  methods := #[k2m0]
  instanceTypes := #[]
  staticTypes := #[]
  resolved := Array.replicate 22 none
  statics := none }

def pool3 : Array CpInfo := pool [(1, .class_ 2), (0, u "java/lang/Comparable"), (0, .class_ 4), (0, u "java/lang/Object")] 7

/-- java/lang/Comparable -/
def k3 : Class := { plain "java/lang/Comparable" (some 0) with
  accessFlags := 1537
  interfaces := #[]
  cf := some (fileOf pool3 1 #[] #[] 1537 3 #[] #[])
  fields := #[]
  methods := #[]
  instanceTypes := #[]
  staticTypes := #[]
  resolved := Array.replicate 12 none
  statics := none }

def pool4 : Array CpInfo := pool [(1, .methodref 2 3), (0, .class_ 4), (0, .nameAndType 5 6), (0, u "java/lang/Record"), (0, u "<init>"), (0, u "()V"), (0, .fieldref 8 9), (0, .class_ 10), (0, .nameAndType 11 12), (0, u "com/example/recital/recital/Place"), (0, u "line"), (0, u "I"), (0, .fieldref 8 14), (0, .nameAndType 15 12), (0, u "column"), (21, .class_ 38), (0, u "java/lang/Comparable"), (0, u "(II)V"), (3, u "isAfter"), (0, u "(II)Z")] 28

def k4c0 : Code := { maxStack := 2, maxLocals := 3, code := prog_98_method_1_code, exceptionTable := #[], attributes := #[] }
def k4m0 : Method := { name := "<init>", desc := "(II)V", sig := { parameters := [.int, .int], returnType := none }, accessFlags := 0, code := some k4c0 }
def k4c1 : Code := { maxStack := 2, maxLocals := 3, code := prog_98_method_2_code, exceptionTable := #[], attributes := #[] }
def k4m1 : Method := { name := "isAfter", desc := "(II)Z", sig := { parameters := [.int, .int], returnType := some .boolean }, accessFlags := 0, code := some k4c1 }
/-- com/example/recital/recital/Place -/
def k4 : Class := { plain "com/example/recital/recital/Place" (some 2) with
  accessFlags := 48
  interfaces := #[3]
  cf := some (fileOf pool4 8 #[] #[{ accessFlags := 0, nameIndex := 5, descriptorIndex := 39, attributes := #[] }, { accessFlags := 0, nameIndex := 43, descriptorIndex := 44, attributes := #[] }] 48 2 #[37] #[{ accessFlags := 18, nameIndex := 11, descriptorIndex := 12, attributes := #[] }, { accessFlags := 18, nameIndex := 15, descriptorIndex := 12, attributes := #[] }])
  fields := #[{ name := "line", type := .int, accessFlags := 18, slot := 0, constantValue := 0 }, { name := "column", type := .int, accessFlags := 18, slot := 1, constantValue := 0 }]
  methods := #[k4m0, k4m1]
  instanceTypes := #[.int, .int]
  staticTypes := #[]
  resolved := Array.replicate 73 none
  statics := none }

def pool5 : Array CpInfo := pool [(1, u "java/lang/Cloneable"), (0, .class_ 1), (0, u "java/lang/Object"), (0, .class_ 3)] 3

/-- java/lang/Cloneable -/
def k5 : Class := { plain "java/lang/Cloneable" (some 0) with
  accessFlags := 1537
  interfaces := #[]
  cf := some (fileOf pool5 2 #[] #[] 1537 4 #[] #[])
  fields := #[]
  methods := #[]
  instanceTypes := #[]
  staticTypes := #[]
  resolved := Array.replicate 8 none
  statics := none }

def pool6 : Array CpInfo := pool [(1, u "java/io/Serializable"), (0, .class_ 1), (0, u "java/lang/Object"), (0, .class_ 3)] 3

/-- java/io/Serializable -/
def k6 : Class := { plain "java/io/Serializable" (some 0) with
  accessFlags := 1537
  interfaces := #[]
  cf := some (fileOf pool6 2 #[] #[] 1537 4 #[] #[])
  fields := #[]
  methods := #[]
  instanceTypes := #[]
  staticTypes := #[]
  resolved := Array.replicate 8 none
  statics := none }

/-- the primitive byte -/
def k7 : Class := { plain "byte" none with kind := .primitive 'B', accessFlags := 0x411 }
/-- [B -/
def k8 : Class := { plain "[B" (some 0) with kind := .array 7 .byte, interfaces := #[5, 6], accessFlags := 1041 }

/-- the primitive int -/
def k9 : Class := { plain "int" none with kind := .primitive 'I', accessFlags := 0x411 }
/-- [I -/
def k10 : Class := { plain "[I" (some 0) with kind := .array 9 .int, interfaces := #[5, 6], accessFlags := 1041 }

def heap : Heap := #[]
def classes : Array Class := #[k0, k1, k2, k3, k4, k5, k6, k7, k8, k9, k10]
def interned : List (Array UInt16 × Addr) := []
def slotsUsed : Nat := 0
def theMethod : MethodId := ⟨1, 1⟩
def args0 : Array Value := #[.int 5, .int 7, .int 5, .int 7, .int 1]
def aboutOver (below : List Frame) : State where
  vm := { classes := classes, interned := interned.toArray }
  heap := heap
  slotsUsed := slotsUsed
  threads := #[{ frames := .invoking theMethod args0 :: below }]
def below0 : List Frame := [.native { method := ⟨0, 0⟩, args := #[] }]
def about1 : State := aboutOver below0
def p0 : Program := .bare "" "" ""
def e0 : Env := launch0.env 0 0 0
theorem w_frames : about1.frames = Frame.invoking theMethod args0 :: below0 := rfl
set_option maxRecDepth 65536 in
theorem w_args : argsFit about1.vm theMethod args0 = true := by decide +kernel
set_option maxRecDepth 65536 in
theorem w_heap : heapFits about1 = true := by decide +kernel
set_option maxRecDepth 65536 in
theorem w_runnable : about1.curStatus? = some .runnable := by decide +kernel
set_option maxRecDepth 65536 in
theorem w_alone : about1.alone = true := by decide +kernel
set_option maxRecDepth 65536 in
theorem w_named : about1.methodNamed? x = some theMethod := by decide +kernel
set_option maxRecDepth 65536 in
theorem w_hears : about1.hears theMethod below0 = true := by decide +kernel
set_option maxRecDepth 65536 in
theorem w_ripe : about1.ripe theMethod args0 below0 = true := by decide +kernel
theorem w_running : about1.status = .running := rfl
set_option maxRecDepth 65536 in
theorem w_room : about1.hasRoom e0.platform room_1 = true :=
  launch0.hasRoom_least _ room_1 (by decide +kernel) (by decide +kernel) (by decide +kernel) (by decide +kernel) (by decide +kernel) (by decide +kernel)
theorem allAtoms_all (ts : List Jvm.Cond) (a : Array Jvm.Value) (st : Jvm.State) : (allAtoms ts).before a st = ts.all (fun c => c.before a st) := by
  induction ts with
  | nil => rfl
  | cons c t ih =>
    show (Jvm.Cond.and c (allAtoms t)).before a st = _
    rw [Jvm.Cond.before_and, ih, List.all_cons]
def words1 : List Jvm.Cond := Jvm.Cond.code x code maxLocals ret :: tables_1
/-- a 'code' word, met by the world's own term for the bytes: nothing is compared byte by byte -/
theorem code_word {y : MethodName} {bytes : ByteArray} {mx : Nat} {rt : Option FieldType} {a : Array Value} {s : State} {m : MethodId} {meth : Method} {c : Code} (h1 : s.methodNamed? y = some m) (h2 : s.vm.method? m = some meth) (h3 : meth.code = some c) (h4 : c.code = bytes)
    (h5 : (c.maxLocals == mx && c.exceptionTable.isEmpty && decide (c.maxStack ≤ mostOperands) && decide (meth.sig.returnType = rt) && !meth.locks && decide (parseMethodDescriptor y.desc = some meth.sig)) = true) : (Jvm.Cond.code y bytes mx rt).before a s = true := by
  simp only [Bool.and_eq_true, beq_iff_eq, Bool.not_eq_true', decide_eq_true_eq] at h5
  obtain ⟨⟨⟨⟨⟨g1, g2⟩, g3⟩, g4⟩, g5⟩, g6⟩ := h5
  simp [Cond.before, Cond.holds, Cond.value, h1, h2, h3, h4, g1, g2, g3, g4, g5, g6]
def isCode : Jvm.Cond → Bool
  | .code _ _ _ _ => true
  | _ => false
theorem all_split {L : List Jvm.Cond} {P : Jvm.Cond → Bool} (h1 : L.all (fun c => isCode c || P c) = true) (h2 : ∀ c ∈ L.filter isCode, P c = true) : L.all P = true := by
  refine List.all_eq_true.mpr fun c hc => ?_
  have h := List.all_eq_true.mp h1 c hc
  rcases Bool.eq_false_or_eq_true (isCode c) with hi | hi
  · exact h2 c (List.mem_filter.mpr ⟨hc, hi⟩)
  · simpa [hi] using h
set_option maxRecDepth 65536 in
theorem w_c0 : (Jvm.Cond.code x code maxLocals ret).before args0 about1 = true := code_word (m := ⟨1, 1⟩) (meth := k1m1) (c := k1c1) (by decide +kernel) rfl rfl rfl (by decide +kernel)
set_option maxRecDepth 65536 in
theorem w_c1 : (Jvm.Cond.code ({ cls := "com/example/recital/recital/Place", name := "<init>", desc := "(II)V" } : Jvm.MethodName) prog_98_method_1_code (3 : Nat) (Option.none : Option Jvm.ClassFile.FieldType)).before args0 about1 = true := code_word (m := ⟨4, 0⟩) (meth := k4m0) (c := k4c0) (by decide +kernel) rfl rfl rfl (by decide +kernel)
set_option maxRecDepth 65536 in
theorem w_c2 : (Jvm.Cond.code ({ cls := "java/lang/Record", name := "<init>", desc := "()V" } : Jvm.MethodName) jdk_30_method_1_code (1 : Nat) (Option.none : Option Jvm.ClassFile.FieldType)).before args0 about1 = true := code_word (m := ⟨2, 0⟩) (meth := k2m0) (c := k2c0) (by decide +kernel) rfl rfl rfl (by decide +kernel)
set_option maxRecDepth 65536 in
theorem w_c3 : (Jvm.Cond.code ({ cls := "java/lang/Object", name := "<init>", desc := "()V" } : Jvm.MethodName) object_method_1_code (1 : Nat) (Option.none : Option Jvm.ClassFile.FieldType)).before args0 about1 = true := code_word (m := ⟨0, 0⟩) (meth := k0m0) (c := k0c0) (by decide +kernel) rfl rfl rfl (by decide +kernel)
set_option maxRecDepth 65536 in
theorem w_c4 : (Jvm.Cond.code ({ cls := "com/example/recital/recital/Place", name := "isAfter", desc := "(II)Z" } : Jvm.MethodName) prog_98_method_2_code (3 : Nat) (Option.some Jvm.ClassFile.FieldType.boolean)).before args0 about1 = true := code_word (m := ⟨4, 1⟩) (meth := k4m1) (c := k4c1) (by decide +kernel) rfl rfl rfl (by decide +kernel)
def codes1 : List Jvm.Cond := [Jvm.Cond.code x code maxLocals ret, Jvm.Cond.code ({ cls := "com/example/recital/recital/Place", name := "<init>", desc := "(II)V" } : Jvm.MethodName) prog_98_method_1_code (3 : Nat) (Option.none : Option Jvm.ClassFile.FieldType), Jvm.Cond.code ({ cls := "java/lang/Record", name := "<init>", desc := "()V" } : Jvm.MethodName) jdk_30_method_1_code (1 : Nat) (Option.none : Option Jvm.ClassFile.FieldType), Jvm.Cond.code ({ cls := "java/lang/Object", name := "<init>", desc := "()V" } : Jvm.MethodName) object_method_1_code (1 : Nat) (Option.none : Option Jvm.ClassFile.FieldType), Jvm.Cond.code ({ cls := "com/example/recital/recital/Place", name := "isAfter", desc := "(II)Z" } : Jvm.MethodName) prog_98_method_2_code (3 : Nat) (Option.some Jvm.ClassFile.FieldType.boolean)]
set_option maxRecDepth 65536 in
theorem codes_eq : words1.filter isCode = codes1 := rfl
theorem w_codes : ∀ c ∈ words1.filter isCode, c.before args0 about1 = true := by
  rw [codes_eq]
  intro c hc
  simp only [codes1, List.mem_cons, List.not_mem_nil, or_false] at hc
  rcases hc with rfl | rfl | rfl | rfl | rfl
  · exact w_c0
  · exact w_c1
  · exact w_c2
  · exact w_c3
  · exact w_c4
set_option maxRecDepth 65536 in
theorem w_t1 : words1.all (fun c => isCode c || c.before args0 about1) = true := by decide +kernel
theorem w_tables : (allAtoms (Jvm.Cond.code x code maxLocals ret :: tables_1)).before args0 about1 = true := by
  rw [allAtoms_all]
  show words1.all (fun c => c.before args0 about1) = true
  refine all_split ?_ w_codes
  rw [w_t1]
set_option maxRecDepth 65536 in
theorem w_case : (Jvm.Cond.and given_1 narrow_1).before args0 about1 = true := by decide +kernel
theorem w_applies : (headSpec (Jvm.Cond.code x code maxLocals ret :: tables_1) room_1).applies x e0.platform about1 = true :=
  (Spec.applies_iff w_frames).mpr ⟨w_running, w_runnable, w_alone, w_named, w_hears, w_ripe, w_room, w_tables⟩
theorem atStart : AtStart classFile x code maxLocals ret World_1 tables_1 room_1 Calls_1 rest_1 Pre_1 launch0 p0 e0 about1 theMethod args0 below0 :=
  ⟨lists_1, trivial, launch0.admits_env _ _ _, launch0.least_env, fairChoices_fair.cas, fairChoices_fair.clock, w_frames, w_args, w_heap, w_applies, trivial, trivial, w_case⟩
end start1
theorem witness_1 : WitnessClaimed_1 := ⟨start1.p0, start1.e0, start1.about1, start1.theMethod, start1.args0, start1.below0, start1.atStart⟩
end Jvm.Pilot.@@N@@
