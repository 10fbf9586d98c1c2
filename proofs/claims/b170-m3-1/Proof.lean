import JvmDerived
import JvmDerived.Pilot.@@N@@Statement
import JvmDerived.Pilot.@@N@@Code
set_option linter.unusedVariables false
set_option linter.unusedSimpArgs false
namespace Jvm.RoadKit
open Sem ClassFile Op Lib Jvm.Stand Jvm.Free Jvm.LawKit
section New
variable {p : Program} {l : Launch} {e : Env} {R : Room} {s : State} {m : MethodId} {args : Array Value} {below : List Frame} {meth : Method} {c : Code} {T : State} {locs : List Loc} {cells slots : Nat}
/-- what a body hands back: the value r, and K of the heap and the places at its end -/
def own_Q (r : Option Value) (K : Heap → List Loc → Prop) (v : Option Value) (h : Heap) (L : List Loc) : Prop := v = r ∧ K h L
/-- nothing is written, nothing is made -/
def own_K0 (h0 : Heap) (h : Heap) (L : List Loc) : Prop := L = [] ∧ h = h0
/-- from F on the run returns r with K -/
def own_Go (p : Program) (e : Env) (below : List Frame) (s : State) (C N : Nat) (r : Option Value) (K : Heap → List Loc → Prop) (F : State) : Prop :=
  ∃ s₂ o, Steps p.tables e below F s₂ ∧ s₂.status = .running ∧ Ended s₂ below o ∧ ∃ v L, o = .returned v ∧ own_Q r K v s₂.heap L ∧ FrameEnd s o s₂ L C N
theorem own_pre {C N : Nat} {r : Option Value} {K : Heap → List Loc → Prop} {F F' : State} (h : ∀ t, Steps p.tables e below F' t → Steps p.tables e below F t) (g : own_Go p e below s C N r K F') : own_Go p e below s C N r K F := by
  obtain ⟨t, o, a, b⟩ := g
  exact ⟨t, o, h t a, b⟩
theorem own_iteI {C N : Nat} {K : Heap → List Loc → Prop} {F : State} {P : Prop} [Decidable P] {a b : Int32} (h1 : P → own_Go p e below s C N (some (.int a)) K F) (h2 : ¬ P → own_Go p e below s C N (some (.int b)) K F) : own_Go p e below s C N (some (.int (if P then a else b))) K F := by
  by_cases q : P
  · rw [if_pos q]; exact h1 q
  · rw [if_neg q]; exact h2 q
theorem own_iteJ {C N : Nat} {K : Heap → List Loc → Prop} {F : State} {P : Prop} [Decidable P] {a b : Int64} (h1 : P → own_Go p e below s C N (some (.long a)) K F) (h2 : ¬ P → own_Go p e below s C N (some (.long b)) K F) : own_Go p e below s C N (some (.long (if P then a else b))) K F := by
  by_cases q : P
  · rw [if_pos q]; exact h1 q
  · rw [if_neg q]; exact h2 q
theorem own_iteR {C N : Nat} {K : Heap → List Loc → Prop} {F : State} {P : Prop} [Decidable P] {a b : Addr} (h1 : P → own_Go p e below s C N (some (.ref a)) K F) (h2 : ¬ P → own_Go p e below s C N (some (.ref b)) K F) : own_Go p e below s C N (some (.ref (if P then a else b))) K F := by
  by_cases q : P
  · rw [if_pos q]; exact h1 q
  · rw [if_neg q]; exact h2 q
theorem own_iteV {C N : Nat} {K : Heap → List Loc → Prop} {F : State} {P : Prop} [Decidable P] {a b : Value} (h1 : P → own_Go p e below s C N (some a) K F) (h2 : ¬ P → own_Go p e below s C N (some b) K F) : own_Go p e below s C N (some (if P then a else b)) K F := by
  by_cases q : P
  · rw [if_pos q]; exact h1 q
  · rw [if_neg q]; exact h2 q
theorem own_ret (X : Stand p l e R s m args below meth c T locs cells slots) (hx : p.tables.exec = Jvm.exec) (hlocks : meth.locks = false) {pc : Nat} {Ls : Array Slot} {w : Value} {t : FieldType} {i : Instr} {rest : List Value} {C N : Nat} {K : Heap → List Loc → Prop} (hret : meth.sig.returnType = some t) (hn : narrow t w = w)
    (hi : (i = .ireturn ∧ (t = .int ∨ t = .boolean ∨ t = .byte ∨ t = .char ∨ t = .short) ∧ ∃ z, w = .int z) ∨ (i = .lreturn ∧ t = .long ∧ ∃ z, w = .long z) ∨ (i = .areturn ∧ t.isReference = true ∧ w.isRef = true))
    (hd : decode c.code pc = .ok (i, 1)) (hK : K T.heap locs) (hC : cells ≤ C) (hN : slots ≤ N) : own_Go p e below s C N (some w) K (T.setTop (mkF m pc Ls (w :: rest))) := by
  obtain ⟨fs, hr, hrun, hended, hW, hsame⟩ := X.leave (v := some w) (fun h => by rw [hret] at h; cases h)
  refine ⟨_, _, retOut X hx hret hn ?_ hd hr, hrun, hended, _, _, rfl, ⟨rfl, hK⟩, ⟨_, rfl⟩, hW, hsame.mono hC hN⟩
  rcases hi with h | h | h
  · exact Or.inl h
  · exact Or.inr (Or.inl h)
  · exact Or.inr (Or.inr (Or.inr (Or.inr h)))
theorem own_retN (X : Stand p l e R s m args below meth c T locs cells slots) (hx : p.tables.exec = Jvm.exec) (hlocks : meth.locks = false) {pc : Nat} {Ls : Array Slot} {z : Int32} {t : FieldType} {rest : List Value} {C N : Nat} {K : Heap → List Loc → Prop} (hret : meth.sig.returnType = some t) (ht : t = .boolean ∨ t = .byte ∨ t = .char ∨ t = .short)
    (hd : decode c.code pc = .ok (.ireturn, 1)) (hK : K T.heap locs) (hC : cells ≤ C) (hN : slots ≤ N) : own_Go p e below s C N (some (.int (nar t z))) K (T.setTop (mkF m pc Ls (.int z :: rest))) := by
  obtain ⟨fs, hr, hrun, hended, hW, hsame⟩ := X.leave (v := some (.int (nar t z))) (fun h => by rw [hret] at h; cases h)
  exact ⟨_, _, retN X hx hret ht hd hr, hrun, hended, _, _, rfl, ⟨rfl, hK⟩, ⟨_, rfl⟩, hW, hsame.mono hC hN⟩
theorem own_retV (X : Stand p l e R s m args below meth c T locs cells slots) (hx : p.tables.exec = Jvm.exec) (hlocks : meth.locks = false) {pc : Nat} {Ls : Array Slot} {C N : Nat} {K : Heap → List Loc → Prop} (hret : meth.sig.returnType = none)
    (hd : decode c.code pc = .ok (.return_, 1)) (hK : K T.heap locs) (hC : cells ≤ C) (hN : slots ≤ N) : own_Go p e below s C N none K (T.setTop (mkF m pc Ls [])) := by
  obtain ⟨fs, hr, hrun, hended, hW, hsame⟩ := X.leave (v := none) (fun _ => rfl)
  exact ⟨_, _, X.returnOut hx hret hd hr, hrun, hended, _, _, rfl, ⟨rfl, hK⟩, ⟨_, rfl⟩, hW, hsame.mono hC hN⟩
theorem own_lremM {g : JFrame} {target : State} (X : Stand p l e R s m args below meth c T locs cells slots) (hx : p.tables.exec = Jvm.exec) (hg : g.method = m) {x y : Int64} {rest : List Value} (hd : decode c.code g.pc = .ok (.lrem, 1)) (hs : g.stack = .long y :: .long x :: rest) (hy : y ≠ 0)
    (hr : Steps p.tables e below (T.setTop { g with pc := g.pc + 1, stack := .long (x % y) :: rest }) target) : Steps p.tables e below (T.setTop g) target :=
  XS.lrem X.here hx hg hd hs hy (by rw [lrem_mod]; exact hr)
theorem own_cat {v : Value} (h : v.isRef = true) : v.category = 1 := by rcases ref_cases h with rfl | ⟨a, rfl⟩ <;> rfl
theorem own_nar (z : Int32) : nar .boolean z = z &&& 1 := rfl
end New
end Jvm.RoadKit
namespace Jvm.RoadKit
open Sem ClassFile Op Lib Jvm.Stand Jvm.Free Jvm.LawKit
section New2
variable {p : Program} {l : Launch} {e : Env} {R : Room} {s : State} {m : MethodId} {args : Array Value} {below : List Frame} {meth : Method} {c : Code} {T : State} {locs : List Loc} {cells slots : Nat}
theorem own_iteT {α : Type} {C N : Nat} (R : α → Option Value) (K : α → Heap → List Loc → Prop) {F : State} {P : Prop} [Decidable P] {a b : α} (h1 : P → own_Go p e below s C N (R a) (K a) F) (h2 : ¬ P → own_Go p e below s C N (R b) (K b) F) : own_Go p e below s C N (R (if P then a else b)) (K (if P then a else b)) F := by
  by_cases q : P
  · rw [if_pos q]; exact h1 q
  · rw [if_neg q]; exact h2 q
theorem own_staKeep {Z : State} {h h' : Heap} {C n d : String} {w : Value} {ws : List Addr} (F : Sta Z h C n d w) (K : Keep h h' ws) (q : ∀ x ∈ ws, ∀ c : Cell, h[x]? = some c → c.vm.isStatics = false) : Sta Z h' C n d w := by
  obtain ⟨cf, i, k, f, st, cell, h1, h2, h3, h4, h5, h6, h7⟩ := F
  exact ⟨cf, i, k, f, st, cell, h1, h2, h3, h4, K.2.1 _ _ h5 (fun hm => by have := q st hm cell h5; rw [h6] at this; cases this), h6, h7⟩
theorem own_nost1 {Z : State} {h : Heap} {a : Addr} {C : String} (E : Exa Z h a C) : ∀ x ∈ [a], ∀ c : Cell, h[x]? = some c → c.vm.isStatics = false := fun x hx c hc => by
  cases List.mem_singleton.mp hx; exact E.nostat c hc
theorem own_KF {n0 : Nat} {h : Heap} {L : List Loc} (N : Fr n0 L) : (fun (_ : Heap) (L : List Loc) => Fr n0 L) h L := N
end New2
end Jvm.RoadKit
namespace Jvm.Pilot.@@N@@
open Jvm Jvm.ClassFile Sem Op Lib Jvm.Free Jvm.Stand Jvm.LawKit Jvm.RoadKit Bundle Jvm.Pilot.@@N@@.Jvm.D
/-! body 7 -/
theorem d7_0 : decode jdk_35_method_45_code 0 = .ok (.lload_n 2, 1) := by decide +kernel
theorem d7_1 : decode jdk_35_method_45_code 1 = .ok (.lconst 0, 1) := by decide +kernel
theorem d7_2 : decode jdk_35_method_45_code 2 = .ok (.lcmp, 1) := by decide +kernel
theorem d7_3 : decode jdk_35_method_45_code 3 = .ok (.ifCond .lt 37, 3) := by decide +kernel
theorem d7_6 : decode jdk_35_method_45_code 6 = .ok (.lload_n 0, 1) := by decide +kernel
theorem d7_7 : decode jdk_35_method_45_code 7 = .ok (.iconst 1, 1) := by decide +kernel
theorem d7_8 : decode jdk_35_method_45_code 8 = .ok (.lushr, 1) := by decide +kernel
theorem d7_9 : decode jdk_35_method_45_code 9 = .ok (.lload_n 2, 1) := by decide +kernel
theorem d7_10 : decode jdk_35_method_45_code 10 = .ok (.ldiv, 1) := by decide +kernel
theorem d7_11 : decode jdk_35_method_45_code 11 = .ok (.iconst 1, 1) := by decide +kernel
theorem d7_12 : decode jdk_35_method_45_code 12 = .ok (.lshl, 1) := by decide +kernel
theorem d7_13 : decode jdk_35_method_45_code 13 = .ok (.lstore 4, 2) := by decide +kernel
theorem d7_15 : decode jdk_35_method_45_code 15 = .ok (.lload_n 0, 1) := by decide +kernel
theorem d7_16 : decode jdk_35_method_45_code 16 = .ok (.lload 4, 2) := by decide +kernel
theorem d7_18 : decode jdk_35_method_45_code 18 = .ok (.lload_n 2, 1) := by decide +kernel
theorem d7_19 : decode jdk_35_method_45_code 19 = .ok (.lmul, 1) := by decide +kernel
theorem d7_20 : decode jdk_35_method_45_code 20 = .ok (.lsub, 1) := by decide +kernel
theorem d7_21 : decode jdk_35_method_45_code 21 = .ok (.lstore 6, 2) := by decide +kernel
theorem d7_23 : decode jdk_35_method_45_code 23 = .ok (.lload 6, 2) := by decide +kernel
theorem d7_25 : decode jdk_35_method_45_code 25 = .ok (.lload 6, 2) := by decide +kernel
theorem d7_27 : decode jdk_35_method_45_code 27 = .ok (.lload_n 2, 1) := by decide +kernel
theorem d7_28 : decode jdk_35_method_45_code 28 = .ok (.lsub, 1) := by decide +kernel
theorem d7_29 : decode jdk_35_method_45_code 29 = .ok (.ldc2_w 306, 3) := by decide +kernel
theorem d7_32 : decode jdk_35_method_45_code 32 = .ok (.lxor, 1) := by decide +kernel
theorem d7_33 : decode jdk_35_method_45_code 33 = .ok (.bipush 63, 2) := by decide +kernel
theorem d7_35 : decode jdk_35_method_45_code 35 = .ok (.lshr, 1) := by decide +kernel
theorem d7_36 : decode jdk_35_method_45_code 36 = .ok (.lload_n 2, 1) := by decide +kernel
theorem d7_37 : decode jdk_35_method_45_code 37 = .ok (.land, 1) := by decide +kernel
theorem d7_38 : decode jdk_35_method_45_code 38 = .ok (.lsub, 1) := by decide +kernel
theorem d7_39 : decode jdk_35_method_45_code 39 = .ok (.lreturn, 1) := by decide +kernel
theorem d7_40 : decode jdk_35_method_45_code 40 = .ok (.lload_n 0, 1) := by decide +kernel
theorem d7_41 : decode jdk_35_method_45_code 41 = .ok (.lload_n 0, 1) := by decide +kernel
theorem d7_42 : decode jdk_35_method_45_code 42 = .ok (.lload_n 0, 1) := by decide +kernel
theorem d7_43 : decode jdk_35_method_45_code 43 = .ok (.lload_n 2, 1) := by decide +kernel
theorem d7_44 : decode jdk_35_method_45_code 44 = .ok (.lsub, 1) := by decide +kernel
theorem d7_45 : decode jdk_35_method_45_code 45 = .ok (.ldc2_w 306, 3) := by decide +kernel
theorem d7_48 : decode jdk_35_method_45_code 48 = .ok (.lxor, 1) := by decide +kernel
theorem d7_49 : decode jdk_35_method_45_code 49 = .ok (.land, 1) := by decide +kernel
theorem d7_50 : decode jdk_35_method_45_code 50 = .ok (.bipush 63, 2) := by decide +kernel
theorem d7_52 : decode jdk_35_method_45_code 52 = .ok (.lshr, 1) := by decide +kernel
theorem d7_53 : decode jdk_35_method_45_code 53 = .ok (.lload_n 2, 1) := by decide +kernel
theorem d7_54 : decode jdk_35_method_45_code 54 = .ok (.land, 1) := by decide +kernel
theorem d7_55 : decode jdk_35_method_45_code 55 = .ok (.lsub, 1) := by decide +kernel
theorem d7_56 : decode jdk_35_method_45_code 56 = .ok (.lreturn, 1) := by decide +kernel
theorem own_pn0 : plainName "java/lang/Long" = true := by first | (simp [plainName, overriddenIn]; done) | decide +kernel
def f7_0 (q0 : Int64) (q1 : Int64) : Int64 := (if q1 < (0 : Int64) then (q0 - (((q0 &&& ((q0 - q1) ^^^ (-1 : Int64))) >>> ((63 : Int32) &&& 0x3f).toInt64) &&& q1)) else ((q0 - (((((q0.toUInt64 >>> ((1 : Int32) &&& 0x3f).toInt64.toUInt64).toInt64) / q1) <<< ((1 : Int32) &&& 0x3f).toInt64) * q1)) - (((((q0 - (((((q0.toUInt64 >>> ((1 : Int32) &&& 0x3f).toInt64.toUInt64).toInt64) / q1) <<< ((1 : Int32) &&& 0x3f).toInt64) * q1)) - q1) ^^^ (-1 : Int64)) >>> ((63 : Int32) &&& 0x3f).toInt64) &&& q1)))
set_option maxRecDepth 65536 in
set_option maxHeartbeats 40000000 in
theorem g7_0 {p : Program} {l : Launch} {e : Env} {s : State} {m : MethodId} {below : List Frame} {meth : Method} {c : Code} {s₁ : State} {ws : List Jvm.Cond} {Z : State} {aw : Array Value} (hw : ∀ d ∈ tables_1, d.before aw Z = true) {h0 : Heap} (q0 : Int64) (q1 : Int64) (H : ¬ (q1 = (0 : Int64)))
    (Bd : BodyLoose p l (⟨"java/lang/Long", "remainderUnsigned", "(JJ)J"⟩ : MethodName) (head1 (Jvm.Cond.code (⟨"java/lang/Long", "remainderUnsigned", "(JJ)J"⟩ : MethodName) jdk_35_method_45_code 8 (some .long) :: ws) ({ frames := 0, cells := 0, slots := 0, locals := 0 } : Room)) jdk_35_method_45_code 8 (some .long) e s m #[(.long q0), (.long q1)] below meth c s₁) (hml : c.maxLocals = 8) (hZ : Z.Warmed39 s.vm) (T0 : State) (X0 : Stand p l e ({ frames := 0, cells := 0, slots := 0, locals := 0 } : Room) s m #[(.long q0), (.long q1)] below meth c T0 [] 0 0) (e0 : T0.heap = h0) :
    own_Go p e below s ({ frames := 0, cells := 0, slots := 0, locals := 0 } : Room).cells ({ frames := 0, cells := 0, slots := 0, locals := 0 } : Room).slots (some (.long (f7_0 q0 q1))) (own_K0 h0) (T0.setTop (mkF m 0 #[.val (.long q0), .second, .val (.long q1), .second, .unset, .unset, .unset, .unset] [])) := by
  have hx := Bd.exec
  have hby := Bd.bytes
  have hown : s.vm.findClass "java/lang/Long" = some m.cls := findClass_of_methodNamed Bd.named
  unfold f7_0
  refine own_pre (F' := T0.setTop (mkF m 1 #[.val (.long q0), .second, .val (.long q1), .second, .unset, .unset, .unset, .unset] [(.long q1)])) (fun _ k => XS.lloadN X0.here hx rfl (hb hby d7_0) rfl k) ?_
  refine own_pre (F' := T0.setTop (mkF m 2 #[.val (.long q0), .second, .val (.long q1), .second, .unset, .unset, .unset, .unset] [(.long (0 : Int64)), (.long q1)])) (fun _ k => XS.lconst X0.here hx rfl (hb hby d7_1) k) ?_
  refine own_pre (F' := T0.setTop (mkF m 3 #[.val (.long q0), .second, .val (.long q1), .second, .unset, .unset, .unset, .unset] [(.int (lcmpW q1 (0 : Int64)))])) (fun _ k => XS.lcmp X0.here hx rfl (hb hby d7_2) rfl k) ?_
  refine own_iteJ (fun hc3 => ?_) (fun hc3 => ?_)
  · skip
    refine own_pre (F' := T0.setTop (mkF m 40 #[.val (.long q0), .second, .val (.long q1), .second, .unset, .unset, .unset, .unset] [])) (fun _ k => XS.ifYes X0.here hx rfl (pc0 := 3) (pc' := 40) rfl (hb hby d7_3) rfl ((if0 _ _).trans (tlt ((lw_lt _ _).mpr hc3)).1) (by decide) (by decide) k) ?_
    refine own_pre (F' := T0.setTop (mkF m 41 #[.val (.long q0), .second, .val (.long q1), .second, .unset, .unset, .unset, .unset] [(.long q0)])) (fun _ k => XS.lloadN X0.here hx rfl (hb hby d7_40) rfl k) ?_
    refine own_pre (F' := T0.setTop (mkF m 42 #[.val (.long q0), .second, .val (.long q1), .second, .unset, .unset, .unset, .unset] [(.long q0), (.long q0)])) (fun _ k => XS.lloadN X0.here hx rfl (hb hby d7_41) rfl k) ?_
    refine own_pre (F' := T0.setTop (mkF m 43 #[.val (.long q0), .second, .val (.long q1), .second, .unset, .unset, .unset, .unset] [(.long q0), (.long q0), (.long q0)])) (fun _ k => XS.lloadN X0.here hx rfl (hb hby d7_42) rfl k) ?_
    refine own_pre (F' := T0.setTop (mkF m 44 #[.val (.long q0), .second, .val (.long q1), .second, .unset, .unset, .unset, .unset] [(.long q1), (.long q0), (.long q0), (.long q0)])) (fun _ k => XS.lloadN X0.here hx rfl (hb hby d7_43) rfl k) ?_
    refine own_pre (F' := T0.setTop (mkF m 45 #[.val (.long q0), .second, .val (.long q1), .second, .unset, .unset, .unset, .unset] [(.long (q0 - q1)), (.long q0), (.long q0)])) (fun _ k => XS.lsub X0.here hx rfl (hb hby d7_44) rfl k) ?_
    refine own_pre (F' := T0.setTop (mkF m 48 #[.val (.long q0), .second, .val (.long q1), .second, .unset, .unset, .unset, .unset] [(.long (-1 : Int64)), (.long (q0 - q1)), (.long q0), (.long q0)])) (fun _ k => X0.ldc2Long hx hown (mvT hZ (hw _ (List.mem_of_getElem? (i := 40) rfl))) (g := (mkF m 45 #[.val (.long q0), .second, .val (.long q1), .second, .unset, .unset, .unset, .unset] [(.long (q0 - q1)), (.long q0), (.long q0)])) rfl (hb hby d7_45) _ k) ?_
    refine own_pre (F' := T0.setTop (mkF m 49 #[.val (.long q0), .second, .val (.long q1), .second, .unset, .unset, .unset, .unset] [(.long ((q0 - q1) ^^^ (-1 : Int64))), (.long q0), (.long q0)])) (fun _ k => XS.lxor X0.here hx rfl (hb hby d7_48) rfl k) ?_
    refine own_pre (F' := T0.setTop (mkF m 50 #[.val (.long q0), .second, .val (.long q1), .second, .unset, .unset, .unset, .unset] [(.long (q0 &&& ((q0 - q1) ^^^ (-1 : Int64)))), (.long q0)])) (fun _ k => XS.land X0.here hx rfl (hb hby d7_49) rfl k) ?_
    refine own_pre (F' := T0.setTop (mkF m 52 #[.val (.long q0), .second, .val (.long q1), .second, .unset, .unset, .unset, .unset] [(.int (63 : Int32)), (.long (q0 &&& ((q0 - q1) ^^^ (-1 : Int64)))), (.long q0)])) (fun _ k => XS.bipush X0.here hx rfl (hb hby d7_50) k) ?_
    refine own_pre (F' := T0.setTop (mkF m 53 #[.val (.long q0), .second, .val (.long q1), .second, .unset, .unset, .unset, .unset] [(.long ((q0 &&& ((q0 - q1) ^^^ (-1 : Int64))) >>> ((63 : Int32) &&& 0x3f).toInt64)), (.long q0)])) (fun _ k => XS.lshr X0.here hx rfl (hb hby d7_52) rfl k) ?_
    refine own_pre (F' := T0.setTop (mkF m 54 #[.val (.long q0), .second, .val (.long q1), .second, .unset, .unset, .unset, .unset] [(.long q1), (.long ((q0 &&& ((q0 - q1) ^^^ (-1 : Int64))) >>> ((63 : Int32) &&& 0x3f).toInt64)), (.long q0)])) (fun _ k => XS.lloadN X0.here hx rfl (hb hby d7_53) rfl k) ?_
    refine own_pre (F' := T0.setTop (mkF m 55 #[.val (.long q0), .second, .val (.long q1), .second, .unset, .unset, .unset, .unset] [(.long (((q0 &&& ((q0 - q1) ^^^ (-1 : Int64))) >>> ((63 : Int32) &&& 0x3f).toInt64) &&& q1)), (.long q0)])) (fun _ k => XS.land X0.here hx rfl (hb hby d7_54) rfl k) ?_
    refine own_pre (F' := T0.setTop (mkF m 56 #[.val (.long q0), .second, .val (.long q1), .second, .unset, .unset, .unset, .unset] [(.long (q0 - (((q0 &&& ((q0 - q1) ^^^ (-1 : Int64))) >>> ((63 : Int32) &&& 0x3f).toInt64) &&& q1)))])) (fun _ k => XS.lsub X0.here hx rfl (hb hby d7_55) rfl k) ?_
    exact own_ret X0 hx Bd.notSynchronized Bd.returns rfl (Or.inr (Or.inl ⟨rfl, rfl, _, rfl⟩)) (hb hby d7_56) ⟨rfl, e0⟩ (by decide) (by decide)
  · skip
    refine own_pre (F' := T0.setTop (mkF m 6 #[.val (.long q0), .second, .val (.long q1), .second, .unset, .unset, .unset, .unset] [])) (fun _ k => XS.ifNo X0.here hx rfl (hb hby d7_3) rfl ((if0 _ _).trans (flt (fun q => hc3 ((lw_lt _ _).mp q))).1) k) ?_
    refine own_pre (F' := T0.setTop (mkF m 7 #[.val (.long q0), .second, .val (.long q1), .second, .unset, .unset, .unset, .unset] [(.long q0)])) (fun _ k => XS.lloadN X0.here hx rfl (hb hby d7_6) rfl k) ?_
    refine own_pre (F' := T0.setTop (mkF m 8 #[.val (.long q0), .second, .val (.long q1), .second, .unset, .unset, .unset, .unset] [(.int (1 : Int32)), (.long q0)])) (fun _ k => XS.iconst X0.here hx rfl (hb hby d7_7) k) ?_
    refine own_pre (F' := T0.setTop (mkF m 9 #[.val (.long q0), .second, .val (.long q1), .second, .unset, .unset, .unset, .unset] [(.long ((q0.toUInt64 >>> ((1 : Int32) &&& 0x3f).toInt64.toUInt64).toInt64))])) (fun _ k => XS.lushr X0.here hx rfl (hb hby d7_8) rfl k) ?_
    refine own_pre (F' := T0.setTop (mkF m 10 #[.val (.long q0), .second, .val (.long q1), .second, .unset, .unset, .unset, .unset] [(.long q1), (.long ((q0.toUInt64 >>> ((1 : Int32) &&& 0x3f).toInt64.toUInt64).toInt64))])) (fun _ k => XS.lloadN X0.here hx rfl (hb hby d7_9) rfl k) ?_
    refine own_pre (F' := T0.setTop (mkF m 11 #[.val (.long q0), .second, .val (.long q1), .second, .unset, .unset, .unset, .unset] [(.long (((q0.toUInt64 >>> ((1 : Int32) &&& 0x3f).toInt64.toUInt64).toInt64) / q1))])) (fun _ k => XS.ldiv X0.here hx rfl (hb hby d7_10) rfl H k) ?_
    refine own_pre (F' := T0.setTop (mkF m 12 #[.val (.long q0), .second, .val (.long q1), .second, .unset, .unset, .unset, .unset] [(.int (1 : Int32)), (.long (((q0.toUInt64 >>> ((1 : Int32) &&& 0x3f).toInt64.toUInt64).toInt64) / q1))])) (fun _ k => XS.iconst X0.here hx rfl (hb hby d7_11) k) ?_
    refine own_pre (F' := T0.setTop (mkF m 13 #[.val (.long q0), .second, .val (.long q1), .second, .unset, .unset, .unset, .unset] [(.long ((((q0.toUInt64 >>> ((1 : Int32) &&& 0x3f).toInt64.toUInt64).toInt64) / q1) <<< ((1 : Int32) &&& 0x3f).toInt64))])) (fun _ k => XS.lshl X0.here hx rfl (hb hby d7_12) rfl k) ?_
    refine own_pre (F' := T0.setTop (mkF m 15 #[.val (.long q0), .second, .val (.long q1), .second, .val (.long ((((q0.toUInt64 >>> ((1 : Int32) &&& 0x3f).toInt64.toUInt64).toInt64) / q1) <<< ((1 : Int32) &&& 0x3f).toInt64)), .second, .unset, .unset] [])) (fun _ k => XS.lstore X0.here hx rfl (hb hby d7_13) rfl (l' := #[.val (.long q0), .second, .val (.long q1), .second, .val (.long ((((q0.toUInt64 >>> ((1 : Int32) &&& 0x3f).toInt64.toUInt64).toInt64) / q1) <<< ((1 : Int32) &&& 0x3f).toInt64)), .second, .unset, .unset]) rfl k) ?_
    refine own_pre (F' := T0.setTop (mkF m 16 #[.val (.long q0), .second, .val (.long q1), .second, .val (.long ((((q0.toUInt64 >>> ((1 : Int32) &&& 0x3f).toInt64.toUInt64).toInt64) / q1) <<< ((1 : Int32) &&& 0x3f).toInt64)), .second, .unset, .unset] [(.long q0)])) (fun _ k => XS.lloadN X0.here hx rfl (hb hby d7_15) rfl k) ?_
    refine own_pre (F' := T0.setTop (mkF m 18 #[.val (.long q0), .second, .val (.long q1), .second, .val (.long ((((q0.toUInt64 >>> ((1 : Int32) &&& 0x3f).toInt64.toUInt64).toInt64) / q1) <<< ((1 : Int32) &&& 0x3f).toInt64)), .second, .unset, .unset] [(.long ((((q0.toUInt64 >>> ((1 : Int32) &&& 0x3f).toInt64.toUInt64).toInt64) / q1) <<< ((1 : Int32) &&& 0x3f).toInt64)), (.long q0)])) (fun _ k => XS.lload X0.here hx rfl (hb hby d7_16) rfl k) ?_
    refine own_pre (F' := T0.setTop (mkF m 19 #[.val (.long q0), .second, .val (.long q1), .second, .val (.long ((((q0.toUInt64 >>> ((1 : Int32) &&& 0x3f).toInt64.toUInt64).toInt64) / q1) <<< ((1 : Int32) &&& 0x3f).toInt64)), .second, .unset, .unset] [(.long q1), (.long ((((q0.toUInt64 >>> ((1 : Int32) &&& 0x3f).toInt64.toUInt64).toInt64) / q1) <<< ((1 : Int32) &&& 0x3f).toInt64)), (.long q0)])) (fun _ k => XS.lloadN X0.here hx rfl (hb hby d7_18) rfl k) ?_
    refine own_pre (F' := T0.setTop (mkF m 20 #[.val (.long q0), .second, .val (.long q1), .second, .val (.long ((((q0.toUInt64 >>> ((1 : Int32) &&& 0x3f).toInt64.toUInt64).toInt64) / q1) <<< ((1 : Int32) &&& 0x3f).toInt64)), .second, .unset, .unset] [(.long (((((q0.toUInt64 >>> ((1 : Int32) &&& 0x3f).toInt64.toUInt64).toInt64) / q1) <<< ((1 : Int32) &&& 0x3f).toInt64) * q1)), (.long q0)])) (fun _ k => XS.lmul X0.here hx rfl (hb hby d7_19) rfl k) ?_
    refine own_pre (F' := T0.setTop (mkF m 21 #[.val (.long q0), .second, .val (.long q1), .second, .val (.long ((((q0.toUInt64 >>> ((1 : Int32) &&& 0x3f).toInt64.toUInt64).toInt64) / q1) <<< ((1 : Int32) &&& 0x3f).toInt64)), .second, .unset, .unset] [(.long (q0 - (((((q0.toUInt64 >>> ((1 : Int32) &&& 0x3f).toInt64.toUInt64).toInt64) / q1) <<< ((1 : Int32) &&& 0x3f).toInt64) * q1)))])) (fun _ k => XS.lsub X0.here hx rfl (hb hby d7_20) rfl k) ?_
    refine own_pre (F' := T0.setTop (mkF m 23 #[.val (.long q0), .second, .val (.long q1), .second, .val (.long ((((q0.toUInt64 >>> ((1 : Int32) &&& 0x3f).toInt64.toUInt64).toInt64) / q1) <<< ((1 : Int32) &&& 0x3f).toInt64)), .second, .val (.long (q0 - (((((q0.toUInt64 >>> ((1 : Int32) &&& 0x3f).toInt64.toUInt64).toInt64) / q1) <<< ((1 : Int32) &&& 0x3f).toInt64) * q1))), .second] [])) (fun _ k => XS.lstore X0.here hx rfl (hb hby d7_21) rfl (l' := #[.val (.long q0), .second, .val (.long q1), .second, .val (.long ((((q0.toUInt64 >>> ((1 : Int32) &&& 0x3f).toInt64.toUInt64).toInt64) / q1) <<< ((1 : Int32) &&& 0x3f).toInt64)), .second, .val (.long (q0 - (((((q0.toUInt64 >>> ((1 : Int32) &&& 0x3f).toInt64.toUInt64).toInt64) / q1) <<< ((1 : Int32) &&& 0x3f).toInt64) * q1))), .second]) rfl k) ?_
    refine own_pre (F' := T0.setTop (mkF m 25 #[.val (.long q0), .second, .val (.long q1), .second, .val (.long ((((q0.toUInt64 >>> ((1 : Int32) &&& 0x3f).toInt64.toUInt64).toInt64) / q1) <<< ((1 : Int32) &&& 0x3f).toInt64)), .second, .val (.long (q0 - (((((q0.toUInt64 >>> ((1 : Int32) &&& 0x3f).toInt64.toUInt64).toInt64) / q1) <<< ((1 : Int32) &&& 0x3f).toInt64) * q1))), .second] [(.long (q0 - (((((q0.toUInt64 >>> ((1 : Int32) &&& 0x3f).toInt64.toUInt64).toInt64) / q1) <<< ((1 : Int32) &&& 0x3f).toInt64) * q1)))])) (fun _ k => XS.lload X0.here hx rfl (hb hby d7_23) rfl k) ?_
    refine own_pre (F' := T0.setTop (mkF m 27 #[.val (.long q0), .second, .val (.long q1), .second, .val (.long ((((q0.toUInt64 >>> ((1 : Int32) &&& 0x3f).toInt64.toUInt64).toInt64) / q1) <<< ((1 : Int32) &&& 0x3f).toInt64)), .second, .val (.long (q0 - (((((q0.toUInt64 >>> ((1 : Int32) &&& 0x3f).toInt64.toUInt64).toInt64) / q1) <<< ((1 : Int32) &&& 0x3f).toInt64) * q1))), .second] [(.long (q0 - (((((q0.toUInt64 >>> ((1 : Int32) &&& 0x3f).toInt64.toUInt64).toInt64) / q1) <<< ((1 : Int32) &&& 0x3f).toInt64) * q1))), (.long (q0 - (((((q0.toUInt64 >>> ((1 : Int32) &&& 0x3f).toInt64.toUInt64).toInt64) / q1) <<< ((1 : Int32) &&& 0x3f).toInt64) * q1)))])) (fun _ k => XS.lload X0.here hx rfl (hb hby d7_25) rfl k) ?_
    refine own_pre (F' := T0.setTop (mkF m 28 #[.val (.long q0), .second, .val (.long q1), .second, .val (.long ((((q0.toUInt64 >>> ((1 : Int32) &&& 0x3f).toInt64.toUInt64).toInt64) / q1) <<< ((1 : Int32) &&& 0x3f).toInt64)), .second, .val (.long (q0 - (((((q0.toUInt64 >>> ((1 : Int32) &&& 0x3f).toInt64.toUInt64).toInt64) / q1) <<< ((1 : Int32) &&& 0x3f).toInt64) * q1))), .second] [(.long q1), (.long (q0 - (((((q0.toUInt64 >>> ((1 : Int32) &&& 0x3f).toInt64.toUInt64).toInt64) / q1) <<< ((1 : Int32) &&& 0x3f).toInt64) * q1))), (.long (q0 - (((((q0.toUInt64 >>> ((1 : Int32) &&& 0x3f).toInt64.toUInt64).toInt64) / q1) <<< ((1 : Int32) &&& 0x3f).toInt64) * q1)))])) (fun _ k => XS.lloadN X0.here hx rfl (hb hby d7_27) rfl k) ?_
    refine own_pre (F' := T0.setTop (mkF m 29 #[.val (.long q0), .second, .val (.long q1), .second, .val (.long ((((q0.toUInt64 >>> ((1 : Int32) &&& 0x3f).toInt64.toUInt64).toInt64) / q1) <<< ((1 : Int32) &&& 0x3f).toInt64)), .second, .val (.long (q0 - (((((q0.toUInt64 >>> ((1 : Int32) &&& 0x3f).toInt64.toUInt64).toInt64) / q1) <<< ((1 : Int32) &&& 0x3f).toInt64) * q1))), .second] [(.long ((q0 - (((((q0.toUInt64 >>> ((1 : Int32) &&& 0x3f).toInt64.toUInt64).toInt64) / q1) <<< ((1 : Int32) &&& 0x3f).toInt64) * q1)) - q1)), (.long (q0 - (((((q0.toUInt64 >>> ((1 : Int32) &&& 0x3f).toInt64.toUInt64).toInt64) / q1) <<< ((1 : Int32) &&& 0x3f).toInt64) * q1)))])) (fun _ k => XS.lsub X0.here hx rfl (hb hby d7_28) rfl k) ?_
    refine own_pre (F' := T0.setTop (mkF m 32 #[.val (.long q0), .second, .val (.long q1), .second, .val (.long ((((q0.toUInt64 >>> ((1 : Int32) &&& 0x3f).toInt64.toUInt64).toInt64) / q1) <<< ((1 : Int32) &&& 0x3f).toInt64)), .second, .val (.long (q0 - (((((q0.toUInt64 >>> ((1 : Int32) &&& 0x3f).toInt64.toUInt64).toInt64) / q1) <<< ((1 : Int32) &&& 0x3f).toInt64) * q1))), .second] [(.long (-1 : Int64)), (.long ((q0 - (((((q0.toUInt64 >>> ((1 : Int32) &&& 0x3f).toInt64.toUInt64).toInt64) / q1) <<< ((1 : Int32) &&& 0x3f).toInt64) * q1)) - q1)), (.long (q0 - (((((q0.toUInt64 >>> ((1 : Int32) &&& 0x3f).toInt64.toUInt64).toInt64) / q1) <<< ((1 : Int32) &&& 0x3f).toInt64) * q1)))])) (fun _ k => X0.ldc2Long hx hown (mvT hZ (hw _ (List.mem_of_getElem? (i := 40) rfl))) (g := (mkF m 29 #[.val (.long q0), .second, .val (.long q1), .second, .val (.long ((((q0.toUInt64 >>> ((1 : Int32) &&& 0x3f).toInt64.toUInt64).toInt64) / q1) <<< ((1 : Int32) &&& 0x3f).toInt64)), .second, .val (.long (q0 - (((((q0.toUInt64 >>> ((1 : Int32) &&& 0x3f).toInt64.toUInt64).toInt64) / q1) <<< ((1 : Int32) &&& 0x3f).toInt64) * q1))), .second] [(.long ((q0 - (((((q0.toUInt64 >>> ((1 : Int32) &&& 0x3f).toInt64.toUInt64).toInt64) / q1) <<< ((1 : Int32) &&& 0x3f).toInt64) * q1)) - q1)), (.long (q0 - (((((q0.toUInt64 >>> ((1 : Int32) &&& 0x3f).toInt64.toUInt64).toInt64) / q1) <<< ((1 : Int32) &&& 0x3f).toInt64) * q1)))])) rfl (hb hby d7_29) _ k) ?_
    refine own_pre (F' := T0.setTop (mkF m 33 #[.val (.long q0), .second, .val (.long q1), .second, .val (.long ((((q0.toUInt64 >>> ((1 : Int32) &&& 0x3f).toInt64.toUInt64).toInt64) / q1) <<< ((1 : Int32) &&& 0x3f).toInt64)), .second, .val (.long (q0 - (((((q0.toUInt64 >>> ((1 : Int32) &&& 0x3f).toInt64.toUInt64).toInt64) / q1) <<< ((1 : Int32) &&& 0x3f).toInt64) * q1))), .second] [(.long (((q0 - (((((q0.toUInt64 >>> ((1 : Int32) &&& 0x3f).toInt64.toUInt64).toInt64) / q1) <<< ((1 : Int32) &&& 0x3f).toInt64) * q1)) - q1) ^^^ (-1 : Int64))), (.long (q0 - (((((q0.toUInt64 >>> ((1 : Int32) &&& 0x3f).toInt64.toUInt64).toInt64) / q1) <<< ((1 : Int32) &&& 0x3f).toInt64) * q1)))])) (fun _ k => XS.lxor X0.here hx rfl (hb hby d7_32) rfl k) ?_
    refine own_pre (F' := T0.setTop (mkF m 35 #[.val (.long q0), .second, .val (.long q1), .second, .val (.long ((((q0.toUInt64 >>> ((1 : Int32) &&& 0x3f).toInt64.toUInt64).toInt64) / q1) <<< ((1 : Int32) &&& 0x3f).toInt64)), .second, .val (.long (q0 - (((((q0.toUInt64 >>> ((1 : Int32) &&& 0x3f).toInt64.toUInt64).toInt64) / q1) <<< ((1 : Int32) &&& 0x3f).toInt64) * q1))), .second] [(.int (63 : Int32)), (.long (((q0 - (((((q0.toUInt64 >>> ((1 : Int32) &&& 0x3f).toInt64.toUInt64).toInt64) / q1) <<< ((1 : Int32) &&& 0x3f).toInt64) * q1)) - q1) ^^^ (-1 : Int64))), (.long (q0 - (((((q0.toUInt64 >>> ((1 : Int32) &&& 0x3f).toInt64.toUInt64).toInt64) / q1) <<< ((1 : Int32) &&& 0x3f).toInt64) * q1)))])) (fun _ k => XS.bipush X0.here hx rfl (hb hby d7_33) k) ?_
    refine own_pre (F' := T0.setTop (mkF m 36 #[.val (.long q0), .second, .val (.long q1), .second, .val (.long ((((q0.toUInt64 >>> ((1 : Int32) &&& 0x3f).toInt64.toUInt64).toInt64) / q1) <<< ((1 : Int32) &&& 0x3f).toInt64)), .second, .val (.long (q0 - (((((q0.toUInt64 >>> ((1 : Int32) &&& 0x3f).toInt64.toUInt64).toInt64) / q1) <<< ((1 : Int32) &&& 0x3f).toInt64) * q1))), .second] [(.long ((((q0 - (((((q0.toUInt64 >>> ((1 : Int32) &&& 0x3f).toInt64.toUInt64).toInt64) / q1) <<< ((1 : Int32) &&& 0x3f).toInt64) * q1)) - q1) ^^^ (-1 : Int64)) >>> ((63 : Int32) &&& 0x3f).toInt64)), (.long (q0 - (((((q0.toUInt64 >>> ((1 : Int32) &&& 0x3f).toInt64.toUInt64).toInt64) / q1) <<< ((1 : Int32) &&& 0x3f).toInt64) * q1)))])) (fun _ k => XS.lshr X0.here hx rfl (hb hby d7_35) rfl k) ?_
    refine own_pre (F' := T0.setTop (mkF m 37 #[.val (.long q0), .second, .val (.long q1), .second, .val (.long ((((q0.toUInt64 >>> ((1 : Int32) &&& 0x3f).toInt64.toUInt64).toInt64) / q1) <<< ((1 : Int32) &&& 0x3f).toInt64)), .second, .val (.long (q0 - (((((q0.toUInt64 >>> ((1 : Int32) &&& 0x3f).toInt64.toUInt64).toInt64) / q1) <<< ((1 : Int32) &&& 0x3f).toInt64) * q1))), .second] [(.long q1), (.long ((((q0 - (((((q0.toUInt64 >>> ((1 : Int32) &&& 0x3f).toInt64.toUInt64).toInt64) / q1) <<< ((1 : Int32) &&& 0x3f).toInt64) * q1)) - q1) ^^^ (-1 : Int64)) >>> ((63 : Int32) &&& 0x3f).toInt64)), (.long (q0 - (((((q0.toUInt64 >>> ((1 : Int32) &&& 0x3f).toInt64.toUInt64).toInt64) / q1) <<< ((1 : Int32) &&& 0x3f).toInt64) * q1)))])) (fun _ k => XS.lloadN X0.here hx rfl (hb hby d7_36) rfl k) ?_
    refine own_pre (F' := T0.setTop (mkF m 38 #[.val (.long q0), .second, .val (.long q1), .second, .val (.long ((((q0.toUInt64 >>> ((1 : Int32) &&& 0x3f).toInt64.toUInt64).toInt64) / q1) <<< ((1 : Int32) &&& 0x3f).toInt64)), .second, .val (.long (q0 - (((((q0.toUInt64 >>> ((1 : Int32) &&& 0x3f).toInt64.toUInt64).toInt64) / q1) <<< ((1 : Int32) &&& 0x3f).toInt64) * q1))), .second] [(.long (((((q0 - (((((q0.toUInt64 >>> ((1 : Int32) &&& 0x3f).toInt64.toUInt64).toInt64) / q1) <<< ((1 : Int32) &&& 0x3f).toInt64) * q1)) - q1) ^^^ (-1 : Int64)) >>> ((63 : Int32) &&& 0x3f).toInt64) &&& q1)), (.long (q0 - (((((q0.toUInt64 >>> ((1 : Int32) &&& 0x3f).toInt64.toUInt64).toInt64) / q1) <<< ((1 : Int32) &&& 0x3f).toInt64) * q1)))])) (fun _ k => XS.land X0.here hx rfl (hb hby d7_37) rfl k) ?_
    refine own_pre (F' := T0.setTop (mkF m 39 #[.val (.long q0), .second, .val (.long q1), .second, .val (.long ((((q0.toUInt64 >>> ((1 : Int32) &&& 0x3f).toInt64.toUInt64).toInt64) / q1) <<< ((1 : Int32) &&& 0x3f).toInt64)), .second, .val (.long (q0 - (((((q0.toUInt64 >>> ((1 : Int32) &&& 0x3f).toInt64.toUInt64).toInt64) / q1) <<< ((1 : Int32) &&& 0x3f).toInt64) * q1))), .second] [(.long ((q0 - (((((q0.toUInt64 >>> ((1 : Int32) &&& 0x3f).toInt64.toUInt64).toInt64) / q1) <<< ((1 : Int32) &&& 0x3f).toInt64) * q1)) - (((((q0 - (((((q0.toUInt64 >>> ((1 : Int32) &&& 0x3f).toInt64.toUInt64).toInt64) / q1) <<< ((1 : Int32) &&& 0x3f).toInt64) * q1)) - q1) ^^^ (-1 : Int64)) >>> ((63 : Int32) &&& 0x3f).toInt64) &&& q1)))])) (fun _ k => XS.lsub X0.here hx rfl (hb hby d7_38) rfl k) ?_
    exact own_ret X0 hx Bd.notSynchronized Bd.returns rfl (Or.inr (Or.inl ⟨rfl, rfl, _, rfl⟩)) (hb hby d7_39) ⟨rfl, e0⟩ (by decide) (by decide)
theorem ef_7 (m : MethodId) (q0 : Int64) (q1 : Int64) : entryFrame m #[(.long q0), (.long q1)] 8 = mkF m 0 #[.val (.long q0), .second, .val (.long q1), .second, .unset, .unset, .unset, .unset] [] := by first | (simp [entryFrame, mkF, argsToLocals, Value.category]; done) | rfl
set_option maxRecDepth 65536 in
set_option maxHeartbeats 40000000 in
theorem rm7 (l : Launch) (Z : State) (aw : Array Value) (hw : ∀ d ∈ tables_1, d.before aw Z = true) (ws : List Jvm.Cond) (q0 : Int64) (q1 : Int64) (h0 : Heap) (H : ¬ (q1 = (0 : Int64))) :
    MetFree l (⟨"java/lang/Long", "remainderUnsigned", "(JJ)J"⟩ : MethodName) (head1 (Jvm.Cond.code (⟨"java/lang/Long", "remainderUnsigned", "(JJ)J"⟩ : MethodName) jdk_35_method_45_code 8 (some .long) :: ws) ({ frames := 0, cells := 0, slots := 0, locals := 0 } : Room)) (fun a U => a = #[(.long q0), (.long q1)] ∧ Z.Warmed39 U.vm ∧ U.heap = h0) (fun _ _ _ _ _ => True) (fun _ U o U' => ∃ v L, o = .returned v ∧ own_Q (some (.long (f7_0 q0 q1))) (own_K0 h0) v U'.heap L ∧ FrameEnd U o U' L ({ frames := 0, cells := 0, slots := 0, locals := 0 } : Room).cells ({ frames := 0, cells := 0, slots := 0, locals := 0 } : Room).slots) := by
  refine MetFree.of_bodySF (plainFor_of_name own_pn0) hisR ?_
  intro p e s m args below meth c s₁ Bd hml0 hP hK
  obtain ⟨rfl, hZ, hh⟩ := hP
  have hml : c.maxLocals = 8 := hml0
  have e0 : s₁.heap = h0 := by rw [← hh, Bd.state]; rfl
  exact own_pre (fun t k => castTop (ef_7 m q0 q1) k) (g7_0 hw q0 q1 H Bd hml hZ s₁ (Stand.of_body Bd) e0)
/-! body 10 -/
theorem d10_0 : decode jdk_35_method_44_code 0 = .ok (.lload_n 2, 1) := by decide +kernel
theorem d10_1 : decode jdk_35_method_44_code 1 = .ok (.lconst 0, 1) := by decide +kernel
theorem d10_2 : decode jdk_35_method_44_code 2 = .ok (.lcmp, 1) := by decide +kernel
theorem d10_3 : decode jdk_35_method_44_code 3 = .ok (.ifCond .lt 38, 3) := by decide +kernel
theorem d10_6 : decode jdk_35_method_44_code 6 = .ok (.lload_n 0, 1) := by decide +kernel
theorem d10_7 : decode jdk_35_method_44_code 7 = .ok (.iconst 1, 1) := by decide +kernel
theorem d10_8 : decode jdk_35_method_44_code 8 = .ok (.lushr, 1) := by decide +kernel
theorem d10_9 : decode jdk_35_method_44_code 9 = .ok (.lload_n 2, 1) := by decide +kernel
theorem d10_10 : decode jdk_35_method_44_code 10 = .ok (.ldiv, 1) := by decide +kernel
theorem d10_11 : decode jdk_35_method_44_code 11 = .ok (.iconst 1, 1) := by decide +kernel
theorem d10_12 : decode jdk_35_method_44_code 12 = .ok (.lshl, 1) := by decide +kernel
theorem d10_13 : decode jdk_35_method_44_code 13 = .ok (.lstore 4, 2) := by decide +kernel
theorem d10_15 : decode jdk_35_method_44_code 15 = .ok (.lload_n 0, 1) := by decide +kernel
theorem d10_16 : decode jdk_35_method_44_code 16 = .ok (.lload 4, 2) := by decide +kernel
theorem d10_18 : decode jdk_35_method_44_code 18 = .ok (.lload_n 2, 1) := by decide +kernel
theorem d10_19 : decode jdk_35_method_44_code 19 = .ok (.lmul, 1) := by decide +kernel
theorem d10_20 : decode jdk_35_method_44_code 20 = .ok (.lsub, 1) := by decide +kernel
theorem d10_21 : decode jdk_35_method_44_code 21 = .ok (.lstore 6, 2) := by decide +kernel
theorem d10_23 : decode jdk_35_method_44_code 23 = .ok (.lload 4, 2) := by decide +kernel
theorem d10_25 : decode jdk_35_method_44_code 25 = .ok (.lload 6, 2) := by decide +kernel
theorem d10_27 : decode jdk_35_method_44_code 27 = .ok (.lload 6, 2) := by decide +kernel
theorem d10_29 : decode jdk_35_method_44_code 29 = .ok (.lload_n 2, 1) := by decide +kernel
theorem d10_30 : decode jdk_35_method_44_code 30 = .ok (.lsub, 1) := by decide +kernel
theorem d10_31 : decode jdk_35_method_44_code 31 = .ok (.ldc2_w 306, 3) := by decide +kernel
theorem d10_34 : decode jdk_35_method_44_code 34 = .ok (.lxor, 1) := by decide +kernel
theorem d10_35 : decode jdk_35_method_44_code 35 = .ok (.lor, 1) := by decide +kernel
theorem d10_36 : decode jdk_35_method_44_code 36 = .ok (.bipush 63, 2) := by decide +kernel
theorem d10_38 : decode jdk_35_method_44_code 38 = .ok (.lushr, 1) := by decide +kernel
theorem d10_39 : decode jdk_35_method_44_code 39 = .ok (.ladd, 1) := by decide +kernel
theorem d10_40 : decode jdk_35_method_44_code 40 = .ok (.lreturn, 1) := by decide +kernel
theorem d10_41 : decode jdk_35_method_44_code 41 = .ok (.lload_n 0, 1) := by decide +kernel
theorem d10_42 : decode jdk_35_method_44_code 42 = .ok (.lload_n 0, 1) := by decide +kernel
theorem d10_43 : decode jdk_35_method_44_code 43 = .ok (.lload_n 2, 1) := by decide +kernel
theorem d10_44 : decode jdk_35_method_44_code 44 = .ok (.lsub, 1) := by decide +kernel
theorem d10_45 : decode jdk_35_method_44_code 45 = .ok (.ldc2_w 306, 3) := by decide +kernel
theorem d10_48 : decode jdk_35_method_44_code 48 = .ok (.lxor, 1) := by decide +kernel
theorem d10_49 : decode jdk_35_method_44_code 49 = .ok (.land, 1) := by decide +kernel
theorem d10_50 : decode jdk_35_method_44_code 50 = .ok (.bipush 63, 2) := by decide +kernel
theorem d10_52 : decode jdk_35_method_44_code 52 = .ok (.lushr, 1) := by decide +kernel
theorem d10_53 : decode jdk_35_method_44_code 53 = .ok (.lreturn, 1) := by decide +kernel
def f10_0 (q0 : Int64) (q1 : Int64) : Int64 := (if q1 < (0 : Int64) then (((q0 &&& ((q0 - q1) ^^^ (-1 : Int64))).toUInt64 >>> ((63 : Int32) &&& 0x3f).toInt64.toUInt64).toInt64) else (((((q0.toUInt64 >>> ((1 : Int32) &&& 0x3f).toInt64.toUInt64).toInt64) / q1) <<< ((1 : Int32) &&& 0x3f).toInt64) + ((((q0 - (((((q0.toUInt64 >>> ((1 : Int32) &&& 0x3f).toInt64.toUInt64).toInt64) / q1) <<< ((1 : Int32) &&& 0x3f).toInt64) * q1)) ||| (((q0 - (((((q0.toUInt64 >>> ((1 : Int32) &&& 0x3f).toInt64.toUInt64).toInt64) / q1) <<< ((1 : Int32) &&& 0x3f).toInt64) * q1)) - q1) ^^^ (-1 : Int64))).toUInt64 >>> ((63 : Int32) &&& 0x3f).toInt64.toUInt64).toInt64)))
set_option maxRecDepth 65536 in
set_option maxHeartbeats 40000000 in
theorem g10_0 {p : Program} {l : Launch} {e : Env} {s : State} {m : MethodId} {below : List Frame} {meth : Method} {c : Code} {s₁ : State} {ws : List Jvm.Cond} {Z : State} {aw : Array Value} (hw : ∀ d ∈ tables_1, d.before aw Z = true) {h0 : Heap} (q0 : Int64) (q1 : Int64) (H : ¬ (q1 = (0 : Int64)))
    (Bd : BodyLoose p l (⟨"java/lang/Long", "divideUnsigned", "(JJ)J"⟩ : MethodName) (head1 (Jvm.Cond.code (⟨"java/lang/Long", "divideUnsigned", "(JJ)J"⟩ : MethodName) jdk_35_method_44_code 8 (some .long) :: ws) ({ frames := 0, cells := 0, slots := 0, locals := 0 } : Room)) jdk_35_method_44_code 8 (some .long) e s m #[(.long q0), (.long q1)] below meth c s₁) (hml : c.maxLocals = 8) (hZ : Z.Warmed39 s.vm) (T0 : State) (X0 : Stand p l e ({ frames := 0, cells := 0, slots := 0, locals := 0 } : Room) s m #[(.long q0), (.long q1)] below meth c T0 [] 0 0) (e0 : T0.heap = h0) :
    own_Go p e below s ({ frames := 0, cells := 0, slots := 0, locals := 0 } : Room).cells ({ frames := 0, cells := 0, slots := 0, locals := 0 } : Room).slots (some (.long (f10_0 q0 q1))) (own_K0 h0) (T0.setTop (mkF m 0 #[.val (.long q0), .second, .val (.long q1), .second, .unset, .unset, .unset, .unset] [])) := by
  have hx := Bd.exec
  have hby := Bd.bytes
  have hown : s.vm.findClass "java/lang/Long" = some m.cls := findClass_of_methodNamed Bd.named
  unfold f10_0
  refine own_pre (F' := T0.setTop (mkF m 1 #[.val (.long q0), .second, .val (.long q1), .second, .unset, .unset, .unset, .unset] [(.long q1)])) (fun _ k => XS.lloadN X0.here hx rfl (hb hby d10_0) rfl k) ?_
  refine own_pre (F' := T0.setTop (mkF m 2 #[.val (.long q0), .second, .val (.long q1), .second, .unset, .unset, .unset, .unset] [(.long (0 : Int64)), (.long q1)])) (fun _ k => XS.lconst X0.here hx rfl (hb hby d10_1) k) ?_
  refine own_pre (F' := T0.setTop (mkF m 3 #[.val (.long q0), .second, .val (.long q1), .second, .unset, .unset, .unset, .unset] [(.int (lcmpW q1 (0 : Int64)))])) (fun _ k => XS.lcmp X0.here hx rfl (hb hby d10_2) rfl k) ?_
  refine own_iteJ (fun hc3 => ?_) (fun hc3 => ?_)
  · skip
    refine own_pre (F' := T0.setTop (mkF m 41 #[.val (.long q0), .second, .val (.long q1), .second, .unset, .unset, .unset, .unset] [])) (fun _ k => XS.ifYes X0.here hx rfl (pc0 := 3) (pc' := 41) rfl (hb hby d10_3) rfl ((if0 _ _).trans (tlt ((lw_lt _ _).mpr hc3)).1) (by decide) (by decide) k) ?_
    refine own_pre (F' := T0.setTop (mkF m 42 #[.val (.long q0), .second, .val (.long q1), .second, .unset, .unset, .unset, .unset] [(.long q0)])) (fun _ k => XS.lloadN X0.here hx rfl (hb hby d10_41) rfl k) ?_
    refine own_pre (F' := T0.setTop (mkF m 43 #[.val (.long q0), .second, .val (.long q1), .second, .unset, .unset, .unset, .unset] [(.long q0), (.long q0)])) (fun _ k => XS.lloadN X0.here hx rfl (hb hby d10_42) rfl k) ?_
    refine own_pre (F' := T0.setTop (mkF m 44 #[.val (.long q0), .second, .val (.long q1), .second, .unset, .unset, .unset, .unset] [(.long q1), (.long q0), (.long q0)])) (fun _ k => XS.lloadN X0.here hx rfl (hb hby d10_43) rfl k) ?_
    refine own_pre (F' := T0.setTop (mkF m 45 #[.val (.long q0), .second, .val (.long q1), .second, .unset, .unset, .unset, .unset] [(.long (q0 - q1)), (.long q0)])) (fun _ k => XS.lsub X0.here hx rfl (hb hby d10_44) rfl k) ?_
    refine own_pre (F' := T0.setTop (mkF m 48 #[.val (.long q0), .second, .val (.long q1), .second, .unset, .unset, .unset, .unset] [(.long (-1 : Int64)), (.long (q0 - q1)), (.long q0)])) (fun _ k => X0.ldc2Long hx hown (mvT hZ (hw _ (List.mem_of_getElem? (i := 40) rfl))) (g := (mkF m 45 #[.val (.long q0), .second, .val (.long q1), .second, .unset, .unset, .unset, .unset] [(.long (q0 - q1)), (.long q0)])) rfl (hb hby d10_45) _ k) ?_
    refine own_pre (F' := T0.setTop (mkF m 49 #[.val (.long q0), .second, .val (.long q1), .second, .unset, .unset, .unset, .unset] [(.long ((q0 - q1) ^^^ (-1 : Int64))), (.long q0)])) (fun _ k => XS.lxor X0.here hx rfl (hb hby d10_48) rfl k) ?_
    refine own_pre (F' := T0.setTop (mkF m 50 #[.val (.long q0), .second, .val (.long q1), .second, .unset, .unset, .unset, .unset] [(.long (q0 &&& ((q0 - q1) ^^^ (-1 : Int64))))])) (fun _ k => XS.land X0.here hx rfl (hb hby d10_49) rfl k) ?_
    refine own_pre (F' := T0.setTop (mkF m 52 #[.val (.long q0), .second, .val (.long q1), .second, .unset, .unset, .unset, .unset] [(.int (63 : Int32)), (.long (q0 &&& ((q0 - q1) ^^^ (-1 : Int64))))])) (fun _ k => XS.bipush X0.here hx rfl (hb hby d10_50) k) ?_
    refine own_pre (F' := T0.setTop (mkF m 53 #[.val (.long q0), .second, .val (.long q1), .second, .unset, .unset, .unset, .unset] [(.long (((q0 &&& ((q0 - q1) ^^^ (-1 : Int64))).toUInt64 >>> ((63 : Int32) &&& 0x3f).toInt64.toUInt64).toInt64))])) (fun _ k => XS.lushr X0.here hx rfl (hb hby d10_52) rfl k) ?_
    exact own_ret X0 hx Bd.notSynchronized Bd.returns rfl (Or.inr (Or.inl ⟨rfl, rfl, _, rfl⟩)) (hb hby d10_53) ⟨rfl, e0⟩ (by decide) (by decide)
  · skip
    refine own_pre (F' := T0.setTop (mkF m 6 #[.val (.long q0), .second, .val (.long q1), .second, .unset, .unset, .unset, .unset] [])) (fun _ k => XS.ifNo X0.here hx rfl (hb hby d10_3) rfl ((if0 _ _).trans (flt (fun q => hc3 ((lw_lt _ _).mp q))).1) k) ?_
    refine own_pre (F' := T0.setTop (mkF m 7 #[.val (.long q0), .second, .val (.long q1), .second, .unset, .unset, .unset, .unset] [(.long q0)])) (fun _ k => XS.lloadN X0.here hx rfl (hb hby d10_6) rfl k) ?_
    refine own_pre (F' := T0.setTop (mkF m 8 #[.val (.long q0), .second, .val (.long q1), .second, .unset, .unset, .unset, .unset] [(.int (1 : Int32)), (.long q0)])) (fun _ k => XS.iconst X0.here hx rfl (hb hby d10_7) k) ?_
    refine own_pre (F' := T0.setTop (mkF m 9 #[.val (.long q0), .second, .val (.long q1), .second, .unset, .unset, .unset, .unset] [(.long ((q0.toUInt64 >>> ((1 : Int32) &&& 0x3f).toInt64.toUInt64).toInt64))])) (fun _ k => XS.lushr X0.here hx rfl (hb hby d10_8) rfl k) ?_
    refine own_pre (F' := T0.setTop (mkF m 10 #[.val (.long q0), .second, .val (.long q1), .second, .unset, .unset, .unset, .unset] [(.long q1), (.long ((q0.toUInt64 >>> ((1 : Int32) &&& 0x3f).toInt64.toUInt64).toInt64))])) (fun _ k => XS.lloadN X0.here hx rfl (hb hby d10_9) rfl k) ?_
    refine own_pre (F' := T0.setTop (mkF m 11 #[.val (.long q0), .second, .val (.long q1), .second, .unset, .unset, .unset, .unset] [(.long (((q0.toUInt64 >>> ((1 : Int32) &&& 0x3f).toInt64.toUInt64).toInt64) / q1))])) (fun _ k => XS.ldiv X0.here hx rfl (hb hby d10_10) rfl H k) ?_
    refine own_pre (F' := T0.setTop (mkF m 12 #[.val (.long q0), .second, .val (.long q1), .second, .unset, .unset, .unset, .unset] [(.int (1 : Int32)), (.long (((q0.toUInt64 >>> ((1 : Int32) &&& 0x3f).toInt64.toUInt64).toInt64) / q1))])) (fun _ k => XS.iconst X0.here hx rfl (hb hby d10_11) k) ?_
    refine own_pre (F' := T0.setTop (mkF m 13 #[.val (.long q0), .second, .val (.long q1), .second, .unset, .unset, .unset, .unset] [(.long ((((q0.toUInt64 >>> ((1 : Int32) &&& 0x3f).toInt64.toUInt64).toInt64) / q1) <<< ((1 : Int32) &&& 0x3f).toInt64))])) (fun _ k => XS.lshl X0.here hx rfl (hb hby d10_12) rfl k) ?_
    refine own_pre (F' := T0.setTop (mkF m 15 #[.val (.long q0), .second, .val (.long q1), .second, .val (.long ((((q0.toUInt64 >>> ((1 : Int32) &&& 0x3f).toInt64.toUInt64).toInt64) / q1) <<< ((1 : Int32) &&& 0x3f).toInt64)), .second, .unset, .unset] [])) (fun _ k => XS.lstore X0.here hx rfl (hb hby d10_13) rfl (l' := #[.val (.long q0), .second, .val (.long q1), .second, .val (.long ((((q0.toUInt64 >>> ((1 : Int32) &&& 0x3f).toInt64.toUInt64).toInt64) / q1) <<< ((1 : Int32) &&& 0x3f).toInt64)), .second, .unset, .unset]) rfl k) ?_
    refine own_pre (F' := T0.setTop (mkF m 16 #[.val (.long q0), .second, .val (.long q1), .second, .val (.long ((((q0.toUInt64 >>> ((1 : Int32) &&& 0x3f).toInt64.toUInt64).toInt64) / q1) <<< ((1 : Int32) &&& 0x3f).toInt64)), .second, .unset, .unset] [(.long q0)])) (fun _ k => XS.lloadN X0.here hx rfl (hb hby d10_15) rfl k) ?_
    refine own_pre (F' := T0.setTop (mkF m 18 #[.val (.long q0), .second, .val (.long q1), .second, .val (.long ((((q0.toUInt64 >>> ((1 : Int32) &&& 0x3f).toInt64.toUInt64).toInt64) / q1) <<< ((1 : Int32) &&& 0x3f).toInt64)), .second, .unset, .unset] [(.long ((((q0.toUInt64 >>> ((1 : Int32) &&& 0x3f).toInt64.toUInt64).toInt64) / q1) <<< ((1 : Int32) &&& 0x3f).toInt64)), (.long q0)])) (fun _ k => XS.lload X0.here hx rfl (hb hby d10_16) rfl k) ?_
    refine own_pre (F' := T0.setTop (mkF m 19 #[.val (.long q0), .second, .val (.long q1), .second, .val (.long ((((q0.toUInt64 >>> ((1 : Int32) &&& 0x3f).toInt64.toUInt64).toInt64) / q1) <<< ((1 : Int32) &&& 0x3f).toInt64)), .second, .unset, .unset] [(.long q1), (.long ((((q0.toUInt64 >>> ((1 : Int32) &&& 0x3f).toInt64.toUInt64).toInt64) / q1) <<< ((1 : Int32) &&& 0x3f).toInt64)), (.long q0)])) (fun _ k => XS.lloadN X0.here hx rfl (hb hby d10_18) rfl k) ?_
    refine own_pre (F' := T0.setTop (mkF m 20 #[.val (.long q0), .second, .val (.long q1), .second, .val (.long ((((q0.toUInt64 >>> ((1 : Int32) &&& 0x3f).toInt64.toUInt64).toInt64) / q1) <<< ((1 : Int32) &&& 0x3f).toInt64)), .second, .unset, .unset] [(.long (((((q0.toUInt64 >>> ((1 : Int32) &&& 0x3f).toInt64.toUInt64).toInt64) / q1) <<< ((1 : Int32) &&& 0x3f).toInt64) * q1)), (.long q0)])) (fun _ k => XS.lmul X0.here hx rfl (hb hby d10_19) rfl k) ?_
    refine own_pre (F' := T0.setTop (mkF m 21 #[.val (.long q0), .second, .val (.long q1), .second, .val (.long ((((q0.toUInt64 >>> ((1 : Int32) &&& 0x3f).toInt64.toUInt64).toInt64) / q1) <<< ((1 : Int32) &&& 0x3f).toInt64)), .second, .unset, .unset] [(.long (q0 - (((((q0.toUInt64 >>> ((1 : Int32) &&& 0x3f).toInt64.toUInt64).toInt64) / q1) <<< ((1 : Int32) &&& 0x3f).toInt64) * q1)))])) (fun _ k => XS.lsub X0.here hx rfl (hb hby d10_20) rfl k) ?_
    refine own_pre (F' := T0.setTop (mkF m 23 #[.val (.long q0), .second, .val (.long q1), .second, .val (.long ((((q0.toUInt64 >>> ((1 : Int32) &&& 0x3f).toInt64.toUInt64).toInt64) / q1) <<< ((1 : Int32) &&& 0x3f).toInt64)), .second, .val (.long (q0 - (((((q0.toUInt64 >>> ((1 : Int32) &&& 0x3f).toInt64.toUInt64).toInt64) / q1) <<< ((1 : Int32) &&& 0x3f).toInt64) * q1))), .second] [])) (fun _ k => XS.lstore X0.here hx rfl (hb hby d10_21) rfl (l' := #[.val (.long q0), .second, .val (.long q1), .second, .val (.long ((((q0.toUInt64 >>> ((1 : Int32) &&& 0x3f).toInt64.toUInt64).toInt64) / q1) <<< ((1 : Int32) &&& 0x3f).toInt64)), .second, .val (.long (q0 - (((((q0.toUInt64 >>> ((1 : Int32) &&& 0x3f).toInt64.toUInt64).toInt64) / q1) <<< ((1 : Int32) &&& 0x3f).toInt64) * q1))), .second]) rfl k) ?_
    refine own_pre (F' := T0.setTop (mkF m 25 #[.val (.long q0), .second, .val (.long q1), .second, .val (.long ((((q0.toUInt64 >>> ((1 : Int32) &&& 0x3f).toInt64.toUInt64).toInt64) / q1) <<< ((1 : Int32) &&& 0x3f).toInt64)), .second, .val (.long (q0 - (((((q0.toUInt64 >>> ((1 : Int32) &&& 0x3f).toInt64.toUInt64).toInt64) / q1) <<< ((1 : Int32) &&& 0x3f).toInt64) * q1))), .second] [(.long ((((q0.toUInt64 >>> ((1 : Int32) &&& 0x3f).toInt64.toUInt64).toInt64) / q1) <<< ((1 : Int32) &&& 0x3f).toInt64))])) (fun _ k => XS.lload X0.here hx rfl (hb hby d10_23) rfl k) ?_
    refine own_pre (F' := T0.setTop (mkF m 27 #[.val (.long q0), .second, .val (.long q1), .second, .val (.long ((((q0.toUInt64 >>> ((1 : Int32) &&& 0x3f).toInt64.toUInt64).toInt64) / q1) <<< ((1 : Int32) &&& 0x3f).toInt64)), .second, .val (.long (q0 - (((((q0.toUInt64 >>> ((1 : Int32) &&& 0x3f).toInt64.toUInt64).toInt64) / q1) <<< ((1 : Int32) &&& 0x3f).toInt64) * q1))), .second] [(.long (q0 - (((((q0.toUInt64 >>> ((1 : Int32) &&& 0x3f).toInt64.toUInt64).toInt64) / q1) <<< ((1 : Int32) &&& 0x3f).toInt64) * q1))), (.long ((((q0.toUInt64 >>> ((1 : Int32) &&& 0x3f).toInt64.toUInt64).toInt64) / q1) <<< ((1 : Int32) &&& 0x3f).toInt64))])) (fun _ k => XS.lload X0.here hx rfl (hb hby d10_25) rfl k) ?_
    refine own_pre (F' := T0.setTop (mkF m 29 #[.val (.long q0), .second, .val (.long q1), .second, .val (.long ((((q0.toUInt64 >>> ((1 : Int32) &&& 0x3f).toInt64.toUInt64).toInt64) / q1) <<< ((1 : Int32) &&& 0x3f).toInt64)), .second, .val (.long (q0 - (((((q0.toUInt64 >>> ((1 : Int32) &&& 0x3f).toInt64.toUInt64).toInt64) / q1) <<< ((1 : Int32) &&& 0x3f).toInt64) * q1))), .second] [(.long (q0 - (((((q0.toUInt64 >>> ((1 : Int32) &&& 0x3f).toInt64.toUInt64).toInt64) / q1) <<< ((1 : Int32) &&& 0x3f).toInt64) * q1))), (.long (q0 - (((((q0.toUInt64 >>> ((1 : Int32) &&& 0x3f).toInt64.toUInt64).toInt64) / q1) <<< ((1 : Int32) &&& 0x3f).toInt64) * q1))), (.long ((((q0.toUInt64 >>> ((1 : Int32) &&& 0x3f).toInt64.toUInt64).toInt64) / q1) <<< ((1 : Int32) &&& 0x3f).toInt64))])) (fun _ k => XS.lload X0.here hx rfl (hb hby d10_27) rfl k) ?_
    refine own_pre (F' := T0.setTop (mkF m 30 #[.val (.long q0), .second, .val (.long q1), .second, .val (.long ((((q0.toUInt64 >>> ((1 : Int32) &&& 0x3f).toInt64.toUInt64).toInt64) / q1) <<< ((1 : Int32) &&& 0x3f).toInt64)), .second, .val (.long (q0 - (((((q0.toUInt64 >>> ((1 : Int32) &&& 0x3f).toInt64.toUInt64).toInt64) / q1) <<< ((1 : Int32) &&& 0x3f).toInt64) * q1))), .second] [(.long q1), (.long (q0 - (((((q0.toUInt64 >>> ((1 : Int32) &&& 0x3f).toInt64.toUInt64).toInt64) / q1) <<< ((1 : Int32) &&& 0x3f).toInt64) * q1))), (.long (q0 - (((((q0.toUInt64 >>> ((1 : Int32) &&& 0x3f).toInt64.toUInt64).toInt64) / q1) <<< ((1 : Int32) &&& 0x3f).toInt64) * q1))), (.long ((((q0.toUInt64 >>> ((1 : Int32) &&& 0x3f).toInt64.toUInt64).toInt64) / q1) <<< ((1 : Int32) &&& 0x3f).toInt64))])) (fun _ k => XS.lloadN X0.here hx rfl (hb hby d10_29) rfl k) ?_
    refine own_pre (F' := T0.setTop (mkF m 31 #[.val (.long q0), .second, .val (.long q1), .second, .val (.long ((((q0.toUInt64 >>> ((1 : Int32) &&& 0x3f).toInt64.toUInt64).toInt64) / q1) <<< ((1 : Int32) &&& 0x3f).toInt64)), .second, .val (.long (q0 - (((((q0.toUInt64 >>> ((1 : Int32) &&& 0x3f).toInt64.toUInt64).toInt64) / q1) <<< ((1 : Int32) &&& 0x3f).toInt64) * q1))), .second] [(.long ((q0 - (((((q0.toUInt64 >>> ((1 : Int32) &&& 0x3f).toInt64.toUInt64).toInt64) / q1) <<< ((1 : Int32) &&& 0x3f).toInt64) * q1)) - q1)), (.long (q0 - (((((q0.toUInt64 >>> ((1 : Int32) &&& 0x3f).toInt64.toUInt64).toInt64) / q1) <<< ((1 : Int32) &&& 0x3f).toInt64) * q1))), (.long ((((q0.toUInt64 >>> ((1 : Int32) &&& 0x3f).toInt64.toUInt64).toInt64) / q1) <<< ((1 : Int32) &&& 0x3f).toInt64))])) (fun _ k => XS.lsub X0.here hx rfl (hb hby d10_30) rfl k) ?_
    refine own_pre (F' := T0.setTop (mkF m 34 #[.val (.long q0), .second, .val (.long q1), .second, .val (.long ((((q0.toUInt64 >>> ((1 : Int32) &&& 0x3f).toInt64.toUInt64).toInt64) / q1) <<< ((1 : Int32) &&& 0x3f).toInt64)), .second, .val (.long (q0 - (((((q0.toUInt64 >>> ((1 : Int32) &&& 0x3f).toInt64.toUInt64).toInt64) / q1) <<< ((1 : Int32) &&& 0x3f).toInt64) * q1))), .second] [(.long (-1 : Int64)), (.long ((q0 - (((((q0.toUInt64 >>> ((1 : Int32) &&& 0x3f).toInt64.toUInt64).toInt64) / q1) <<< ((1 : Int32) &&& 0x3f).toInt64) * q1)) - q1)), (.long (q0 - (((((q0.toUInt64 >>> ((1 : Int32) &&& 0x3f).toInt64.toUInt64).toInt64) / q1) <<< ((1 : Int32) &&& 0x3f).toInt64) * q1))), (.long ((((q0.toUInt64 >>> ((1 : Int32) &&& 0x3f).toInt64.toUInt64).toInt64) / q1) <<< ((1 : Int32) &&& 0x3f).toInt64))])) (fun _ k => X0.ldc2Long hx hown (mvT hZ (hw _ (List.mem_of_getElem? (i := 40) rfl))) (g := (mkF m 31 #[.val (.long q0), .second, .val (.long q1), .second, .val (.long ((((q0.toUInt64 >>> ((1 : Int32) &&& 0x3f).toInt64.toUInt64).toInt64) / q1) <<< ((1 : Int32) &&& 0x3f).toInt64)), .second, .val (.long (q0 - (((((q0.toUInt64 >>> ((1 : Int32) &&& 0x3f).toInt64.toUInt64).toInt64) / q1) <<< ((1 : Int32) &&& 0x3f).toInt64) * q1))), .second] [(.long ((q0 - (((((q0.toUInt64 >>> ((1 : Int32) &&& 0x3f).toInt64.toUInt64).toInt64) / q1) <<< ((1 : Int32) &&& 0x3f).toInt64) * q1)) - q1)), (.long (q0 - (((((q0.toUInt64 >>> ((1 : Int32) &&& 0x3f).toInt64.toUInt64).toInt64) / q1) <<< ((1 : Int32) &&& 0x3f).toInt64) * q1))), (.long ((((q0.toUInt64 >>> ((1 : Int32) &&& 0x3f).toInt64.toUInt64).toInt64) / q1) <<< ((1 : Int32) &&& 0x3f).toInt64))])) rfl (hb hby d10_31) _ k) ?_
    refine own_pre (F' := T0.setTop (mkF m 35 #[.val (.long q0), .second, .val (.long q1), .second, .val (.long ((((q0.toUInt64 >>> ((1 : Int32) &&& 0x3f).toInt64.toUInt64).toInt64) / q1) <<< ((1 : Int32) &&& 0x3f).toInt64)), .second, .val (.long (q0 - (((((q0.toUInt64 >>> ((1 : Int32) &&& 0x3f).toInt64.toUInt64).toInt64) / q1) <<< ((1 : Int32) &&& 0x3f).toInt64) * q1))), .second] [(.long (((q0 - (((((q0.toUInt64 >>> ((1 : Int32) &&& 0x3f).toInt64.toUInt64).toInt64) / q1) <<< ((1 : Int32) &&& 0x3f).toInt64) * q1)) - q1) ^^^ (-1 : Int64))), (.long (q0 - (((((q0.toUInt64 >>> ((1 : Int32) &&& 0x3f).toInt64.toUInt64).toInt64) / q1) <<< ((1 : Int32) &&& 0x3f).toInt64) * q1))), (.long ((((q0.toUInt64 >>> ((1 : Int32) &&& 0x3f).toInt64.toUInt64).toInt64) / q1) <<< ((1 : Int32) &&& 0x3f).toInt64))])) (fun _ k => XS.lxor X0.here hx rfl (hb hby d10_34) rfl k) ?_
    refine own_pre (F' := T0.setTop (mkF m 36 #[.val (.long q0), .second, .val (.long q1), .second, .val (.long ((((q0.toUInt64 >>> ((1 : Int32) &&& 0x3f).toInt64.toUInt64).toInt64) / q1) <<< ((1 : Int32) &&& 0x3f).toInt64)), .second, .val (.long (q0 - (((((q0.toUInt64 >>> ((1 : Int32) &&& 0x3f).toInt64.toUInt64).toInt64) / q1) <<< ((1 : Int32) &&& 0x3f).toInt64) * q1))), .second] [(.long ((q0 - (((((q0.toUInt64 >>> ((1 : Int32) &&& 0x3f).toInt64.toUInt64).toInt64) / q1) <<< ((1 : Int32) &&& 0x3f).toInt64) * q1)) ||| (((q0 - (((((q0.toUInt64 >>> ((1 : Int32) &&& 0x3f).toInt64.toUInt64).toInt64) / q1) <<< ((1 : Int32) &&& 0x3f).toInt64) * q1)) - q1) ^^^ (-1 : Int64)))), (.long ((((q0.toUInt64 >>> ((1 : Int32) &&& 0x3f).toInt64.toUInt64).toInt64) / q1) <<< ((1 : Int32) &&& 0x3f).toInt64))])) (fun _ k => XS.lor X0.here hx rfl (hb hby d10_35) rfl k) ?_
    refine own_pre (F' := T0.setTop (mkF m 38 #[.val (.long q0), .second, .val (.long q1), .second, .val (.long ((((q0.toUInt64 >>> ((1 : Int32) &&& 0x3f).toInt64.toUInt64).toInt64) / q1) <<< ((1 : Int32) &&& 0x3f).toInt64)), .second, .val (.long (q0 - (((((q0.toUInt64 >>> ((1 : Int32) &&& 0x3f).toInt64.toUInt64).toInt64) / q1) <<< ((1 : Int32) &&& 0x3f).toInt64) * q1))), .second] [(.int (63 : Int32)), (.long ((q0 - (((((q0.toUInt64 >>> ((1 : Int32) &&& 0x3f).toInt64.toUInt64).toInt64) / q1) <<< ((1 : Int32) &&& 0x3f).toInt64) * q1)) ||| (((q0 - (((((q0.toUInt64 >>> ((1 : Int32) &&& 0x3f).toInt64.toUInt64).toInt64) / q1) <<< ((1 : Int32) &&& 0x3f).toInt64) * q1)) - q1) ^^^ (-1 : Int64)))), (.long ((((q0.toUInt64 >>> ((1 : Int32) &&& 0x3f).toInt64.toUInt64).toInt64) / q1) <<< ((1 : Int32) &&& 0x3f).toInt64))])) (fun _ k => XS.bipush X0.here hx rfl (hb hby d10_36) k) ?_
    refine own_pre (F' := T0.setTop (mkF m 39 #[.val (.long q0), .second, .val (.long q1), .second, .val (.long ((((q0.toUInt64 >>> ((1 : Int32) &&& 0x3f).toInt64.toUInt64).toInt64) / q1) <<< ((1 : Int32) &&& 0x3f).toInt64)), .second, .val (.long (q0 - (((((q0.toUInt64 >>> ((1 : Int32) &&& 0x3f).toInt64.toUInt64).toInt64) / q1) <<< ((1 : Int32) &&& 0x3f).toInt64) * q1))), .second] [(.long ((((q0 - (((((q0.toUInt64 >>> ((1 : Int32) &&& 0x3f).toInt64.toUInt64).toInt64) / q1) <<< ((1 : Int32) &&& 0x3f).toInt64) * q1)) ||| (((q0 - (((((q0.toUInt64 >>> ((1 : Int32) &&& 0x3f).toInt64.toUInt64).toInt64) / q1) <<< ((1 : Int32) &&& 0x3f).toInt64) * q1)) - q1) ^^^ (-1 : Int64))).toUInt64 >>> ((63 : Int32) &&& 0x3f).toInt64.toUInt64).toInt64)), (.long ((((q0.toUInt64 >>> ((1 : Int32) &&& 0x3f).toInt64.toUInt64).toInt64) / q1) <<< ((1 : Int32) &&& 0x3f).toInt64))])) (fun _ k => XS.lushr X0.here hx rfl (hb hby d10_38) rfl k) ?_
    refine own_pre (F' := T0.setTop (mkF m 40 #[.val (.long q0), .second, .val (.long q1), .second, .val (.long ((((q0.toUInt64 >>> ((1 : Int32) &&& 0x3f).toInt64.toUInt64).toInt64) / q1) <<< ((1 : Int32) &&& 0x3f).toInt64)), .second, .val (.long (q0 - (((((q0.toUInt64 >>> ((1 : Int32) &&& 0x3f).toInt64.toUInt64).toInt64) / q1) <<< ((1 : Int32) &&& 0x3f).toInt64) * q1))), .second] [(.long (((((q0.toUInt64 >>> ((1 : Int32) &&& 0x3f).toInt64.toUInt64).toInt64) / q1) <<< ((1 : Int32) &&& 0x3f).toInt64) + ((((q0 - (((((q0.toUInt64 >>> ((1 : Int32) &&& 0x3f).toInt64.toUInt64).toInt64) / q1) <<< ((1 : Int32) &&& 0x3f).toInt64) * q1)) ||| (((q0 - (((((q0.toUInt64 >>> ((1 : Int32) &&& 0x3f).toInt64.toUInt64).toInt64) / q1) <<< ((1 : Int32) &&& 0x3f).toInt64) * q1)) - q1) ^^^ (-1 : Int64))).toUInt64 >>> ((63 : Int32) &&& 0x3f).toInt64.toUInt64).toInt64)))])) (fun _ k => XS.ladd X0.here hx rfl (hb hby d10_39) rfl k) ?_
    exact own_ret X0 hx Bd.notSynchronized Bd.returns rfl (Or.inr (Or.inl ⟨rfl, rfl, _, rfl⟩)) (hb hby d10_40) ⟨rfl, e0⟩ (by decide) (by decide)
theorem ef_10 (m : MethodId) (q0 : Int64) (q1 : Int64) : entryFrame m #[(.long q0), (.long q1)] 8 = mkF m 0 #[.val (.long q0), .second, .val (.long q1), .second, .unset, .unset, .unset, .unset] [] := by first | (simp [entryFrame, mkF, argsToLocals, Value.category]; done) | rfl
set_option maxRecDepth 65536 in
set_option maxHeartbeats 40000000 in
theorem rm10 (l : Launch) (Z : State) (aw : Array Value) (hw : ∀ d ∈ tables_1, d.before aw Z = true) (ws : List Jvm.Cond) (q0 : Int64) (q1 : Int64) (h0 : Heap) (H : ¬ (q1 = (0 : Int64))) :
    MetFree l (⟨"java/lang/Long", "divideUnsigned", "(JJ)J"⟩ : MethodName) (head1 (Jvm.Cond.code (⟨"java/lang/Long", "divideUnsigned", "(JJ)J"⟩ : MethodName) jdk_35_method_44_code 8 (some .long) :: ws) ({ frames := 0, cells := 0, slots := 0, locals := 0 } : Room)) (fun a U => a = #[(.long q0), (.long q1)] ∧ Z.Warmed39 U.vm ∧ U.heap = h0) (fun _ _ _ _ _ => True) (fun _ U o U' => ∃ v L, o = .returned v ∧ own_Q (some (.long (f10_0 q0 q1))) (own_K0 h0) v U'.heap L ∧ FrameEnd U o U' L ({ frames := 0, cells := 0, slots := 0, locals := 0 } : Room).cells ({ frames := 0, cells := 0, slots := 0, locals := 0 } : Room).slots) := by
  refine MetFree.of_bodySF (plainFor_of_name own_pn0) hisR ?_
  intro p e s m args below meth c s₁ Bd hml0 hP hK
  obtain ⟨rfl, hZ, hh⟩ := hP
  have hml : c.maxLocals = 8 := hml0
  have e0 : s₁.heap = h0 := by rw [← hh, Bd.state]; rfl
  exact own_pre (fun t k => castTop (ef_10 m q0 q1) k) (g10_0 hw q0 q1 H Bd hml hZ s₁ (Stand.of_body Bd) e0)
/-! body 11 -/
theorem d11_0 : decode jdk_29_method_45_code 0 = .ok (.lload_n 0, 1) := by decide +kernel
theorem d11_1 : decode jdk_29_method_45_code 1 = .ok (.bipush 32, 2) := by decide +kernel
theorem d11_3 : decode jdk_29_method_45_code 3 = .ok (.lshr, 1) := by decide +kernel
theorem d11_4 : decode jdk_29_method_45_code 4 = .ok (.lstore 4, 2) := by decide +kernel
theorem d11_6 : decode jdk_29_method_45_code 6 = .ok (.lload_n 0, 1) := by decide +kernel
theorem d11_7 : decode jdk_29_method_45_code 7 = .ok (.ldc2_w 138, 3) := by decide +kernel
theorem d11_10 : decode jdk_29_method_45_code 10 = .ok (.land, 1) := by decide +kernel
theorem d11_11 : decode jdk_29_method_45_code 11 = .ok (.lstore 6, 2) := by decide +kernel
theorem d11_13 : decode jdk_29_method_45_code 13 = .ok (.lload_n 2, 1) := by decide +kernel
theorem d11_14 : decode jdk_29_method_45_code 14 = .ok (.bipush 32, 2) := by decide +kernel
theorem d11_16 : decode jdk_29_method_45_code 16 = .ok (.lshr, 1) := by decide +kernel
theorem d11_17 : decode jdk_29_method_45_code 17 = .ok (.lstore 8, 2) := by decide +kernel
theorem d11_19 : decode jdk_29_method_45_code 19 = .ok (.lload_n 2, 1) := by decide +kernel
theorem d11_20 : decode jdk_29_method_45_code 20 = .ok (.ldc2_w 138, 3) := by decide +kernel
theorem d11_23 : decode jdk_29_method_45_code 23 = .ok (.land, 1) := by decide +kernel
theorem d11_24 : decode jdk_29_method_45_code 24 = .ok (.lstore 10, 2) := by decide +kernel
theorem d11_26 : decode jdk_29_method_45_code 26 = .ok (.lload 6, 2) := by decide +kernel
theorem d11_28 : decode jdk_29_method_45_code 28 = .ok (.lload 10, 2) := by decide +kernel
theorem d11_30 : decode jdk_29_method_45_code 30 = .ok (.lmul, 1) := by decide +kernel
theorem d11_31 : decode jdk_29_method_45_code 31 = .ok (.lstore 12, 2) := by decide +kernel
theorem d11_33 : decode jdk_29_method_45_code 33 = .ok (.lload 4, 2) := by decide +kernel
theorem d11_35 : decode jdk_29_method_45_code 35 = .ok (.lload 10, 2) := by decide +kernel
theorem d11_37 : decode jdk_29_method_45_code 37 = .ok (.lmul, 1) := by decide +kernel
theorem d11_38 : decode jdk_29_method_45_code 38 = .ok (.lload 12, 2) := by decide +kernel
theorem d11_40 : decode jdk_29_method_45_code 40 = .ok (.bipush 32, 2) := by decide +kernel
theorem d11_42 : decode jdk_29_method_45_code 42 = .ok (.lushr, 1) := by decide +kernel
theorem d11_43 : decode jdk_29_method_45_code 43 = .ok (.ladd, 1) := by decide +kernel
theorem d11_44 : decode jdk_29_method_45_code 44 = .ok (.lstore 14, 2) := by decide +kernel
theorem d11_46 : decode jdk_29_method_45_code 46 = .ok (.lload 14, 2) := by decide +kernel
theorem d11_48 : decode jdk_29_method_45_code 48 = .ok (.ldc2_w 138, 3) := by decide +kernel
theorem d11_51 : decode jdk_29_method_45_code 51 = .ok (.land, 1) := by decide +kernel
theorem d11_52 : decode jdk_29_method_45_code 52 = .ok (.lstore 16, 2) := by decide +kernel
theorem d11_54 : decode jdk_29_method_45_code 54 = .ok (.lload 14, 2) := by decide +kernel
theorem d11_56 : decode jdk_29_method_45_code 56 = .ok (.bipush 32, 2) := by decide +kernel
theorem d11_58 : decode jdk_29_method_45_code 58 = .ok (.lshr, 1) := by decide +kernel
theorem d11_59 : decode jdk_29_method_45_code 59 = .ok (.lstore 18, 2) := by decide +kernel
theorem d11_61 : decode jdk_29_method_45_code 61 = .ok (.lload 16, 2) := by decide +kernel
theorem d11_63 : decode jdk_29_method_45_code 63 = .ok (.lload 6, 2) := by decide +kernel
theorem d11_65 : decode jdk_29_method_45_code 65 = .ok (.lload 8, 2) := by decide +kernel
theorem d11_67 : decode jdk_29_method_45_code 67 = .ok (.lmul, 1) := by decide +kernel
theorem d11_68 : decode jdk_29_method_45_code 68 = .ok (.ladd, 1) := by decide +kernel
theorem d11_69 : decode jdk_29_method_45_code 69 = .ok (.lstore 16, 2) := by decide +kernel
theorem d11_71 : decode jdk_29_method_45_code 71 = .ok (.lload 4, 2) := by decide +kernel
theorem d11_73 : decode jdk_29_method_45_code 73 = .ok (.lload 8, 2) := by decide +kernel
theorem d11_75 : decode jdk_29_method_45_code 75 = .ok (.lmul, 1) := by decide +kernel
theorem d11_76 : decode jdk_29_method_45_code 76 = .ok (.lload 18, 2) := by decide +kernel
theorem d11_78 : decode jdk_29_method_45_code 78 = .ok (.ladd, 1) := by decide +kernel
theorem d11_79 : decode jdk_29_method_45_code 79 = .ok (.lload 16, 2) := by decide +kernel
theorem d11_81 : decode jdk_29_method_45_code 81 = .ok (.bipush 32, 2) := by decide +kernel
theorem d11_83 : decode jdk_29_method_45_code 83 = .ok (.lshr, 1) := by decide +kernel
theorem d11_84 : decode jdk_29_method_45_code 84 = .ok (.ladd, 1) := by decide +kernel
theorem d11_85 : decode jdk_29_method_45_code 85 = .ok (.lreturn, 1) := by decide +kernel
def f11_71 (q0 : Int64) (q1 : Int64) (x4 : Int64) (x8 : Int64) (x16 : Int64) (x18 : Int64) : Int64 := (((x4 * x8) + x18) + (x16 >>> ((32 : Int32) &&& 0x3f).toInt64))
set_option maxRecDepth 65536 in
set_option maxHeartbeats 40000000 in
theorem g11_71 {p : Program} {l : Launch} {e : Env} {s : State} {m : MethodId} {below : List Frame} {meth : Method} {c : Code} {s₁ : State} {ws : List Jvm.Cond} {Z : State} {aw : Array Value} (hw : ∀ d ∈ tables_1, d.before aw Z = true) {h0 : Heap} (q0 : Int64) (q1 : Int64) (x4 : Int64) (x6 : Int64) (x8 : Int64) (x10 : Int64) (x12 : Int64) (x14 : Int64) (x16 : Int64) (x18 : Int64)
    (Bd : BodyLoose p l (⟨"java/lang/Math", "multiplyHigh", "(JJ)J"⟩ : MethodName) (head1 (Jvm.Cond.code (⟨"java/lang/Math", "multiplyHigh", "(JJ)J"⟩ : MethodName) jdk_29_method_45_code 20 (some .long) :: ws) ({ frames := 0, cells := 0, slots := 0, locals := 0 } : Room)) jdk_29_method_45_code 20 (some .long) e s m #[(.long q0), (.long q1)] below meth c s₁) (hml : c.maxLocals = 20) (hZ : Z.Warmed39 s.vm) (T0 : State) (X0 : Stand p l e ({ frames := 0, cells := 0, slots := 0, locals := 0 } : Room) s m #[(.long q0), (.long q1)] below meth c T0 [] 0 0) (e0 : T0.heap = h0) :
    own_Go p e below s ({ frames := 0, cells := 0, slots := 0, locals := 0 } : Room).cells ({ frames := 0, cells := 0, slots := 0, locals := 0 } : Room).slots (some (.long (f11_71 q0 q1 x4 x8 x16 x18))) (own_K0 h0) (T0.setTop (mkF m 71 #[.val (.long q0), .second, .val (.long q1), .second, .val (.long x4), .second, .val (.long x6), .second, .val (.long x8), .second, .val (.long x10), .second, .val (.long x12), .second, .val (.long x14), .second, .val (.long x16), .second, .val (.long x18), .second] [])) := by
  have hx := Bd.exec
  have hby := Bd.bytes
  have hown : s.vm.findClass "java/lang/Math" = some m.cls := findClass_of_methodNamed Bd.named
  unfold f11_71
  refine own_pre (F' := T0.setTop (mkF m 73 #[.val (.long q0), .second, .val (.long q1), .second, .val (.long x4), .second, .val (.long x6), .second, .val (.long x8), .second, .val (.long x10), .second, .val (.long x12), .second, .val (.long x14), .second, .val (.long x16), .second, .val (.long x18), .second] [(.long x4)])) (fun _ k => XS.lload X0.here hx rfl (hb hby d11_71) rfl k) ?_
  refine own_pre (F' := T0.setTop (mkF m 75 #[.val (.long q0), .second, .val (.long q1), .second, .val (.long x4), .second, .val (.long x6), .second, .val (.long x8), .second, .val (.long x10), .second, .val (.long x12), .second, .val (.long x14), .second, .val (.long x16), .second, .val (.long x18), .second] [(.long x8), (.long x4)])) (fun _ k => XS.lload X0.here hx rfl (hb hby d11_73) rfl k) ?_
  refine own_pre (F' := T0.setTop (mkF m 76 #[.val (.long q0), .second, .val (.long q1), .second, .val (.long x4), .second, .val (.long x6), .second, .val (.long x8), .second, .val (.long x10), .second, .val (.long x12), .second, .val (.long x14), .second, .val (.long x16), .second, .val (.long x18), .second] [(.long (x4 * x8))])) (fun _ k => XS.lmul X0.here hx rfl (hb hby d11_75) rfl k) ?_
  refine own_pre (F' := T0.setTop (mkF m 78 #[.val (.long q0), .second, .val (.long q1), .second, .val (.long x4), .second, .val (.long x6), .second, .val (.long x8), .second, .val (.long x10), .second, .val (.long x12), .second, .val (.long x14), .second, .val (.long x16), .second, .val (.long x18), .second] [(.long x18), (.long (x4 * x8))])) (fun _ k => XS.lload X0.here hx rfl (hb hby d11_76) rfl k) ?_
  refine own_pre (F' := T0.setTop (mkF m 79 #[.val (.long q0), .second, .val (.long q1), .second, .val (.long x4), .second, .val (.long x6), .second, .val (.long x8), .second, .val (.long x10), .second, .val (.long x12), .second, .val (.long x14), .second, .val (.long x16), .second, .val (.long x18), .second] [(.long ((x4 * x8) + x18))])) (fun _ k => XS.ladd X0.here hx rfl (hb hby d11_78) rfl k) ?_
  refine own_pre (F' := T0.setTop (mkF m 81 #[.val (.long q0), .second, .val (.long q1), .second, .val (.long x4), .second, .val (.long x6), .second, .val (.long x8), .second, .val (.long x10), .second, .val (.long x12), .second, .val (.long x14), .second, .val (.long x16), .second, .val (.long x18), .second] [(.long x16), (.long ((x4 * x8) + x18))])) (fun _ k => XS.lload X0.here hx rfl (hb hby d11_79) rfl k) ?_
  refine own_pre (F' := T0.setTop (mkF m 83 #[.val (.long q0), .second, .val (.long q1), .second, .val (.long x4), .second, .val (.long x6), .second, .val (.long x8), .second, .val (.long x10), .second, .val (.long x12), .second, .val (.long x14), .second, .val (.long x16), .second, .val (.long x18), .second] [(.int (32 : Int32)), (.long x16), (.long ((x4 * x8) + x18))])) (fun _ k => XS.bipush X0.here hx rfl (hb hby d11_81) k) ?_
  refine own_pre (F' := T0.setTop (mkF m 84 #[.val (.long q0), .second, .val (.long q1), .second, .val (.long x4), .second, .val (.long x6), .second, .val (.long x8), .second, .val (.long x10), .second, .val (.long x12), .second, .val (.long x14), .second, .val (.long x16), .second, .val (.long x18), .second] [(.long (x16 >>> ((32 : Int32) &&& 0x3f).toInt64)), (.long ((x4 * x8) + x18))])) (fun _ k => XS.lshr X0.here hx rfl (hb hby d11_83) rfl k) ?_
  refine own_pre (F' := T0.setTop (mkF m 85 #[.val (.long q0), .second, .val (.long q1), .second, .val (.long x4), .second, .val (.long x6), .second, .val (.long x8), .second, .val (.long x10), .second, .val (.long x12), .second, .val (.long x14), .second, .val (.long x16), .second, .val (.long x18), .second] [(.long (((x4 * x8) + x18) + (x16 >>> ((32 : Int32) &&& 0x3f).toInt64)))])) (fun _ k => XS.ladd X0.here hx rfl (hb hby d11_84) rfl k) ?_
  exact own_ret X0 hx Bd.notSynchronized Bd.returns rfl (Or.inr (Or.inl ⟨rfl, rfl, _, rfl⟩)) (hb hby d11_85) ⟨rfl, e0⟩ (by decide) (by decide)
def f11_61 (q0 : Int64) (q1 : Int64) (x4 : Int64) (x6 : Int64) (x8 : Int64) (x16 : Int64) (x18 : Int64) : Int64 := (f11_71 q0 q1 x4 x8 (x16 + (x6 * x8)) x18)
set_option maxRecDepth 65536 in
set_option maxHeartbeats 40000000 in
theorem g11_61 {p : Program} {l : Launch} {e : Env} {s : State} {m : MethodId} {below : List Frame} {meth : Method} {c : Code} {s₁ : State} {ws : List Jvm.Cond} {Z : State} {aw : Array Value} (hw : ∀ d ∈ tables_1, d.before aw Z = true) {h0 : Heap} (q0 : Int64) (q1 : Int64) (x4 : Int64) (x6 : Int64) (x8 : Int64) (x10 : Int64) (x12 : Int64) (x14 : Int64) (x16 : Int64) (x18 : Int64)
    (Bd : BodyLoose p l (⟨"java/lang/Math", "multiplyHigh", "(JJ)J"⟩ : MethodName) (head1 (Jvm.Cond.code (⟨"java/lang/Math", "multiplyHigh", "(JJ)J"⟩ : MethodName) jdk_29_method_45_code 20 (some .long) :: ws) ({ frames := 0, cells := 0, slots := 0, locals := 0 } : Room)) jdk_29_method_45_code 20 (some .long) e s m #[(.long q0), (.long q1)] below meth c s₁) (hml : c.maxLocals = 20) (hZ : Z.Warmed39 s.vm) (T0 : State) (X0 : Stand p l e ({ frames := 0, cells := 0, slots := 0, locals := 0 } : Room) s m #[(.long q0), (.long q1)] below meth c T0 [] 0 0) (e0 : T0.heap = h0) :
    own_Go p e below s ({ frames := 0, cells := 0, slots := 0, locals := 0 } : Room).cells ({ frames := 0, cells := 0, slots := 0, locals := 0 } : Room).slots (some (.long (f11_61 q0 q1 x4 x6 x8 x16 x18))) (own_K0 h0) (T0.setTop (mkF m 61 #[.val (.long q0), .second, .val (.long q1), .second, .val (.long x4), .second, .val (.long x6), .second, .val (.long x8), .second, .val (.long x10), .second, .val (.long x12), .second, .val (.long x14), .second, .val (.long x16), .second, .val (.long x18), .second] [])) := by
  have hx := Bd.exec
  have hby := Bd.bytes
  have hown : s.vm.findClass "java/lang/Math" = some m.cls := findClass_of_methodNamed Bd.named
  unfold f11_61
  refine own_pre (F' := T0.setTop (mkF m 63 #[.val (.long q0), .second, .val (.long q1), .second, .val (.long x4), .second, .val (.long x6), .second, .val (.long x8), .second, .val (.long x10), .second, .val (.long x12), .second, .val (.long x14), .second, .val (.long x16), .second, .val (.long x18), .second] [(.long x16)])) (fun _ k => XS.lload X0.here hx rfl (hb hby d11_61) rfl k) ?_
  refine own_pre (F' := T0.setTop (mkF m 65 #[.val (.long q0), .second, .val (.long q1), .second, .val (.long x4), .second, .val (.long x6), .second, .val (.long x8), .second, .val (.long x10), .second, .val (.long x12), .second, .val (.long x14), .second, .val (.long x16), .second, .val (.long x18), .second] [(.long x6), (.long x16)])) (fun _ k => XS.lload X0.here hx rfl (hb hby d11_63) rfl k) ?_
  refine own_pre (F' := T0.setTop (mkF m 67 #[.val (.long q0), .second, .val (.long q1), .second, .val (.long x4), .second, .val (.long x6), .second, .val (.long x8), .second, .val (.long x10), .second, .val (.long x12), .second, .val (.long x14), .second, .val (.long x16), .second, .val (.long x18), .second] [(.long x8), (.long x6), (.long x16)])) (fun _ k => XS.lload X0.here hx rfl (hb hby d11_65) rfl k) ?_
  refine own_pre (F' := T0.setTop (mkF m 68 #[.val (.long q0), .second, .val (.long q1), .second, .val (.long x4), .second, .val (.long x6), .second, .val (.long x8), .second, .val (.long x10), .second, .val (.long x12), .second, .val (.long x14), .second, .val (.long x16), .second, .val (.long x18), .second] [(.long (x6 * x8)), (.long x16)])) (fun _ k => XS.lmul X0.here hx rfl (hb hby d11_67) rfl k) ?_
  refine own_pre (F' := T0.setTop (mkF m 69 #[.val (.long q0), .second, .val (.long q1), .second, .val (.long x4), .second, .val (.long x6), .second, .val (.long x8), .second, .val (.long x10), .second, .val (.long x12), .second, .val (.long x14), .second, .val (.long x16), .second, .val (.long x18), .second] [(.long (x16 + (x6 * x8)))])) (fun _ k => XS.ladd X0.here hx rfl (hb hby d11_68) rfl k) ?_
  refine own_pre (F' := T0.setTop (mkF m 71 #[.val (.long q0), .second, .val (.long q1), .second, .val (.long x4), .second, .val (.long x6), .second, .val (.long x8), .second, .val (.long x10), .second, .val (.long x12), .second, .val (.long x14), .second, .val (.long (x16 + (x6 * x8))), .second, .val (.long x18), .second] [])) (fun _ k => XS.lstore X0.here hx rfl (hb hby d11_69) rfl (l' := #[.val (.long q0), .second, .val (.long q1), .second, .val (.long x4), .second, .val (.long x6), .second, .val (.long x8), .second, .val (.long x10), .second, .val (.long x12), .second, .val (.long x14), .second, .val (.long (x16 + (x6 * x8))), .second, .val (.long x18), .second]) rfl k) ?_
  exact g11_71 hw q0 q1 x4 x6 x8 x10 x12 x14 (x16 + (x6 * x8)) x18 Bd hml hZ T0 X0 e0
def f11_54 (q0 : Int64) (q1 : Int64) (x4 : Int64) (x6 : Int64) (x8 : Int64) (x14 : Int64) (x16 : Int64) : Int64 := (f11_61 q0 q1 x4 x6 x8 x16 (x14 >>> ((32 : Int32) &&& 0x3f).toInt64))
set_option maxRecDepth 65536 in
set_option maxHeartbeats 40000000 in
theorem g11_54 {p : Program} {l : Launch} {e : Env} {s : State} {m : MethodId} {below : List Frame} {meth : Method} {c : Code} {s₁ : State} {ws : List Jvm.Cond} {Z : State} {aw : Array Value} (hw : ∀ d ∈ tables_1, d.before aw Z = true) {h0 : Heap} (q0 : Int64) (q1 : Int64) (x4 : Int64) (x6 : Int64) (x8 : Int64) (x10 : Int64) (x12 : Int64) (x14 : Int64) (x16 : Int64)
    (Bd : BodyLoose p l (⟨"java/lang/Math", "multiplyHigh", "(JJ)J"⟩ : MethodName) (head1 (Jvm.Cond.code (⟨"java/lang/Math", "multiplyHigh", "(JJ)J"⟩ : MethodName) jdk_29_method_45_code 20 (some .long) :: ws) ({ frames := 0, cells := 0, slots := 0, locals := 0 } : Room)) jdk_29_method_45_code 20 (some .long) e s m #[(.long q0), (.long q1)] below meth c s₁) (hml : c.maxLocals = 20) (hZ : Z.Warmed39 s.vm) (T0 : State) (X0 : Stand p l e ({ frames := 0, cells := 0, slots := 0, locals := 0 } : Room) s m #[(.long q0), (.long q1)] below meth c T0 [] 0 0) (e0 : T0.heap = h0) :
    own_Go p e below s ({ frames := 0, cells := 0, slots := 0, locals := 0 } : Room).cells ({ frames := 0, cells := 0, slots := 0, locals := 0 } : Room).slots (some (.long (f11_54 q0 q1 x4 x6 x8 x14 x16))) (own_K0 h0) (T0.setTop (mkF m 54 #[.val (.long q0), .second, .val (.long q1), .second, .val (.long x4), .second, .val (.long x6), .second, .val (.long x8), .second, .val (.long x10), .second, .val (.long x12), .second, .val (.long x14), .second, .val (.long x16), .second, .unset, .unset] [])) := by
  have hx := Bd.exec
  have hby := Bd.bytes
  have hown : s.vm.findClass "java/lang/Math" = some m.cls := findClass_of_methodNamed Bd.named
  unfold f11_54
  refine own_pre (F' := T0.setTop (mkF m 56 #[.val (.long q0), .second, .val (.long q1), .second, .val (.long x4), .second, .val (.long x6), .second, .val (.long x8), .second, .val (.long x10), .second, .val (.long x12), .second, .val (.long x14), .second, .val (.long x16), .second, .unset, .unset] [(.long x14)])) (fun _ k => XS.lload X0.here hx rfl (hb hby d11_54) rfl k) ?_
  refine own_pre (F' := T0.setTop (mkF m 58 #[.val (.long q0), .second, .val (.long q1), .second, .val (.long x4), .second, .val (.long x6), .second, .val (.long x8), .second, .val (.long x10), .second, .val (.long x12), .second, .val (.long x14), .second, .val (.long x16), .second, .unset, .unset] [(.int (32 : Int32)), (.long x14)])) (fun _ k => XS.bipush X0.here hx rfl (hb hby d11_56) k) ?_
  refine own_pre (F' := T0.setTop (mkF m 59 #[.val (.long q0), .second, .val (.long q1), .second, .val (.long x4), .second, .val (.long x6), .second, .val (.long x8), .second, .val (.long x10), .second, .val (.long x12), .second, .val (.long x14), .second, .val (.long x16), .second, .unset, .unset] [(.long (x14 >>> ((32 : Int32) &&& 0x3f).toInt64))])) (fun _ k => XS.lshr X0.here hx rfl (hb hby d11_58) rfl k) ?_
  refine own_pre (F' := T0.setTop (mkF m 61 #[.val (.long q0), .second, .val (.long q1), .second, .val (.long x4), .second, .val (.long x6), .second, .val (.long x8), .second, .val (.long x10), .second, .val (.long x12), .second, .val (.long x14), .second, .val (.long x16), .second, .val (.long (x14 >>> ((32 : Int32) &&& 0x3f).toInt64)), .second] [])) (fun _ k => XS.lstore X0.here hx rfl (hb hby d11_59) rfl (l' := #[.val (.long q0), .second, .val (.long q1), .second, .val (.long x4), .second, .val (.long x6), .second, .val (.long x8), .second, .val (.long x10), .second, .val (.long x12), .second, .val (.long x14), .second, .val (.long x16), .second, .val (.long (x14 >>> ((32 : Int32) &&& 0x3f).toInt64)), .second]) rfl k) ?_
  exact g11_61 hw q0 q1 x4 x6 x8 x10 x12 x14 x16 (x14 >>> ((32 : Int32) &&& 0x3f).toInt64) Bd hml hZ T0 X0 e0
def f11_46 (q0 : Int64) (q1 : Int64) (x4 : Int64) (x6 : Int64) (x8 : Int64) (x14 : Int64) : Int64 := (f11_54 q0 q1 x4 x6 x8 x14 (x14 &&& (4294967295 : Int64)))
set_option maxRecDepth 65536 in
set_option maxHeartbeats 40000000 in
theorem g11_46 {p : Program} {l : Launch} {e : Env} {s : State} {m : MethodId} {below : List Frame} {meth : Method} {c : Code} {s₁ : State} {ws : List Jvm.Cond} {Z : State} {aw : Array Value} (hw : ∀ d ∈ tables_1, d.before aw Z = true) {h0 : Heap} (q0 : Int64) (q1 : Int64) (x4 : Int64) (x6 : Int64) (x8 : Int64) (x10 : Int64) (x12 : Int64) (x14 : Int64)
    (Bd : BodyLoose p l (⟨"java/lang/Math", "multiplyHigh", "(JJ)J"⟩ : MethodName) (head1 (Jvm.Cond.code (⟨"java/lang/Math", "multiplyHigh", "(JJ)J"⟩ : MethodName) jdk_29_method_45_code 20 (some .long) :: ws) ({ frames := 0, cells := 0, slots := 0, locals := 0 } : Room)) jdk_29_method_45_code 20 (some .long) e s m #[(.long q0), (.long q1)] below meth c s₁) (hml : c.maxLocals = 20) (hZ : Z.Warmed39 s.vm) (T0 : State) (X0 : Stand p l e ({ frames := 0, cells := 0, slots := 0, locals := 0 } : Room) s m #[(.long q0), (.long q1)] below meth c T0 [] 0 0) (e0 : T0.heap = h0) :
    own_Go p e below s ({ frames := 0, cells := 0, slots := 0, locals := 0 } : Room).cells ({ frames := 0, cells := 0, slots := 0, locals := 0 } : Room).slots (some (.long (f11_46 q0 q1 x4 x6 x8 x14))) (own_K0 h0) (T0.setTop (mkF m 46 #[.val (.long q0), .second, .val (.long q1), .second, .val (.long x4), .second, .val (.long x6), .second, .val (.long x8), .second, .val (.long x10), .second, .val (.long x12), .second, .val (.long x14), .second, .unset, .unset, .unset, .unset] [])) := by
  have hx := Bd.exec
  have hby := Bd.bytes
  have hown : s.vm.findClass "java/lang/Math" = some m.cls := findClass_of_methodNamed Bd.named
  unfold f11_46
  refine own_pre (F' := T0.setTop (mkF m 48 #[.val (.long q0), .second, .val (.long q1), .second, .val (.long x4), .second, .val (.long x6), .second, .val (.long x8), .second, .val (.long x10), .second, .val (.long x12), .second, .val (.long x14), .second, .unset, .unset, .unset, .unset] [(.long x14)])) (fun _ k => XS.lload X0.here hx rfl (hb hby d11_46) rfl k) ?_
  refine own_pre (F' := T0.setTop (mkF m 51 #[.val (.long q0), .second, .val (.long q1), .second, .val (.long x4), .second, .val (.long x6), .second, .val (.long x8), .second, .val (.long x10), .second, .val (.long x12), .second, .val (.long x14), .second, .unset, .unset, .unset, .unset] [(.long (4294967295 : Int64)), (.long x14)])) (fun _ k => X0.ldc2Long hx hown (mvT hZ (hw _ (List.mem_of_getElem? (i := 58) rfl))) (g := (mkF m 48 #[.val (.long q0), .second, .val (.long q1), .second, .val (.long x4), .second, .val (.long x6), .second, .val (.long x8), .second, .val (.long x10), .second, .val (.long x12), .second, .val (.long x14), .second, .unset, .unset, .unset, .unset] [(.long x14)])) rfl (hb hby d11_48) _ k) ?_
  refine own_pre (F' := T0.setTop (mkF m 52 #[.val (.long q0), .second, .val (.long q1), .second, .val (.long x4), .second, .val (.long x6), .second, .val (.long x8), .second, .val (.long x10), .second, .val (.long x12), .second, .val (.long x14), .second, .unset, .unset, .unset, .unset] [(.long (x14 &&& (4294967295 : Int64)))])) (fun _ k => XS.land X0.here hx rfl (hb hby d11_51) rfl k) ?_
  refine own_pre (F' := T0.setTop (mkF m 54 #[.val (.long q0), .second, .val (.long q1), .second, .val (.long x4), .second, .val (.long x6), .second, .val (.long x8), .second, .val (.long x10), .second, .val (.long x12), .second, .val (.long x14), .second, .val (.long (x14 &&& (4294967295 : Int64))), .second, .unset, .unset] [])) (fun _ k => XS.lstore X0.here hx rfl (hb hby d11_52) rfl (l' := #[.val (.long q0), .second, .val (.long q1), .second, .val (.long x4), .second, .val (.long x6), .second, .val (.long x8), .second, .val (.long x10), .second, .val (.long x12), .second, .val (.long x14), .second, .val (.long (x14 &&& (4294967295 : Int64))), .second, .unset, .unset]) rfl k) ?_
  exact g11_54 hw q0 q1 x4 x6 x8 x10 x12 x14 (x14 &&& (4294967295 : Int64)) Bd hml hZ T0 X0 e0
def f11_33 (q0 : Int64) (q1 : Int64) (x4 : Int64) (x6 : Int64) (x8 : Int64) (x10 : Int64) (x12 : Int64) : Int64 := (f11_46 q0 q1 x4 x6 x8 ((x4 * x10) + ((x12.toUInt64 >>> ((32 : Int32) &&& 0x3f).toInt64.toUInt64).toInt64)))
set_option maxRecDepth 65536 in
set_option maxHeartbeats 40000000 in
theorem g11_33 {p : Program} {l : Launch} {e : Env} {s : State} {m : MethodId} {below : List Frame} {meth : Method} {c : Code} {s₁ : State} {ws : List Jvm.Cond} {Z : State} {aw : Array Value} (hw : ∀ d ∈ tables_1, d.before aw Z = true) {h0 : Heap} (q0 : Int64) (q1 : Int64) (x4 : Int64) (x6 : Int64) (x8 : Int64) (x10 : Int64) (x12 : Int64)
    (Bd : BodyLoose p l (⟨"java/lang/Math", "multiplyHigh", "(JJ)J"⟩ : MethodName) (head1 (Jvm.Cond.code (⟨"java/lang/Math", "multiplyHigh", "(JJ)J"⟩ : MethodName) jdk_29_method_45_code 20 (some .long) :: ws) ({ frames := 0, cells := 0, slots := 0, locals := 0 } : Room)) jdk_29_method_45_code 20 (some .long) e s m #[(.long q0), (.long q1)] below meth c s₁) (hml : c.maxLocals = 20) (hZ : Z.Warmed39 s.vm) (T0 : State) (X0 : Stand p l e ({ frames := 0, cells := 0, slots := 0, locals := 0 } : Room) s m #[(.long q0), (.long q1)] below meth c T0 [] 0 0) (e0 : T0.heap = h0) :
    own_Go p e below s ({ frames := 0, cells := 0, slots := 0, locals := 0 } : Room).cells ({ frames := 0, cells := 0, slots := 0, locals := 0 } : Room).slots (some (.long (f11_33 q0 q1 x4 x6 x8 x10 x12))) (own_K0 h0) (T0.setTop (mkF m 33 #[.val (.long q0), .second, .val (.long q1), .second, .val (.long x4), .second, .val (.long x6), .second, .val (.long x8), .second, .val (.long x10), .second, .val (.long x12), .second, .unset, .unset, .unset, .unset, .unset, .unset] [])) := by
  have hx := Bd.exec
  have hby := Bd.bytes
  have hown : s.vm.findClass "java/lang/Math" = some m.cls := findClass_of_methodNamed Bd.named
  unfold f11_33
  refine own_pre (F' := T0.setTop (mkF m 35 #[.val (.long q0), .second, .val (.long q1), .second, .val (.long x4), .second, .val (.long x6), .second, .val (.long x8), .second, .val (.long x10), .second, .val (.long x12), .second, .unset, .unset, .unset, .unset, .unset, .unset] [(.long x4)])) (fun _ k => XS.lload X0.here hx rfl (hb hby d11_33) rfl k) ?_
  refine own_pre (F' := T0.setTop (mkF m 37 #[.val (.long q0), .second, .val (.long q1), .second, .val (.long x4), .second, .val (.long x6), .second, .val (.long x8), .second, .val (.long x10), .second, .val (.long x12), .second, .unset, .unset, .unset, .unset, .unset, .unset] [(.long x10), (.long x4)])) (fun _ k => XS.lload X0.here hx rfl (hb hby d11_35) rfl k) ?_
  refine own_pre (F' := T0.setTop (mkF m 38 #[.val (.long q0), .second, .val (.long q1), .second, .val (.long x4), .second, .val (.long x6), .second, .val (.long x8), .second, .val (.long x10), .second, .val (.long x12), .second, .unset, .unset, .unset, .unset, .unset, .unset] [(.long (x4 * x10))])) (fun _ k => XS.lmul X0.here hx rfl (hb hby d11_37) rfl k) ?_
  refine own_pre (F' := T0.setTop (mkF m 40 #[.val (.long q0), .second, .val (.long q1), .second, .val (.long x4), .second, .val (.long x6), .second, .val (.long x8), .second, .val (.long x10), .second, .val (.long x12), .second, .unset, .unset, .unset, .unset, .unset, .unset] [(.long x12), (.long (x4 * x10))])) (fun _ k => XS.lload X0.here hx rfl (hb hby d11_38) rfl k) ?_
  refine own_pre (F' := T0.setTop (mkF m 42 #[.val (.long q0), .second, .val (.long q1), .second, .val (.long x4), .second, .val (.long x6), .second, .val (.long x8), .second, .val (.long x10), .second, .val (.long x12), .second, .unset, .unset, .unset, .unset, .unset, .unset] [(.int (32 : Int32)), (.long x12), (.long (x4 * x10))])) (fun _ k => XS.bipush X0.here hx rfl (hb hby d11_40) k) ?_
  refine own_pre (F' := T0.setTop (mkF m 43 #[.val (.long q0), .second, .val (.long q1), .second, .val (.long x4), .second, .val (.long x6), .second, .val (.long x8), .second, .val (.long x10), .second, .val (.long x12), .second, .unset, .unset, .unset, .unset, .unset, .unset] [(.long ((x12.toUInt64 >>> ((32 : Int32) &&& 0x3f).toInt64.toUInt64).toInt64)), (.long (x4 * x10))])) (fun _ k => XS.lushr X0.here hx rfl (hb hby d11_42) rfl k) ?_
  refine own_pre (F' := T0.setTop (mkF m 44 #[.val (.long q0), .second, .val (.long q1), .second, .val (.long x4), .second, .val (.long x6), .second, .val (.long x8), .second, .val (.long x10), .second, .val (.long x12), .second, .unset, .unset, .unset, .unset, .unset, .unset] [(.long ((x4 * x10) + ((x12.toUInt64 >>> ((32 : Int32) &&& 0x3f).toInt64.toUInt64).toInt64)))])) (fun _ k => XS.ladd X0.here hx rfl (hb hby d11_43) rfl k) ?_
  refine own_pre (F' := T0.setTop (mkF m 46 #[.val (.long q0), .second, .val (.long q1), .second, .val (.long x4), .second, .val (.long x6), .second, .val (.long x8), .second, .val (.long x10), .second, .val (.long x12), .second, .val (.long ((x4 * x10) + ((x12.toUInt64 >>> ((32 : Int32) &&& 0x3f).toInt64.toUInt64).toInt64))), .second, .unset, .unset, .unset, .unset] [])) (fun _ k => XS.lstore X0.here hx rfl (hb hby d11_44) rfl (l' := #[.val (.long q0), .second, .val (.long q1), .second, .val (.long x4), .second, .val (.long x6), .second, .val (.long x8), .second, .val (.long x10), .second, .val (.long x12), .second, .val (.long ((x4 * x10) + ((x12.toUInt64 >>> ((32 : Int32) &&& 0x3f).toInt64.toUInt64).toInt64))), .second, .unset, .unset, .unset, .unset]) rfl k) ?_
  exact g11_46 hw q0 q1 x4 x6 x8 x10 x12 ((x4 * x10) + ((x12.toUInt64 >>> ((32 : Int32) &&& 0x3f).toInt64.toUInt64).toInt64)) Bd hml hZ T0 X0 e0
def f11_26 (q0 : Int64) (q1 : Int64) (x4 : Int64) (x6 : Int64) (x8 : Int64) (x10 : Int64) : Int64 := (f11_33 q0 q1 x4 x6 x8 x10 (x6 * x10))
set_option maxRecDepth 65536 in
set_option maxHeartbeats 40000000 in
theorem g11_26 {p : Program} {l : Launch} {e : Env} {s : State} {m : MethodId} {below : List Frame} {meth : Method} {c : Code} {s₁ : State} {ws : List Jvm.Cond} {Z : State} {aw : Array Value} (hw : ∀ d ∈ tables_1, d.before aw Z = true) {h0 : Heap} (q0 : Int64) (q1 : Int64) (x4 : Int64) (x6 : Int64) (x8 : Int64) (x10 : Int64)
    (Bd : BodyLoose p l (⟨"java/lang/Math", "multiplyHigh", "(JJ)J"⟩ : MethodName) (head1 (Jvm.Cond.code (⟨"java/lang/Math", "multiplyHigh", "(JJ)J"⟩ : MethodName) jdk_29_method_45_code 20 (some .long) :: ws) ({ frames := 0, cells := 0, slots := 0, locals := 0 } : Room)) jdk_29_method_45_code 20 (some .long) e s m #[(.long q0), (.long q1)] below meth c s₁) (hml : c.maxLocals = 20) (hZ : Z.Warmed39 s.vm) (T0 : State) (X0 : Stand p l e ({ frames := 0, cells := 0, slots := 0, locals := 0 } : Room) s m #[(.long q0), (.long q1)] below meth c T0 [] 0 0) (e0 : T0.heap = h0) :
    own_Go p e below s ({ frames := 0, cells := 0, slots := 0, locals := 0 } : Room).cells ({ frames := 0, cells := 0, slots := 0, locals := 0 } : Room).slots (some (.long (f11_26 q0 q1 x4 x6 x8 x10))) (own_K0 h0) (T0.setTop (mkF m 26 #[.val (.long q0), .second, .val (.long q1), .second, .val (.long x4), .second, .val (.long x6), .second, .val (.long x8), .second, .val (.long x10), .second, .unset, .unset, .unset, .unset, .unset, .unset, .unset, .unset] [])) := by
  have hx := Bd.exec
  have hby := Bd.bytes
  have hown : s.vm.findClass "java/lang/Math" = some m.cls := findClass_of_methodNamed Bd.named
  unfold f11_26
  refine own_pre (F' := T0.setTop (mkF m 28 #[.val (.long q0), .second, .val (.long q1), .second, .val (.long x4), .second, .val (.long x6), .second, .val (.long x8), .second, .val (.long x10), .second, .unset, .unset, .unset, .unset, .unset, .unset, .unset, .unset] [(.long x6)])) (fun _ k => XS.lload X0.here hx rfl (hb hby d11_26) rfl k) ?_
  refine own_pre (F' := T0.setTop (mkF m 30 #[.val (.long q0), .second, .val (.long q1), .second, .val (.long x4), .second, .val (.long x6), .second, .val (.long x8), .second, .val (.long x10), .second, .unset, .unset, .unset, .unset, .unset, .unset, .unset, .unset] [(.long x10), (.long x6)])) (fun _ k => XS.lload X0.here hx rfl (hb hby d11_28) rfl k) ?_
  refine own_pre (F' := T0.setTop (mkF m 31 #[.val (.long q0), .second, .val (.long q1), .second, .val (.long x4), .second, .val (.long x6), .second, .val (.long x8), .second, .val (.long x10), .second, .unset, .unset, .unset, .unset, .unset, .unset, .unset, .unset] [(.long (x6 * x10))])) (fun _ k => XS.lmul X0.here hx rfl (hb hby d11_30) rfl k) ?_
  refine own_pre (F' := T0.setTop (mkF m 33 #[.val (.long q0), .second, .val (.long q1), .second, .val (.long x4), .second, .val (.long x6), .second, .val (.long x8), .second, .val (.long x10), .second, .val (.long (x6 * x10)), .second, .unset, .unset, .unset, .unset, .unset, .unset] [])) (fun _ k => XS.lstore X0.here hx rfl (hb hby d11_31) rfl (l' := #[.val (.long q0), .second, .val (.long q1), .second, .val (.long x4), .second, .val (.long x6), .second, .val (.long x8), .second, .val (.long x10), .second, .val (.long (x6 * x10)), .second, .unset, .unset, .unset, .unset, .unset, .unset]) rfl k) ?_
  exact g11_33 hw q0 q1 x4 x6 x8 x10 (x6 * x10) Bd hml hZ T0 X0 e0
def f11_19 (q0 : Int64) (q1 : Int64) (x4 : Int64) (x6 : Int64) (x8 : Int64) : Int64 := (f11_26 q0 q1 x4 x6 x8 (q1 &&& (4294967295 : Int64)))
set_option maxRecDepth 65536 in
set_option maxHeartbeats 40000000 in
theorem g11_19 {p : Program} {l : Launch} {e : Env} {s : State} {m : MethodId} {below : List Frame} {meth : Method} {c : Code} {s₁ : State} {ws : List Jvm.Cond} {Z : State} {aw : Array Value} (hw : ∀ d ∈ tables_1, d.before aw Z = true) {h0 : Heap} (q0 : Int64) (q1 : Int64) (x4 : Int64) (x6 : Int64) (x8 : Int64)
    (Bd : BodyLoose p l (⟨"java/lang/Math", "multiplyHigh", "(JJ)J"⟩ : MethodName) (head1 (Jvm.Cond.code (⟨"java/lang/Math", "multiplyHigh", "(JJ)J"⟩ : MethodName) jdk_29_method_45_code 20 (some .long) :: ws) ({ frames := 0, cells := 0, slots := 0, locals := 0 } : Room)) jdk_29_method_45_code 20 (some .long) e s m #[(.long q0), (.long q1)] below meth c s₁) (hml : c.maxLocals = 20) (hZ : Z.Warmed39 s.vm) (T0 : State) (X0 : Stand p l e ({ frames := 0, cells := 0, slots := 0, locals := 0 } : Room) s m #[(.long q0), (.long q1)] below meth c T0 [] 0 0) (e0 : T0.heap = h0) :
    own_Go p e below s ({ frames := 0, cells := 0, slots := 0, locals := 0 } : Room).cells ({ frames := 0, cells := 0, slots := 0, locals := 0 } : Room).slots (some (.long (f11_19 q0 q1 x4 x6 x8))) (own_K0 h0) (T0.setTop (mkF m 19 #[.val (.long q0), .second, .val (.long q1), .second, .val (.long x4), .second, .val (.long x6), .second, .val (.long x8), .second, .unset, .unset, .unset, .unset, .unset, .unset, .unset, .unset, .unset, .unset] [])) := by
  have hx := Bd.exec
  have hby := Bd.bytes
  have hown : s.vm.findClass "java/lang/Math" = some m.cls := findClass_of_methodNamed Bd.named
  unfold f11_19
  refine own_pre (F' := T0.setTop (mkF m 20 #[.val (.long q0), .second, .val (.long q1), .second, .val (.long x4), .second, .val (.long x6), .second, .val (.long x8), .second, .unset, .unset, .unset, .unset, .unset, .unset, .unset, .unset, .unset, .unset] [(.long q1)])) (fun _ k => XS.lloadN X0.here hx rfl (hb hby d11_19) rfl k) ?_
  refine own_pre (F' := T0.setTop (mkF m 23 #[.val (.long q0), .second, .val (.long q1), .second, .val (.long x4), .second, .val (.long x6), .second, .val (.long x8), .second, .unset, .unset, .unset, .unset, .unset, .unset, .unset, .unset, .unset, .unset] [(.long (4294967295 : Int64)), (.long q1)])) (fun _ k => X0.ldc2Long hx hown (mvT hZ (hw _ (List.mem_of_getElem? (i := 58) rfl))) (g := (mkF m 20 #[.val (.long q0), .second, .val (.long q1), .second, .val (.long x4), .second, .val (.long x6), .second, .val (.long x8), .second, .unset, .unset, .unset, .unset, .unset, .unset, .unset, .unset, .unset, .unset] [(.long q1)])) rfl (hb hby d11_20) _ k) ?_
  refine own_pre (F' := T0.setTop (mkF m 24 #[.val (.long q0), .second, .val (.long q1), .second, .val (.long x4), .second, .val (.long x6), .second, .val (.long x8), .second, .unset, .unset, .unset, .unset, .unset, .unset, .unset, .unset, .unset, .unset] [(.long (q1 &&& (4294967295 : Int64)))])) (fun _ k => XS.land X0.here hx rfl (hb hby d11_23) rfl k) ?_
  refine own_pre (F' := T0.setTop (mkF m 26 #[.val (.long q0), .second, .val (.long q1), .second, .val (.long x4), .second, .val (.long x6), .second, .val (.long x8), .second, .val (.long (q1 &&& (4294967295 : Int64))), .second, .unset, .unset, .unset, .unset, .unset, .unset, .unset, .unset] [])) (fun _ k => XS.lstore X0.here hx rfl (hb hby d11_24) rfl (l' := #[.val (.long q0), .second, .val (.long q1), .second, .val (.long x4), .second, .val (.long x6), .second, .val (.long x8), .second, .val (.long (q1 &&& (4294967295 : Int64))), .second, .unset, .unset, .unset, .unset, .unset, .unset, .unset, .unset]) rfl k) ?_
  exact g11_26 hw q0 q1 x4 x6 x8 (q1 &&& (4294967295 : Int64)) Bd hml hZ T0 X0 e0
def f11_13 (q0 : Int64) (q1 : Int64) (x4 : Int64) (x6 : Int64) : Int64 := (f11_19 q0 q1 x4 x6 (q1 >>> ((32 : Int32) &&& 0x3f).toInt64))
set_option maxRecDepth 65536 in
set_option maxHeartbeats 40000000 in
theorem g11_13 {p : Program} {l : Launch} {e : Env} {s : State} {m : MethodId} {below : List Frame} {meth : Method} {c : Code} {s₁ : State} {ws : List Jvm.Cond} {Z : State} {aw : Array Value} (hw : ∀ d ∈ tables_1, d.before aw Z = true) {h0 : Heap} (q0 : Int64) (q1 : Int64) (x4 : Int64) (x6 : Int64)
    (Bd : BodyLoose p l (⟨"java/lang/Math", "multiplyHigh", "(JJ)J"⟩ : MethodName) (head1 (Jvm.Cond.code (⟨"java/lang/Math", "multiplyHigh", "(JJ)J"⟩ : MethodName) jdk_29_method_45_code 20 (some .long) :: ws) ({ frames := 0, cells := 0, slots := 0, locals := 0 } : Room)) jdk_29_method_45_code 20 (some .long) e s m #[(.long q0), (.long q1)] below meth c s₁) (hml : c.maxLocals = 20) (hZ : Z.Warmed39 s.vm) (T0 : State) (X0 : Stand p l e ({ frames := 0, cells := 0, slots := 0, locals := 0 } : Room) s m #[(.long q0), (.long q1)] below meth c T0 [] 0 0) (e0 : T0.heap = h0) :
    own_Go p e below s ({ frames := 0, cells := 0, slots := 0, locals := 0 } : Room).cells ({ frames := 0, cells := 0, slots := 0, locals := 0 } : Room).slots (some (.long (f11_13 q0 q1 x4 x6))) (own_K0 h0) (T0.setTop (mkF m 13 #[.val (.long q0), .second, .val (.long q1), .second, .val (.long x4), .second, .val (.long x6), .second, .unset, .unset, .unset, .unset, .unset, .unset, .unset, .unset, .unset, .unset, .unset, .unset] [])) := by
  have hx := Bd.exec
  have hby := Bd.bytes
  have hown : s.vm.findClass "java/lang/Math" = some m.cls := findClass_of_methodNamed Bd.named
  unfold f11_13
  refine own_pre (F' := T0.setTop (mkF m 14 #[.val (.long q0), .second, .val (.long q1), .second, .val (.long x4), .second, .val (.long x6), .second, .unset, .unset, .unset, .unset, .unset, .unset, .unset, .unset, .unset, .unset, .unset, .unset] [(.long q1)])) (fun _ k => XS.lloadN X0.here hx rfl (hb hby d11_13) rfl k) ?_
  refine own_pre (F' := T0.setTop (mkF m 16 #[.val (.long q0), .second, .val (.long q1), .second, .val (.long x4), .second, .val (.long x6), .second, .unset, .unset, .unset, .unset, .unset, .unset, .unset, .unset, .unset, .unset, .unset, .unset] [(.int (32 : Int32)), (.long q1)])) (fun _ k => XS.bipush X0.here hx rfl (hb hby d11_14) k) ?_
  refine own_pre (F' := T0.setTop (mkF m 17 #[.val (.long q0), .second, .val (.long q1), .second, .val (.long x4), .second, .val (.long x6), .second, .unset, .unset, .unset, .unset, .unset, .unset, .unset, .unset, .unset, .unset, .unset, .unset] [(.long (q1 >>> ((32 : Int32) &&& 0x3f).toInt64))])) (fun _ k => XS.lshr X0.here hx rfl (hb hby d11_16) rfl k) ?_
  refine own_pre (F' := T0.setTop (mkF m 19 #[.val (.long q0), .second, .val (.long q1), .second, .val (.long x4), .second, .val (.long x6), .second, .val (.long (q1 >>> ((32 : Int32) &&& 0x3f).toInt64)), .second, .unset, .unset, .unset, .unset, .unset, .unset, .unset, .unset, .unset, .unset] [])) (fun _ k => XS.lstore X0.here hx rfl (hb hby d11_17) rfl (l' := #[.val (.long q0), .second, .val (.long q1), .second, .val (.long x4), .second, .val (.long x6), .second, .val (.long (q1 >>> ((32 : Int32) &&& 0x3f).toInt64)), .second, .unset, .unset, .unset, .unset, .unset, .unset, .unset, .unset, .unset, .unset]) rfl k) ?_
  exact g11_19 hw q0 q1 x4 x6 (q1 >>> ((32 : Int32) &&& 0x3f).toInt64) Bd hml hZ T0 X0 e0
def f11_6 (q0 : Int64) (q1 : Int64) (x4 : Int64) : Int64 := (f11_13 q0 q1 x4 (q0 &&& (4294967295 : Int64)))
set_option maxRecDepth 65536 in
set_option maxHeartbeats 40000000 in
theorem g11_6 {p : Program} {l : Launch} {e : Env} {s : State} {m : MethodId} {below : List Frame} {meth : Method} {c : Code} {s₁ : State} {ws : List Jvm.Cond} {Z : State} {aw : Array Value} (hw : ∀ d ∈ tables_1, d.before aw Z = true) {h0 : Heap} (q0 : Int64) (q1 : Int64) (x4 : Int64)
    (Bd : BodyLoose p l (⟨"java/lang/Math", "multiplyHigh", "(JJ)J"⟩ : MethodName) (head1 (Jvm.Cond.code (⟨"java/lang/Math", "multiplyHigh", "(JJ)J"⟩ : MethodName) jdk_29_method_45_code 20 (some .long) :: ws) ({ frames := 0, cells := 0, slots := 0, locals := 0 } : Room)) jdk_29_method_45_code 20 (some .long) e s m #[(.long q0), (.long q1)] below meth c s₁) (hml : c.maxLocals = 20) (hZ : Z.Warmed39 s.vm) (T0 : State) (X0 : Stand p l e ({ frames := 0, cells := 0, slots := 0, locals := 0 } : Room) s m #[(.long q0), (.long q1)] below meth c T0 [] 0 0) (e0 : T0.heap = h0) :
    own_Go p e below s ({ frames := 0, cells := 0, slots := 0, locals := 0 } : Room).cells ({ frames := 0, cells := 0, slots := 0, locals := 0 } : Room).slots (some (.long (f11_6 q0 q1 x4))) (own_K0 h0) (T0.setTop (mkF m 6 #[.val (.long q0), .second, .val (.long q1), .second, .val (.long x4), .second, .unset, .unset, .unset, .unset, .unset, .unset, .unset, .unset, .unset, .unset, .unset, .unset, .unset, .unset] [])) := by
  have hx := Bd.exec
  have hby := Bd.bytes
  have hown : s.vm.findClass "java/lang/Math" = some m.cls := findClass_of_methodNamed Bd.named
  unfold f11_6
  refine own_pre (F' := T0.setTop (mkF m 7 #[.val (.long q0), .second, .val (.long q1), .second, .val (.long x4), .second, .unset, .unset, .unset, .unset, .unset, .unset, .unset, .unset, .unset, .unset, .unset, .unset, .unset, .unset] [(.long q0)])) (fun _ k => XS.lloadN X0.here hx rfl (hb hby d11_6) rfl k) ?_
  refine own_pre (F' := T0.setTop (mkF m 10 #[.val (.long q0), .second, .val (.long q1), .second, .val (.long x4), .second, .unset, .unset, .unset, .unset, .unset, .unset, .unset, .unset, .unset, .unset, .unset, .unset, .unset, .unset] [(.long (4294967295 : Int64)), (.long q0)])) (fun _ k => X0.ldc2Long hx hown (mvT hZ (hw _ (List.mem_of_getElem? (i := 58) rfl))) (g := (mkF m 7 #[.val (.long q0), .second, .val (.long q1), .second, .val (.long x4), .second, .unset, .unset, .unset, .unset, .unset, .unset, .unset, .unset, .unset, .unset, .unset, .unset, .unset, .unset] [(.long q0)])) rfl (hb hby d11_7) _ k) ?_
  refine own_pre (F' := T0.setTop (mkF m 11 #[.val (.long q0), .second, .val (.long q1), .second, .val (.long x4), .second, .unset, .unset, .unset, .unset, .unset, .unset, .unset, .unset, .unset, .unset, .unset, .unset, .unset, .unset] [(.long (q0 &&& (4294967295 : Int64)))])) (fun _ k => XS.land X0.here hx rfl (hb hby d11_10) rfl k) ?_
  refine own_pre (F' := T0.setTop (mkF m 13 #[.val (.long q0), .second, .val (.long q1), .second, .val (.long x4), .second, .val (.long (q0 &&& (4294967295 : Int64))), .second, .unset, .unset, .unset, .unset, .unset, .unset, .unset, .unset, .unset, .unset, .unset, .unset] [])) (fun _ k => XS.lstore X0.here hx rfl (hb hby d11_11) rfl (l' := #[.val (.long q0), .second, .val (.long q1), .second, .val (.long x4), .second, .val (.long (q0 &&& (4294967295 : Int64))), .second, .unset, .unset, .unset, .unset, .unset, .unset, .unset, .unset, .unset, .unset, .unset, .unset]) rfl k) ?_
  exact g11_13 hw q0 q1 x4 (q0 &&& (4294967295 : Int64)) Bd hml hZ T0 X0 e0
def f11_0 (q0 : Int64) (q1 : Int64) : Int64 := (f11_6 q0 q1 (q0 >>> ((32 : Int32) &&& 0x3f).toInt64))
set_option maxRecDepth 65536 in
set_option maxHeartbeats 40000000 in
theorem g11_0 {p : Program} {l : Launch} {e : Env} {s : State} {m : MethodId} {below : List Frame} {meth : Method} {c : Code} {s₁ : State} {ws : List Jvm.Cond} {Z : State} {aw : Array Value} (hw : ∀ d ∈ tables_1, d.before aw Z = true) {h0 : Heap} (q0 : Int64) (q1 : Int64)
    (Bd : BodyLoose p l (⟨"java/lang/Math", "multiplyHigh", "(JJ)J"⟩ : MethodName) (head1 (Jvm.Cond.code (⟨"java/lang/Math", "multiplyHigh", "(JJ)J"⟩ : MethodName) jdk_29_method_45_code 20 (some .long) :: ws) ({ frames := 0, cells := 0, slots := 0, locals := 0 } : Room)) jdk_29_method_45_code 20 (some .long) e s m #[(.long q0), (.long q1)] below meth c s₁) (hml : c.maxLocals = 20) (hZ : Z.Warmed39 s.vm) (T0 : State) (X0 : Stand p l e ({ frames := 0, cells := 0, slots := 0, locals := 0 } : Room) s m #[(.long q0), (.long q1)] below meth c T0 [] 0 0) (e0 : T0.heap = h0) :
    own_Go p e below s ({ frames := 0, cells := 0, slots := 0, locals := 0 } : Room).cells ({ frames := 0, cells := 0, slots := 0, locals := 0 } : Room).slots (some (.long (f11_0 q0 q1))) (own_K0 h0) (T0.setTop (mkF m 0 #[.val (.long q0), .second, .val (.long q1), .second, .unset, .unset, .unset, .unset, .unset, .unset, .unset, .unset, .unset, .unset, .unset, .unset, .unset, .unset, .unset, .unset] [])) := by
  have hx := Bd.exec
  have hby := Bd.bytes
  have hown : s.vm.findClass "java/lang/Math" = some m.cls := findClass_of_methodNamed Bd.named
  unfold f11_0
  refine own_pre (F' := T0.setTop (mkF m 1 #[.val (.long q0), .second, .val (.long q1), .second, .unset, .unset, .unset, .unset, .unset, .unset, .unset, .unset, .unset, .unset, .unset, .unset, .unset, .unset, .unset, .unset] [(.long q0)])) (fun _ k => XS.lloadN X0.here hx rfl (hb hby d11_0) rfl k) ?_
  refine own_pre (F' := T0.setTop (mkF m 3 #[.val (.long q0), .second, .val (.long q1), .second, .unset, .unset, .unset, .unset, .unset, .unset, .unset, .unset, .unset, .unset, .unset, .unset, .unset, .unset, .unset, .unset] [(.int (32 : Int32)), (.long q0)])) (fun _ k => XS.bipush X0.here hx rfl (hb hby d11_1) k) ?_
  refine own_pre (F' := T0.setTop (mkF m 4 #[.val (.long q0), .second, .val (.long q1), .second, .unset, .unset, .unset, .unset, .unset, .unset, .unset, .unset, .unset, .unset, .unset, .unset, .unset, .unset, .unset, .unset] [(.long (q0 >>> ((32 : Int32) &&& 0x3f).toInt64))])) (fun _ k => XS.lshr X0.here hx rfl (hb hby d11_3) rfl k) ?_
  refine own_pre (F' := T0.setTop (mkF m 6 #[.val (.long q0), .second, .val (.long q1), .second, .val (.long (q0 >>> ((32 : Int32) &&& 0x3f).toInt64)), .second, .unset, .unset, .unset, .unset, .unset, .unset, .unset, .unset, .unset, .unset, .unset, .unset, .unset, .unset] [])) (fun _ k => XS.lstore X0.here hx rfl (hb hby d11_4) rfl (l' := #[.val (.long q0), .second, .val (.long q1), .second, .val (.long (q0 >>> ((32 : Int32) &&& 0x3f).toInt64)), .second, .unset, .unset, .unset, .unset, .unset, .unset, .unset, .unset, .unset, .unset, .unset, .unset, .unset, .unset]) rfl k) ?_
  exact g11_6 hw q0 q1 (q0 >>> ((32 : Int32) &&& 0x3f).toInt64) Bd hml hZ T0 X0 e0
theorem ef_11 (m : MethodId) (q0 : Int64) (q1 : Int64) : entryFrame m #[(.long q0), (.long q1)] 20 = mkF m 0 #[.val (.long q0), .second, .val (.long q1), .second, .unset, .unset, .unset, .unset, .unset, .unset, .unset, .unset, .unset, .unset, .unset, .unset, .unset, .unset, .unset, .unset] [] := by first | (simp [entryFrame, mkF, argsToLocals, Value.category]; done) | rfl
set_option maxRecDepth 65536 in
set_option maxHeartbeats 40000000 in
theorem rm11 (l : Launch) (Z : State) (aw : Array Value) (hw : ∀ d ∈ tables_1, d.before aw Z = true) (ws : List Jvm.Cond) (q0 : Int64) (q1 : Int64) (h0 : Heap) :
    MetFree l (⟨"java/lang/Math", "multiplyHigh", "(JJ)J"⟩ : MethodName) (head1 (Jvm.Cond.code (⟨"java/lang/Math", "multiplyHigh", "(JJ)J"⟩ : MethodName) jdk_29_method_45_code 20 (some .long) :: ws) ({ frames := 0, cells := 0, slots := 0, locals := 0 } : Room)) (fun a U => a = #[(.long q0), (.long q1)] ∧ Z.Warmed39 U.vm ∧ U.heap = h0) (fun _ _ _ _ _ => True) (fun _ U o U' => ∃ v L, o = .returned v ∧ own_Q (some (.long (f11_0 q0 q1))) (own_K0 h0) v U'.heap L ∧ FrameEnd U o U' L ({ frames := 0, cells := 0, slots := 0, locals := 0 } : Room).cells ({ frames := 0, cells := 0, slots := 0, locals := 0 } : Room).slots) := by
  refine MetFree.of_bodySF (Jvm.Free.JP.mathPlain rfl (by decide +kernel)) hisR ?_
  intro p e s m args below meth c s₁ Bd hml0 hP hK
  obtain ⟨rfl, hZ, hh⟩ := hP
  have hml : c.maxLocals = 20 := hml0
  have e0 : s₁.heap = h0 := by rw [← hh, Bd.state]; rfl
  exact own_pre (fun t k => castTop (ef_11 m q0 q1) k) (g11_0 hw q0 q1 Bd hml hZ s₁ (Stand.of_body Bd) e0)
/-! body 8 -/
theorem d8_0 : decode method_2_code 0 = .ok (.lload_n 0, 1) := by decide +kernel
theorem d8_1 : decode method_2_code 1 = .ok (.lconst 0, 1) := by decide +kernel
theorem d8_2 : decode method_2_code 2 = .ok (.lcmp, 1) := by decide +kernel
theorem d8_3 : decode method_2_code 3 = .ok (.ifCond .lt 7, 3) := by decide +kernel
theorem d8_6 : decode method_2_code 6 = .ok (.lload_n 0, 1) := by decide +kernel
theorem d8_7 : decode method_2_code 7 = .ok (.lload_n 2, 1) := by decide +kernel
theorem d8_8 : decode method_2_code 8 = .ok (.lrem, 1) := by decide +kernel
theorem d8_9 : decode method_2_code 9 = .ok (.lreturn, 1) := by decide +kernel
theorem d8_10 : decode method_2_code 10 = .ok (.lload_n 0, 1) := by decide +kernel
theorem d8_11 : decode method_2_code 11 = .ok (.iconst 1, 1) := by decide +kernel
theorem d8_12 : decode method_2_code 12 = .ok (.lushr, 1) := by decide +kernel
theorem d8_13 : decode method_2_code 13 = .ok (.lload_n 2, 1) := by decide +kernel
theorem d8_14 : decode method_2_code 14 = .ok (.ldiv, 1) := by decide +kernel
theorem d8_15 : decode method_2_code 15 = .ok (.iconst 1, 1) := by decide +kernel
theorem d8_16 : decode method_2_code 16 = .ok (.lshl, 1) := by decide +kernel
theorem d8_17 : decode method_2_code 17 = .ok (.lstore 4, 2) := by decide +kernel
theorem d8_19 : decode method_2_code 19 = .ok (.lload_n 0, 1) := by decide +kernel
theorem d8_20 : decode method_2_code 20 = .ok (.lload 4, 2) := by decide +kernel
theorem d8_22 : decode method_2_code 22 = .ok (.lload_n 2, 1) := by decide +kernel
theorem d8_23 : decode method_2_code 23 = .ok (.lmul, 1) := by decide +kernel
theorem d8_24 : decode method_2_code 24 = .ok (.lsub, 1) := by decide +kernel
theorem d8_25 : decode method_2_code 25 = .ok (.lstore 6, 2) := by decide +kernel
theorem d8_27 : decode method_2_code 27 = .ok (.lload 6, 2) := by decide +kernel
theorem d8_29 : decode method_2_code 29 = .ok (.ldc2_w 9, 3) := by decide +kernel
theorem d8_32 : decode method_2_code 32 = .ok (.lxor, 1) := by decide +kernel
theorem d8_33 : decode method_2_code 33 = .ok (.lload_n 2, 1) := by decide +kernel
theorem d8_34 : decode method_2_code 34 = .ok (.ldc2_w 9, 3) := by decide +kernel
theorem d8_37 : decode method_2_code 37 = .ok (.lxor, 1) := by decide +kernel
theorem d8_38 : decode method_2_code 38 = .ok (.lcmp, 1) := by decide +kernel
theorem d8_39 : decode method_2_code 39 = .ok (.ifCond .lt 9, 3) := by decide +kernel
theorem d8_42 : decode method_2_code 42 = .ok (.lload 6, 2) := by decide +kernel
theorem d8_44 : decode method_2_code 44 = .ok (.lload_n 2, 1) := by decide +kernel
theorem d8_45 : decode method_2_code 45 = .ok (.lsub, 1) := by decide +kernel
theorem d8_46 : decode method_2_code 46 = .ok (.lstore 6, 2) := by decide +kernel
theorem d8_48 : decode method_2_code 48 = .ok (.lload 6, 2) := by decide +kernel
theorem d8_50 : decode method_2_code 50 = .ok (.lreturn, 1) := by decide +kernel
theorem own_pn1 : plainName "com/example/probable_set/probableset/sizing/ShapeOfPinLaw" = true := by first | (simp [plainName, overriddenIn]; done) | decide +kernel
def f8_48 (q0 : Int64) (q1 : Int64) (x6 : Int64) : Int64 := x6
set_option maxRecDepth 65536 in
set_option maxHeartbeats 40000000 in
theorem g8_48 {p : Program} {l : Launch} {e : Env} {s : State} {m : MethodId} {below : List Frame} {meth : Method} {c : Code} {s₁ : State} {ws : List Jvm.Cond} {Z : State} {aw : Array Value} (hw : ∀ d ∈ tables_1, d.before aw Z = true) {h0 : Heap} (q0 : Int64) (q1 : Int64) (H : ¬ (q1 = (0 : Int64))) (x4 : Int64) (x6 : Int64)
    (Bd : BodyLoose p l (⟨"com/example/probable_set/probableset/sizing/ShapeOfPinLaw", "unsignedRem", "(JJ)J"⟩ : MethodName) (head1 (Jvm.Cond.code (⟨"com/example/probable_set/probableset/sizing/ShapeOfPinLaw", "unsignedRem", "(JJ)J"⟩ : MethodName) method_2_code 8 (some .long) :: ws) ({ frames := 0, cells := 0, slots := 0, locals := 0 } : Room)) method_2_code 8 (some .long) e s m #[(.long q0), (.long q1)] below meth c s₁) (hml : c.maxLocals = 8) (hZ : Z.Warmed39 s.vm) (T0 : State) (X0 : Stand p l e ({ frames := 0, cells := 0, slots := 0, locals := 0 } : Room) s m #[(.long q0), (.long q1)] below meth c T0 [] 0 0) (e0 : T0.heap = h0) :
    own_Go p e below s ({ frames := 0, cells := 0, slots := 0, locals := 0 } : Room).cells ({ frames := 0, cells := 0, slots := 0, locals := 0 } : Room).slots (some (.long (f8_48 q0 q1 x6))) (own_K0 h0) (T0.setTop (mkF m 48 #[.val (.long q0), .second, .val (.long q1), .second, .val (.long x4), .second, .val (.long x6), .second] [])) := by
  have hx := Bd.exec
  have hby := Bd.bytes
  have hown : s.vm.findClass "com/example/probable_set/probableset/sizing/ShapeOfPinLaw" = some m.cls := findClass_of_methodNamed Bd.named
  unfold f8_48
  refine own_pre (F' := T0.setTop (mkF m 50 #[.val (.long q0), .second, .val (.long q1), .second, .val (.long x4), .second, .val (.long x6), .second] [(.long x6)])) (fun _ k => XS.lload X0.here hx rfl (hb hby d8_48) rfl k) ?_
  exact own_ret X0 hx Bd.notSynchronized Bd.returns rfl (Or.inr (Or.inl ⟨rfl, rfl, _, rfl⟩)) (hb hby d8_50) ⟨rfl, e0⟩ (by decide) (by decide)
def f8_27 (q0 : Int64) (q1 : Int64) (x6 : Int64) : Int64 := (if (x6 ^^^ (-9223372036854775808 : Int64)) < (q1 ^^^ (-9223372036854775808 : Int64)) then (f8_48 q0 q1 x6) else (f8_48 q0 q1 (x6 - q1)))
set_option maxRecDepth 65536 in
set_option maxHeartbeats 40000000 in
theorem g8_27 {p : Program} {l : Launch} {e : Env} {s : State} {m : MethodId} {below : List Frame} {meth : Method} {c : Code} {s₁ : State} {ws : List Jvm.Cond} {Z : State} {aw : Array Value} (hw : ∀ d ∈ tables_1, d.before aw Z = true) {h0 : Heap} (q0 : Int64) (q1 : Int64) (H : ¬ (q1 = (0 : Int64))) (x4 : Int64) (x6 : Int64)
    (Bd : BodyLoose p l (⟨"com/example/probable_set/probableset/sizing/ShapeOfPinLaw", "unsignedRem", "(JJ)J"⟩ : MethodName) (head1 (Jvm.Cond.code (⟨"com/example/probable_set/probableset/sizing/ShapeOfPinLaw", "unsignedRem", "(JJ)J"⟩ : MethodName) method_2_code 8 (some .long) :: ws) ({ frames := 0, cells := 0, slots := 0, locals := 0 } : Room)) method_2_code 8 (some .long) e s m #[(.long q0), (.long q1)] below meth c s₁) (hml : c.maxLocals = 8) (hZ : Z.Warmed39 s.vm) (T0 : State) (X0 : Stand p l e ({ frames := 0, cells := 0, slots := 0, locals := 0 } : Room) s m #[(.long q0), (.long q1)] below meth c T0 [] 0 0) (e0 : T0.heap = h0) :
    own_Go p e below s ({ frames := 0, cells := 0, slots := 0, locals := 0 } : Room).cells ({ frames := 0, cells := 0, slots := 0, locals := 0 } : Room).slots (some (.long (f8_27 q0 q1 x6))) (own_K0 h0) (T0.setTop (mkF m 27 #[.val (.long q0), .second, .val (.long q1), .second, .val (.long x4), .second, .val (.long x6), .second] [])) := by
  have hx := Bd.exec
  have hby := Bd.bytes
  have hown : s.vm.findClass "com/example/probable_set/probableset/sizing/ShapeOfPinLaw" = some m.cls := findClass_of_methodNamed Bd.named
  unfold f8_27
  refine own_pre (F' := T0.setTop (mkF m 29 #[.val (.long q0), .second, .val (.long q1), .second, .val (.long x4), .second, .val (.long x6), .second] [(.long x6)])) (fun _ k => XS.lload X0.here hx rfl (hb hby d8_27) rfl k) ?_
  refine own_pre (F' := T0.setTop (mkF m 32 #[.val (.long q0), .second, .val (.long q1), .second, .val (.long x4), .second, .val (.long x6), .second] [(.long (-9223372036854775808 : Int64)), (.long x6)])) (fun _ k => X0.ldc2Long hx hown (mvT hZ (hw _ (List.mem_of_getElem? (i := 45) rfl))) (g := (mkF m 29 #[.val (.long q0), .second, .val (.long q1), .second, .val (.long x4), .second, .val (.long x6), .second] [(.long x6)])) rfl (hb hby d8_29) _ k) ?_
  refine own_pre (F' := T0.setTop (mkF m 33 #[.val (.long q0), .second, .val (.long q1), .second, .val (.long x4), .second, .val (.long x6), .second] [(.long (x6 ^^^ (-9223372036854775808 : Int64)))])) (fun _ k => XS.lxor X0.here hx rfl (hb hby d8_32) rfl k) ?_
  refine own_pre (F' := T0.setTop (mkF m 34 #[.val (.long q0), .second, .val (.long q1), .second, .val (.long x4), .second, .val (.long x6), .second] [(.long q1), (.long (x6 ^^^ (-9223372036854775808 : Int64)))])) (fun _ k => XS.lloadN X0.here hx rfl (hb hby d8_33) rfl k) ?_
  refine own_pre (F' := T0.setTop (mkF m 37 #[.val (.long q0), .second, .val (.long q1), .second, .val (.long x4), .second, .val (.long x6), .second] [(.long (-9223372036854775808 : Int64)), (.long q1), (.long (x6 ^^^ (-9223372036854775808 : Int64)))])) (fun _ k => X0.ldc2Long hx hown (mvT hZ (hw _ (List.mem_of_getElem? (i := 45) rfl))) (g := (mkF m 34 #[.val (.long q0), .second, .val (.long q1), .second, .val (.long x4), .second, .val (.long x6), .second] [(.long q1), (.long (x6 ^^^ (-9223372036854775808 : Int64)))])) rfl (hb hby d8_34) _ k) ?_
  refine own_pre (F' := T0.setTop (mkF m 38 #[.val (.long q0), .second, .val (.long q1), .second, .val (.long x4), .second, .val (.long x6), .second] [(.long (q1 ^^^ (-9223372036854775808 : Int64))), (.long (x6 ^^^ (-9223372036854775808 : Int64)))])) (fun _ k => XS.lxor X0.here hx rfl (hb hby d8_37) rfl k) ?_
  refine own_pre (F' := T0.setTop (mkF m 39 #[.val (.long q0), .second, .val (.long q1), .second, .val (.long x4), .second, .val (.long x6), .second] [(.int (lcmpW (x6 ^^^ (-9223372036854775808 : Int64)) (q1 ^^^ (-9223372036854775808 : Int64))))])) (fun _ k => XS.lcmp X0.here hx rfl (hb hby d8_38) rfl k) ?_
  refine own_iteJ (fun hc39 => ?_) (fun hc39 => ?_)
  · skip
    refine own_pre (F' := T0.setTop (mkF m 48 #[.val (.long q0), .second, .val (.long q1), .second, .val (.long x4), .second, .val (.long x6), .second] [])) (fun _ k => XS.ifYes X0.here hx rfl (pc0 := 39) (pc' := 48) rfl (hb hby d8_39) rfl ((if0 _ _).trans (tlt ((lw_lt _ _).mpr hc39)).1) (by decide) (by decide) k) ?_
    exact g8_48 hw q0 q1 H x4 x6 Bd hml hZ T0 X0 e0
  · skip
    refine own_pre (F' := T0.setTop (mkF m 42 #[.val (.long q0), .second, .val (.long q1), .second, .val (.long x4), .second, .val (.long x6), .second] [])) (fun _ k => XS.ifNo X0.here hx rfl (hb hby d8_39) rfl ((if0 _ _).trans (flt (fun q => hc39 ((lw_lt _ _).mp q))).1) k) ?_
    refine own_pre (F' := T0.setTop (mkF m 44 #[.val (.long q0), .second, .val (.long q1), .second, .val (.long x4), .second, .val (.long x6), .second] [(.long x6)])) (fun _ k => XS.lload X0.here hx rfl (hb hby d8_42) rfl k) ?_
    refine own_pre (F' := T0.setTop (mkF m 45 #[.val (.long q0), .second, .val (.long q1), .second, .val (.long x4), .second, .val (.long x6), .second] [(.long q1), (.long x6)])) (fun _ k => XS.lloadN X0.here hx rfl (hb hby d8_44) rfl k) ?_
    refine own_pre (F' := T0.setTop (mkF m 46 #[.val (.long q0), .second, .val (.long q1), .second, .val (.long x4), .second, .val (.long x6), .second] [(.long (x6 - q1))])) (fun _ k => XS.lsub X0.here hx rfl (hb hby d8_45) rfl k) ?_
    refine own_pre (F' := T0.setTop (mkF m 48 #[.val (.long q0), .second, .val (.long q1), .second, .val (.long x4), .second, .val (.long (x6 - q1)), .second] [])) (fun _ k => XS.lstore X0.here hx rfl (hb hby d8_46) rfl (l' := #[.val (.long q0), .second, .val (.long q1), .second, .val (.long x4), .second, .val (.long (x6 - q1)), .second]) rfl k) ?_
    exact g8_48 hw q0 q1 H x4 (x6 - q1) Bd hml hZ T0 X0 e0
def f8_19 (q0 : Int64) (q1 : Int64) (x4 : Int64) : Int64 := (f8_27 q0 q1 (q0 - (x4 * q1)))
set_option maxRecDepth 65536 in
set_option maxHeartbeats 40000000 in
theorem g8_19 {p : Program} {l : Launch} {e : Env} {s : State} {m : MethodId} {below : List Frame} {meth : Method} {c : Code} {s₁ : State} {ws : List Jvm.Cond} {Z : State} {aw : Array Value} (hw : ∀ d ∈ tables_1, d.before aw Z = true) {h0 : Heap} (q0 : Int64) (q1 : Int64) (H : ¬ (q1 = (0 : Int64))) (x4 : Int64)
    (Bd : BodyLoose p l (⟨"com/example/probable_set/probableset/sizing/ShapeOfPinLaw", "unsignedRem", "(JJ)J"⟩ : MethodName) (head1 (Jvm.Cond.code (⟨"com/example/probable_set/probableset/sizing/ShapeOfPinLaw", "unsignedRem", "(JJ)J"⟩ : MethodName) method_2_code 8 (some .long) :: ws) ({ frames := 0, cells := 0, slots := 0, locals := 0 } : Room)) method_2_code 8 (some .long) e s m #[(.long q0), (.long q1)] below meth c s₁) (hml : c.maxLocals = 8) (hZ : Z.Warmed39 s.vm) (T0 : State) (X0 : Stand p l e ({ frames := 0, cells := 0, slots := 0, locals := 0 } : Room) s m #[(.long q0), (.long q1)] below meth c T0 [] 0 0) (e0 : T0.heap = h0) :
    own_Go p e below s ({ frames := 0, cells := 0, slots := 0, locals := 0 } : Room).cells ({ frames := 0, cells := 0, slots := 0, locals := 0 } : Room).slots (some (.long (f8_19 q0 q1 x4))) (own_K0 h0) (T0.setTop (mkF m 19 #[.val (.long q0), .second, .val (.long q1), .second, .val (.long x4), .second, .unset, .unset] [])) := by
  have hx := Bd.exec
  have hby := Bd.bytes
  have hown : s.vm.findClass "com/example/probable_set/probableset/sizing/ShapeOfPinLaw" = some m.cls := findClass_of_methodNamed Bd.named
  unfold f8_19
  refine own_pre (F' := T0.setTop (mkF m 20 #[.val (.long q0), .second, .val (.long q1), .second, .val (.long x4), .second, .unset, .unset] [(.long q0)])) (fun _ k => XS.lloadN X0.here hx rfl (hb hby d8_19) rfl k) ?_
  refine own_pre (F' := T0.setTop (mkF m 22 #[.val (.long q0), .second, .val (.long q1), .second, .val (.long x4), .second, .unset, .unset] [(.long x4), (.long q0)])) (fun _ k => XS.lload X0.here hx rfl (hb hby d8_20) rfl k) ?_
  refine own_pre (F' := T0.setTop (mkF m 23 #[.val (.long q0), .second, .val (.long q1), .second, .val (.long x4), .second, .unset, .unset] [(.long q1), (.long x4), (.long q0)])) (fun _ k => XS.lloadN X0.here hx rfl (hb hby d8_22) rfl k) ?_
  refine own_pre (F' := T0.setTop (mkF m 24 #[.val (.long q0), .second, .val (.long q1), .second, .val (.long x4), .second, .unset, .unset] [(.long (x4 * q1)), (.long q0)])) (fun _ k => XS.lmul X0.here hx rfl (hb hby d8_23) rfl k) ?_
  refine own_pre (F' := T0.setTop (mkF m 25 #[.val (.long q0), .second, .val (.long q1), .second, .val (.long x4), .second, .unset, .unset] [(.long (q0 - (x4 * q1)))])) (fun _ k => XS.lsub X0.here hx rfl (hb hby d8_24) rfl k) ?_
  refine own_pre (F' := T0.setTop (mkF m 27 #[.val (.long q0), .second, .val (.long q1), .second, .val (.long x4), .second, .val (.long (q0 - (x4 * q1))), .second] [])) (fun _ k => XS.lstore X0.here hx rfl (hb hby d8_25) rfl (l' := #[.val (.long q0), .second, .val (.long q1), .second, .val (.long x4), .second, .val (.long (q0 - (x4 * q1))), .second]) rfl k) ?_
  exact g8_27 hw q0 q1 H x4 (q0 - (x4 * q1)) Bd hml hZ T0 X0 e0
def f8_0 (q0 : Int64) (q1 : Int64) : Int64 := (if q0 < (0 : Int64) then (f8_19 q0 q1 ((((q0.toUInt64 >>> ((1 : Int32) &&& 0x3f).toInt64.toUInt64).toInt64) / q1) <<< ((1 : Int32) &&& 0x3f).toInt64)) else (q0 % q1))
set_option maxRecDepth 65536 in
set_option maxHeartbeats 40000000 in
theorem g8_0 {p : Program} {l : Launch} {e : Env} {s : State} {m : MethodId} {below : List Frame} {meth : Method} {c : Code} {s₁ : State} {ws : List Jvm.Cond} {Z : State} {aw : Array Value} (hw : ∀ d ∈ tables_1, d.before aw Z = true) {h0 : Heap} (q0 : Int64) (q1 : Int64) (H : ¬ (q1 = (0 : Int64)))
    (Bd : BodyLoose p l (⟨"com/example/probable_set/probableset/sizing/ShapeOfPinLaw", "unsignedRem", "(JJ)J"⟩ : MethodName) (head1 (Jvm.Cond.code (⟨"com/example/probable_set/probableset/sizing/ShapeOfPinLaw", "unsignedRem", "(JJ)J"⟩ : MethodName) method_2_code 8 (some .long) :: ws) ({ frames := 0, cells := 0, slots := 0, locals := 0 } : Room)) method_2_code 8 (some .long) e s m #[(.long q0), (.long q1)] below meth c s₁) (hml : c.maxLocals = 8) (hZ : Z.Warmed39 s.vm) (T0 : State) (X0 : Stand p l e ({ frames := 0, cells := 0, slots := 0, locals := 0 } : Room) s m #[(.long q0), (.long q1)] below meth c T0 [] 0 0) (e0 : T0.heap = h0) :
    own_Go p e below s ({ frames := 0, cells := 0, slots := 0, locals := 0 } : Room).cells ({ frames := 0, cells := 0, slots := 0, locals := 0 } : Room).slots (some (.long (f8_0 q0 q1))) (own_K0 h0) (T0.setTop (mkF m 0 #[.val (.long q0), .second, .val (.long q1), .second, .unset, .unset, .unset, .unset] [])) := by
  have hx := Bd.exec
  have hby := Bd.bytes
  have hown : s.vm.findClass "com/example/probable_set/probableset/sizing/ShapeOfPinLaw" = some m.cls := findClass_of_methodNamed Bd.named
  unfold f8_0
  refine own_pre (F' := T0.setTop (mkF m 1 #[.val (.long q0), .second, .val (.long q1), .second, .unset, .unset, .unset, .unset] [(.long q0)])) (fun _ k => XS.lloadN X0.here hx rfl (hb hby d8_0) rfl k) ?_
  refine own_pre (F' := T0.setTop (mkF m 2 #[.val (.long q0), .second, .val (.long q1), .second, .unset, .unset, .unset, .unset] [(.long (0 : Int64)), (.long q0)])) (fun _ k => XS.lconst X0.here hx rfl (hb hby d8_1) k) ?_
  refine own_pre (F' := T0.setTop (mkF m 3 #[.val (.long q0), .second, .val (.long q1), .second, .unset, .unset, .unset, .unset] [(.int (lcmpW q0 (0 : Int64)))])) (fun _ k => XS.lcmp X0.here hx rfl (hb hby d8_2) rfl k) ?_
  refine own_iteJ (fun hc3 => ?_) (fun hc3 => ?_)
  · skip
    refine own_pre (F' := T0.setTop (mkF m 10 #[.val (.long q0), .second, .val (.long q1), .second, .unset, .unset, .unset, .unset] [])) (fun _ k => XS.ifYes X0.here hx rfl (pc0 := 3) (pc' := 10) rfl (hb hby d8_3) rfl ((if0 _ _).trans (tlt ((lw_lt _ _).mpr hc3)).1) (by decide) (by decide) k) ?_
    refine own_pre (F' := T0.setTop (mkF m 11 #[.val (.long q0), .second, .val (.long q1), .second, .unset, .unset, .unset, .unset] [(.long q0)])) (fun _ k => XS.lloadN X0.here hx rfl (hb hby d8_10) rfl k) ?_
    refine own_pre (F' := T0.setTop (mkF m 12 #[.val (.long q0), .second, .val (.long q1), .second, .unset, .unset, .unset, .unset] [(.int (1 : Int32)), (.long q0)])) (fun _ k => XS.iconst X0.here hx rfl (hb hby d8_11) k) ?_
    refine own_pre (F' := T0.setTop (mkF m 13 #[.val (.long q0), .second, .val (.long q1), .second, .unset, .unset, .unset, .unset] [(.long ((q0.toUInt64 >>> ((1 : Int32) &&& 0x3f).toInt64.toUInt64).toInt64))])) (fun _ k => XS.lushr X0.here hx rfl (hb hby d8_12) rfl k) ?_
    refine own_pre (F' := T0.setTop (mkF m 14 #[.val (.long q0), .second, .val (.long q1), .second, .unset, .unset, .unset, .unset] [(.long q1), (.long ((q0.toUInt64 >>> ((1 : Int32) &&& 0x3f).toInt64.toUInt64).toInt64))])) (fun _ k => XS.lloadN X0.here hx rfl (hb hby d8_13) rfl k) ?_
    refine own_pre (F' := T0.setTop (mkF m 15 #[.val (.long q0), .second, .val (.long q1), .second, .unset, .unset, .unset, .unset] [(.long (((q0.toUInt64 >>> ((1 : Int32) &&& 0x3f).toInt64.toUInt64).toInt64) / q1))])) (fun _ k => XS.ldiv X0.here hx rfl (hb hby d8_14) rfl H k) ?_
    refine own_pre (F' := T0.setTop (mkF m 16 #[.val (.long q0), .second, .val (.long q1), .second, .unset, .unset, .unset, .unset] [(.int (1 : Int32)), (.long (((q0.toUInt64 >>> ((1 : Int32) &&& 0x3f).toInt64.toUInt64).toInt64) / q1))])) (fun _ k => XS.iconst X0.here hx rfl (hb hby d8_15) k) ?_
    refine own_pre (F' := T0.setTop (mkF m 17 #[.val (.long q0), .second, .val (.long q1), .second, .unset, .unset, .unset, .unset] [(.long ((((q0.toUInt64 >>> ((1 : Int32) &&& 0x3f).toInt64.toUInt64).toInt64) / q1) <<< ((1 : Int32) &&& 0x3f).toInt64))])) (fun _ k => XS.lshl X0.here hx rfl (hb hby d8_16) rfl k) ?_
    refine own_pre (F' := T0.setTop (mkF m 19 #[.val (.long q0), .second, .val (.long q1), .second, .val (.long ((((q0.toUInt64 >>> ((1 : Int32) &&& 0x3f).toInt64.toUInt64).toInt64) / q1) <<< ((1 : Int32) &&& 0x3f).toInt64)), .second, .unset, .unset] [])) (fun _ k => XS.lstore X0.here hx rfl (hb hby d8_17) rfl (l' := #[.val (.long q0), .second, .val (.long q1), .second, .val (.long ((((q0.toUInt64 >>> ((1 : Int32) &&& 0x3f).toInt64.toUInt64).toInt64) / q1) <<< ((1 : Int32) &&& 0x3f).toInt64)), .second, .unset, .unset]) rfl k) ?_
    exact g8_19 hw q0 q1 H ((((q0.toUInt64 >>> ((1 : Int32) &&& 0x3f).toInt64.toUInt64).toInt64) / q1) <<< ((1 : Int32) &&& 0x3f).toInt64) Bd hml hZ T0 X0 e0
  · skip
    refine own_pre (F' := T0.setTop (mkF m 6 #[.val (.long q0), .second, .val (.long q1), .second, .unset, .unset, .unset, .unset] [])) (fun _ k => XS.ifNo X0.here hx rfl (hb hby d8_3) rfl ((if0 _ _).trans (flt (fun q => hc3 ((lw_lt _ _).mp q))).1) k) ?_
    refine own_pre (F' := T0.setTop (mkF m 7 #[.val (.long q0), .second, .val (.long q1), .second, .unset, .unset, .unset, .unset] [(.long q0)])) (fun _ k => XS.lloadN X0.here hx rfl (hb hby d8_6) rfl k) ?_
    refine own_pre (F' := T0.setTop (mkF m 8 #[.val (.long q0), .second, .val (.long q1), .second, .unset, .unset, .unset, .unset] [(.long q1), (.long q0)])) (fun _ k => XS.lloadN X0.here hx rfl (hb hby d8_7) rfl k) ?_
    refine own_pre (F' := T0.setTop (mkF m 9 #[.val (.long q0), .second, .val (.long q1), .second, .unset, .unset, .unset, .unset] [(.long (q0 % q1))])) (fun _ k => own_lremM X0 hx rfl (hb hby d8_8) rfl H k) ?_
    exact own_ret X0 hx Bd.notSynchronized Bd.returns rfl (Or.inr (Or.inl ⟨rfl, rfl, _, rfl⟩)) (hb hby d8_9) ⟨rfl, e0⟩ (by decide) (by decide)
theorem ef_8 (m : MethodId) (q0 : Int64) (q1 : Int64) : entryFrame m #[(.long q0), (.long q1)] 8 = mkF m 0 #[.val (.long q0), .second, .val (.long q1), .second, .unset, .unset, .unset, .unset] [] := by first | (simp [entryFrame, mkF, argsToLocals, Value.category]; done) | rfl
set_option maxRecDepth 65536 in
set_option maxHeartbeats 40000000 in
theorem rm8 (l : Launch) (Z : State) (aw : Array Value) (hw : ∀ d ∈ tables_1, d.before aw Z = true) (ws : List Jvm.Cond) (q0 : Int64) (q1 : Int64) (h0 : Heap) (H : ¬ (q1 = (0 : Int64))) :
    MetFree l (⟨"com/example/probable_set/probableset/sizing/ShapeOfPinLaw", "unsignedRem", "(JJ)J"⟩ : MethodName) (head1 (Jvm.Cond.code (⟨"com/example/probable_set/probableset/sizing/ShapeOfPinLaw", "unsignedRem", "(JJ)J"⟩ : MethodName) method_2_code 8 (some .long) :: ws) ({ frames := 0, cells := 0, slots := 0, locals := 0 } : Room)) (fun a U => a = #[(.long q0), (.long q1)] ∧ Z.Warmed39 U.vm ∧ U.heap = h0) (fun _ _ _ _ _ => True) (fun _ U o U' => ∃ v L, o = .returned v ∧ own_Q (some (.long (f8_0 q0 q1))) (own_K0 h0) v U'.heap L ∧ FrameEnd U o U' L ({ frames := 0, cells := 0, slots := 0, locals := 0 } : Room).cells ({ frames := 0, cells := 0, slots := 0, locals := 0 } : Room).slots) := by
  refine MetFree.of_bodySF (plainFor_of_name own_pn1) hisR ?_
  intro p e s m args below meth c s₁ Bd hml0 hP hK
  obtain ⟨rfl, hZ, hh⟩ := hP
  have hml : c.maxLocals = 8 := hml0
  have e0 : s₁.heap = h0 := by rw [← hh, Bd.state]; rfl
  exact own_pre (fun t k => castTop (ef_8 m q0 q1) k) (g8_0 hw q0 q1 H Bd hml hZ s₁ (Stand.of_body Bd) e0)
theorem own_pd0 : parseMethodDescriptor "(JJ)J" = some ⟨[.long, .long], some .long⟩ := by decide +kernel
/-! body 9 -/
theorem d9_0 : decode prog_20_method_9_code 0 = .ok (.ldc2_w 92, 3) := by decide +kernel
theorem d9_3 : decode prog_20_method_9_code 3 = .ok (.lload_n 0, 1) := by decide +kernel
theorem d9_4 : decode prog_20_method_9_code 4 = .ok (.invokestatic 94, 3) := by decide +kernel
theorem d9_7 : decode prog_20_method_9_code 7 = .ok (.lstore_n 2, 1) := by decide +kernel
theorem d9_8 : decode prog_20_method_9_code 8 = .ok (.ldc2_w 92, 3) := by decide +kernel
theorem d9_11 : decode prog_20_method_9_code 11 = .ok (.lload_n 0, 1) := by decide +kernel
theorem d9_12 : decode prog_20_method_9_code 12 = .ok (.invokestatic 73, 3) := by decide +kernel
theorem d9_15 : decode prog_20_method_9_code 15 = .ok (.lstore 4, 2) := by decide +kernel
theorem d9_17 : decode prog_20_method_9_code 17 = .ok (.ldc2_w 97, 3) := by decide +kernel
theorem d9_20 : decode prog_20_method_9_code 20 = .ok (.lload_n 2, 1) := by decide +kernel
theorem d9_21 : decode prog_20_method_9_code 21 = .ok (.lmul, 1) := by decide +kernel
theorem d9_22 : decode prog_20_method_9_code 22 = .ok (.ldc2_w 97, 3) := by decide +kernel
theorem d9_25 : decode prog_20_method_9_code 25 = .ok (.lload 4, 2) := by decide +kernel
theorem d9_27 : decode prog_20_method_9_code 27 = .ok (.lmul, 1) := by decide +kernel
theorem d9_28 : decode prog_20_method_9_code 28 = .ok (.lconst 1, 1) := by decide +kernel
theorem d9_29 : decode prog_20_method_9_code 29 = .ok (.ladd, 1) := by decide +kernel
theorem d9_30 : decode prog_20_method_9_code 30 = .ok (.lload_n 0, 1) := by decide +kernel
theorem d9_31 : decode prog_20_method_9_code 31 = .ok (.invokestatic 94, 3) := by decide +kernel
theorem d9_34 : decode prog_20_method_9_code 34 = .ok (.ladd, 1) := by decide +kernel
theorem d9_35 : decode prog_20_method_9_code 35 = .ok (.lreturn, 1) := by decide +kernel
theorem own_pn2 : plainName "com/example/probable_set/probableset/sizing/Shape" = true := by first | (simp [plainName, overriddenIn]; done) | decide +kernel
def f9_0 (q0 : Int64) : Int64 := (((2 : Int64) * (f10_0 (-1 : Int64) q0)) + (f10_0 (((2 : Int64) * (f7_0 (-1 : Int64) q0)) + (1 : Int64)) q0))
set_option maxRecDepth 65536 in
set_option maxHeartbeats 40000000 in
theorem g9_0 {p : Program} {l : Launch} {e : Env} {s : State} {m : MethodId} {below : List Frame} {meth : Method} {c : Code} {s₁ : State} {ws : List Jvm.Cond} {Z : State} {aw : Array Value} (hw : ∀ d ∈ tables_1, d.before aw Z = true) {h0 : Heap} (q0 : Int64) (H : ¬ (q0 = (0 : Int64)))
    (Bd : BodyLoose p l (⟨"com/example/probable_set/probableset/sizing/Shape", "reciprocalOf", "(J)J"⟩ : MethodName) (head1 (Jvm.Cond.code (⟨"com/example/probable_set/probableset/sizing/Shape", "reciprocalOf", "(J)J"⟩ : MethodName) prog_20_method_9_code 6 (some .long) :: ws) ({ frames := 1, cells := 0, slots := 0, locals := 27 } : Room)) prog_20_method_9_code 6 (some .long) e s m #[(.long q0)] below meth c s₁) (hml : c.maxLocals = 6) (hZ : Z.Warmed39 s.vm) (T0 : State) (X0 : Stand p l e ({ frames := 1, cells := 0, slots := 0, locals := 27 } : Room) s m #[(.long q0)] below meth c T0 [] 0 0) (e0 : T0.heap = h0) :
    own_Go p e below s ({ frames := 1, cells := 0, slots := 0, locals := 27 } : Room).cells ({ frames := 1, cells := 0, slots := 0, locals := 27 } : Room).slots (some (.long (f9_0 q0))) (own_K0 h0) (T0.setTop (mkF m 0 #[.val (.long q0), .second, .unset, .unset, .unset, .unset] [])) := by
  have hx := Bd.exec
  have hby := Bd.bytes
  have hown : s.vm.findClass "com/example/probable_set/probableset/sizing/Shape" = some m.cls := findClass_of_methodNamed Bd.named
  unfold f9_0
  refine own_pre (F' := T0.setTop (mkF m 3 #[.val (.long q0), .second, .unset, .unset, .unset, .unset] [(.long (-1 : Int64))])) (fun _ k => X0.ldc2Long hx hown (mvT hZ (hw _ (List.mem_of_getElem? (i := 49) rfl))) (g := (mkF m 0 #[.val (.long q0), .second, .unset, .unset, .unset, .unset] [])) rfl (hb hby d9_0) _ k) ?_
  refine own_pre (F' := T0.setTop (mkF m 4 #[.val (.long q0), .second, .unset, .unset, .unset, .unset] [(.long q0), (.long (-1 : Int64))])) (fun _ k => XS.lloadN X0.here hx rfl (hb hby d9_3) rfl k) ?_
  obtain ⟨_, _, ⟨T1, L', k', n'⟩, -, X'', ⟨Lc', hQ', l', y', z'⟩, st'⟩ := Jvm.LawKit.callS X0 hx (y := (⟨"java/lang/Long", "divideUnsigned", "(JJ)J"⟩ : MethodName)) hown (mvT hZ (hw _ (List.mem_of_getElem? (i := 50) rfl))) (mvT hZ (hw _ (List.mem_of_getElem? (i := 51) rfl))) (mvT hZ (hw _ (List.mem_of_getElem? (i := 38) rfl))) (mvT hZ (hw _ (List.mem_of_getElem? (i := 52) rfl))) (by decide) (backOf (W := 0) (rm10 l Z aw hw [] (-1 : Int64) q0 h0 H) hZ (hw _ (List.mem_of_getElem? (i := 52) rfl)) (hw _ (List.mem_of_getElem? (i := 38) rfl)) (by decide) (by decide)) (g := (mkF m 4 #[.val (.long q0), .second, .unset, .unset, .unset, .unset] [(.long q0), (.long (-1 : Int64))])) rfl (by rw [hml]; rfl) (argsL := [(.long (-1 : Int64)), (.long q0)]) (rest := []) (lenOf own_pd0 rfl) rfl (by show 2 * 0 + _ ≤ _; exact Nat.le_of_eq rfl) (hb hby d9_4) (fun _ _ => ⟨rfl, e0, (by decide : 0 + 0 ≤ _), (by decide : 0 + 0 ≤ _)⟩)
  dsimp only [Pt.U, Pt.locs, Pt.cells, Pt.slots] at X'' l' y' z' st' hQ'
  subst l' y' z'
  obtain ⟨rfl, rfl, e1⟩ := hQ'
  have X1 : Stand p l e ({ frames := 1, cells := 0, slots := 0, locals := 27 } : Room) s m #[(.long q0)] below meth c T1 [] 0 0 := X''
  refine own_pre (F' := T1.setTop (mkF m 7 #[.val (.long q0), .second, .unset, .unset, .unset, .unset] [(.long (f10_0 (-1 : Int64) q0))])) (fun t k => st' t k) ?_
  refine own_pre (F' := T1.setTop (mkF m 8 #[.val (.long q0), .second, .val (.long (f10_0 (-1 : Int64) q0)), .second, .unset, .unset] [])) (fun _ k => XS.lstoreN X1.here hx rfl (hb hby d9_7) rfl (l' := #[.val (.long q0), .second, .val (.long (f10_0 (-1 : Int64) q0)), .second, .unset, .unset]) rfl k) ?_
  refine own_pre (F' := T1.setTop (mkF m 11 #[.val (.long q0), .second, .val (.long (f10_0 (-1 : Int64) q0)), .second, .unset, .unset] [(.long (-1 : Int64))])) (fun _ k => X1.ldc2Long hx hown (mvT hZ (hw _ (List.mem_of_getElem? (i := 49) rfl))) (g := (mkF m 8 #[.val (.long q0), .second, .val (.long (f10_0 (-1 : Int64) q0)), .second, .unset, .unset] [])) rfl (hb hby d9_8) _ k) ?_
  refine own_pre (F' := T1.setTop (mkF m 12 #[.val (.long q0), .second, .val (.long (f10_0 (-1 : Int64) q0)), .second, .unset, .unset] [(.long q0), (.long (-1 : Int64))])) (fun _ k => XS.lloadN X1.here hx rfl (hb hby d9_11) rfl k) ?_
  obtain ⟨_, _, ⟨T2, L', k', n'⟩, -, X'', ⟨Lc', hQ', l', y', z'⟩, st'⟩ := Jvm.LawKit.callS X1 hx (y := (⟨"java/lang/Long", "remainderUnsigned", "(JJ)J"⟩ : MethodName)) hown (mvT hZ (hw _ (List.mem_of_getElem? (i := 36) rfl))) (mvT hZ (hw _ (List.mem_of_getElem? (i := 37) rfl))) (mvT hZ (hw _ (List.mem_of_getElem? (i := 38) rfl))) (mvT hZ (hw _ (List.mem_of_getElem? (i := 39) rfl))) (by decide) (backOf (W := 0) (rm7 l Z aw hw [] (-1 : Int64) q0 h0 H) hZ (hw _ (List.mem_of_getElem? (i := 39) rfl)) (hw _ (List.mem_of_getElem? (i := 38) rfl)) (by decide) (by decide)) (g := (mkF m 12 #[.val (.long q0), .second, .val (.long (f10_0 (-1 : Int64) q0)), .second, .unset, .unset] [(.long q0), (.long (-1 : Int64))])) rfl (by rw [hml]; rfl) (argsL := [(.long (-1 : Int64)), (.long q0)]) (rest := []) (lenOf own_pd0 rfl) rfl (by show 2 * 0 + _ ≤ _; exact Nat.le_of_eq rfl) (hb hby d9_12) (fun _ _ => ⟨rfl, e1, (by decide : 0 + 0 ≤ _), (by decide : 0 + 0 ≤ _)⟩)
  dsimp only [Pt.U, Pt.locs, Pt.cells, Pt.slots] at X'' l' y' z' st' hQ'
  subst l' y' z'
  obtain ⟨rfl, rfl, e2⟩ := hQ'
  have X2 : Stand p l e ({ frames := 1, cells := 0, slots := 0, locals := 27 } : Room) s m #[(.long q0)] below meth c T2 [] 0 0 := X''
  refine own_pre (F' := T2.setTop (mkF m 15 #[.val (.long q0), .second, .val (.long (f10_0 (-1 : Int64) q0)), .second, .unset, .unset] [(.long (f7_0 (-1 : Int64) q0))])) (fun t k => st' t k) ?_
  refine own_pre (F' := T2.setTop (mkF m 17 #[.val (.long q0), .second, .val (.long (f10_0 (-1 : Int64) q0)), .second, .val (.long (f7_0 (-1 : Int64) q0)), .second] [])) (fun _ k => XS.lstore X2.here hx rfl (hb hby d9_15) rfl (l' := #[.val (.long q0), .second, .val (.long (f10_0 (-1 : Int64) q0)), .second, .val (.long (f7_0 (-1 : Int64) q0)), .second]) rfl k) ?_
  refine own_pre (F' := T2.setTop (mkF m 20 #[.val (.long q0), .second, .val (.long (f10_0 (-1 : Int64) q0)), .second, .val (.long (f7_0 (-1 : Int64) q0)), .second] [(.long (2 : Int64))])) (fun _ k => X2.ldc2Long hx hown (mvT hZ (hw _ (List.mem_of_getElem? (i := 53) rfl))) (g := (mkF m 17 #[.val (.long q0), .second, .val (.long (f10_0 (-1 : Int64) q0)), .second, .val (.long (f7_0 (-1 : Int64) q0)), .second] [])) rfl (hb hby d9_17) _ k) ?_
  refine own_pre (F' := T2.setTop (mkF m 21 #[.val (.long q0), .second, .val (.long (f10_0 (-1 : Int64) q0)), .second, .val (.long (f7_0 (-1 : Int64) q0)), .second] [(.long (f10_0 (-1 : Int64) q0)), (.long (2 : Int64))])) (fun _ k => XS.lloadN X2.here hx rfl (hb hby d9_20) rfl k) ?_
  refine own_pre (F' := T2.setTop (mkF m 22 #[.val (.long q0), .second, .val (.long (f10_0 (-1 : Int64) q0)), .second, .val (.long (f7_0 (-1 : Int64) q0)), .second] [(.long ((2 : Int64) * (f10_0 (-1 : Int64) q0)))])) (fun _ k => XS.lmul X2.here hx rfl (hb hby d9_21) rfl k) ?_
  refine own_pre (F' := T2.setTop (mkF m 25 #[.val (.long q0), .second, .val (.long (f10_0 (-1 : Int64) q0)), .second, .val (.long (f7_0 (-1 : Int64) q0)), .second] [(.long (2 : Int64)), (.long ((2 : Int64) * (f10_0 (-1 : Int64) q0)))])) (fun _ k => X2.ldc2Long hx hown (mvT hZ (hw _ (List.mem_of_getElem? (i := 53) rfl))) (g := (mkF m 22 #[.val (.long q0), .second, .val (.long (f10_0 (-1 : Int64) q0)), .second, .val (.long (f7_0 (-1 : Int64) q0)), .second] [(.long ((2 : Int64) * (f10_0 (-1 : Int64) q0)))])) rfl (hb hby d9_22) _ k) ?_
  refine own_pre (F' := T2.setTop (mkF m 27 #[.val (.long q0), .second, .val (.long (f10_0 (-1 : Int64) q0)), .second, .val (.long (f7_0 (-1 : Int64) q0)), .second] [(.long (f7_0 (-1 : Int64) q0)), (.long (2 : Int64)), (.long ((2 : Int64) * (f10_0 (-1 : Int64) q0)))])) (fun _ k => XS.lload X2.here hx rfl (hb hby d9_25) rfl k) ?_
  refine own_pre (F' := T2.setTop (mkF m 28 #[.val (.long q0), .second, .val (.long (f10_0 (-1 : Int64) q0)), .second, .val (.long (f7_0 (-1 : Int64) q0)), .second] [(.long ((2 : Int64) * (f7_0 (-1 : Int64) q0))), (.long ((2 : Int64) * (f10_0 (-1 : Int64) q0)))])) (fun _ k => XS.lmul X2.here hx rfl (hb hby d9_27) rfl k) ?_
  refine own_pre (F' := T2.setTop (mkF m 29 #[.val (.long q0), .second, .val (.long (f10_0 (-1 : Int64) q0)), .second, .val (.long (f7_0 (-1 : Int64) q0)), .second] [(.long (1 : Int64)), (.long ((2 : Int64) * (f7_0 (-1 : Int64) q0))), (.long ((2 : Int64) * (f10_0 (-1 : Int64) q0)))])) (fun _ k => XS.lconst X2.here hx rfl (hb hby d9_28) k) ?_
  refine own_pre (F' := T2.setTop (mkF m 30 #[.val (.long q0), .second, .val (.long (f10_0 (-1 : Int64) q0)), .second, .val (.long (f7_0 (-1 : Int64) q0)), .second] [(.long (((2 : Int64) * (f7_0 (-1 : Int64) q0)) + (1 : Int64))), (.long ((2 : Int64) * (f10_0 (-1 : Int64) q0)))])) (fun _ k => XS.ladd X2.here hx rfl (hb hby d9_29) rfl k) ?_
  refine own_pre (F' := T2.setTop (mkF m 31 #[.val (.long q0), .second, .val (.long (f10_0 (-1 : Int64) q0)), .second, .val (.long (f7_0 (-1 : Int64) q0)), .second] [(.long q0), (.long (((2 : Int64) * (f7_0 (-1 : Int64) q0)) + (1 : Int64))), (.long ((2 : Int64) * (f10_0 (-1 : Int64) q0)))])) (fun _ k => XS.lloadN X2.here hx rfl (hb hby d9_30) rfl k) ?_
  obtain ⟨_, _, ⟨T3, L', k', n'⟩, -, X'', ⟨Lc', hQ', l', y', z'⟩, st'⟩ := Jvm.LawKit.callS X2 hx (y := (⟨"java/lang/Long", "divideUnsigned", "(JJ)J"⟩ : MethodName)) hown (mvT hZ (hw _ (List.mem_of_getElem? (i := 50) rfl))) (mvT hZ (hw _ (List.mem_of_getElem? (i := 51) rfl))) (mvT hZ (hw _ (List.mem_of_getElem? (i := 38) rfl))) (mvT hZ (hw _ (List.mem_of_getElem? (i := 52) rfl))) (by decide) (backOf (W := 2) (rm10 l Z aw hw [] (((2 : Int64) * (f7_0 (-1 : Int64) q0)) + (1 : Int64)) q0 h0 H) hZ (hw _ (List.mem_of_getElem? (i := 52) rfl)) (hw _ (List.mem_of_getElem? (i := 38) rfl)) (by decide) (by decide)) (g := (mkF m 31 #[.val (.long q0), .second, .val (.long (f10_0 (-1 : Int64) q0)), .second, .val (.long (f7_0 (-1 : Int64) q0)), .second] [(.long q0), (.long (((2 : Int64) * (f7_0 (-1 : Int64) q0)) + (1 : Int64))), (.long ((2 : Int64) * (f10_0 (-1 : Int64) q0)))])) rfl (by rw [hml]; rfl) (argsL := [(.long (((2 : Int64) * (f7_0 (-1 : Int64) q0)) + (1 : Int64))), (.long q0)]) (rest := [(.long ((2 : Int64) * (f10_0 (-1 : Int64) q0)))]) (lenOf own_pd0 rfl) rfl (by show 2 * 0 + _ ≤ _; exact Nat.le_of_eq rfl) (hb hby d9_31) (fun _ _ => ⟨rfl, e2, (by decide : 0 + 0 ≤ _), (by decide : 0 + 0 ≤ _)⟩)
  dsimp only [Pt.U, Pt.locs, Pt.cells, Pt.slots] at X'' l' y' z' st' hQ'
  subst l' y' z'
  obtain ⟨rfl, rfl, e3⟩ := hQ'
  have X3 : Stand p l e ({ frames := 1, cells := 0, slots := 0, locals := 27 } : Room) s m #[(.long q0)] below meth c T3 [] 0 0 := X''
  refine own_pre (F' := T3.setTop (mkF m 34 #[.val (.long q0), .second, .val (.long (f10_0 (-1 : Int64) q0)), .second, .val (.long (f7_0 (-1 : Int64) q0)), .second] [(.long (f10_0 (((2 : Int64) * (f7_0 (-1 : Int64) q0)) + (1 : Int64)) q0)), (.long ((2 : Int64) * (f10_0 (-1 : Int64) q0)))])) (fun t k => st' t k) ?_
  refine own_pre (F' := T3.setTop (mkF m 35 #[.val (.long q0), .second, .val (.long (f10_0 (-1 : Int64) q0)), .second, .val (.long (f7_0 (-1 : Int64) q0)), .second] [(.long (((2 : Int64) * (f10_0 (-1 : Int64) q0)) + (f10_0 (((2 : Int64) * (f7_0 (-1 : Int64) q0)) + (1 : Int64)) q0)))])) (fun _ k => XS.ladd X3.here hx rfl (hb hby d9_34) rfl k) ?_
  exact own_ret X3 hx Bd.notSynchronized Bd.returns rfl (Or.inr (Or.inl ⟨rfl, rfl, _, rfl⟩)) (hb hby d9_35) ⟨rfl, e3⟩ (by decide) (by decide)
theorem ef_9 (m : MethodId) (q0 : Int64) : entryFrame m #[(.long q0)] 6 = mkF m 0 #[.val (.long q0), .second, .unset, .unset, .unset, .unset] [] := by first | (simp [entryFrame, mkF, argsToLocals, Value.category]; done) | rfl
set_option maxRecDepth 65536 in
set_option maxHeartbeats 40000000 in
theorem rm9 (l : Launch) (Z : State) (aw : Array Value) (hw : ∀ d ∈ tables_1, d.before aw Z = true) (ws : List Jvm.Cond) (q0 : Int64) (h0 : Heap) (H : ¬ (q0 = (0 : Int64))) :
    MetFree l (⟨"com/example/probable_set/probableset/sizing/Shape", "reciprocalOf", "(J)J"⟩ : MethodName) (head1 (Jvm.Cond.code (⟨"com/example/probable_set/probableset/sizing/Shape", "reciprocalOf", "(J)J"⟩ : MethodName) prog_20_method_9_code 6 (some .long) :: ws) ({ frames := 1, cells := 0, slots := 0, locals := 27 } : Room)) (fun a U => a = #[(.long q0)] ∧ Z.Warmed39 U.vm ∧ U.heap = h0) (fun _ _ _ _ _ => True) (fun _ U o U' => ∃ v L, o = .returned v ∧ own_Q (some (.long (f9_0 q0))) (own_K0 h0) v U'.heap L ∧ FrameEnd U o U' L ({ frames := 1, cells := 0, slots := 0, locals := 27 } : Room).cells ({ frames := 1, cells := 0, slots := 0, locals := 27 } : Room).slots) := by
  refine MetFree.of_bodySF (plainFor_of_name own_pn2) hisR ?_
  intro p e s m args below meth c s₁ Bd hml0 hP hK
  obtain ⟨rfl, hZ, hh⟩ := hP
  have hml : c.maxLocals = 6 := hml0
  have e0 : s₁.heap = h0 := by rw [← hh, Bd.state]; rfl
  exact own_pre (fun t k => castTop (ef_9 m q0) k) (g9_0 hw q0 H Bd hml hZ s₁ (Stand.of_body Bd) e0)
theorem own_nz4 {x : Int64} (h : ¬ (x < (4 : Int64))) : ¬ (x = (0 : Int64)) := by
  intro q; subst q; exact h (by decide)
theorem own_pd1 : parseMethodDescriptor "(J)J" = some ⟨[.long], some .long⟩ := by decide +kernel
/-! body 2 -/
theorem d2_0 : decode prog_20_method_1_code 0 = .ok (.aload_n 0, 1) := by decide +kernel
theorem d2_1 : decode prog_20_method_1_code 1 = .ok (.invokespecial 1, 3) := by decide +kernel
theorem d2_4 : decode prog_20_method_1_code 4 = .ok (.aload_n 0, 1) := by decide +kernel
theorem d2_5 : decode prog_20_method_1_code 5 = .ok (.lload_n 1, 1) := by decide +kernel
theorem d2_6 : decode prog_20_method_1_code 6 = .ok (.putfield 7, 3) := by decide +kernel
theorem d2_9 : decode prog_20_method_1_code 9 = .ok (.aload_n 0, 1) := by decide +kernel
theorem d2_10 : decode prog_20_method_1_code 10 = .ok (.iload_n 3, 1) := by decide +kernel
theorem d2_11 : decode prog_20_method_1_code 11 = .ok (.putfield 13, 3) := by decide +kernel
theorem d2_14 : decode prog_20_method_1_code 14 = .ok (.aload_n 0, 1) := by decide +kernel
theorem d2_15 : decode prog_20_method_1_code 15 = .ok (.lload_n 1, 1) := by decide +kernel
theorem d2_16 : decode prog_20_method_1_code 16 = .ok (.ldc2_w 17, 3) := by decide +kernel
theorem d2_19 : decode prog_20_method_1_code 19 = .ok (.lcmp, 1) := by decide +kernel
theorem d2_20 : decode prog_20_method_1_code 20 = .ok (.ifCond .ge 7, 3) := by decide +kernel
theorem d2_23 : decode prog_20_method_1_code 23 = .ok (.lconst 0, 1) := by decide +kernel
theorem d2_24 : decode prog_20_method_1_code 24 = .ok (.goto 7, 3) := by decide +kernel
theorem d2_27 : decode prog_20_method_1_code 27 = .ok (.lload_n 1, 1) := by decide +kernel
theorem d2_28 : decode prog_20_method_1_code 28 = .ok (.invokestatic 19, 3) := by decide +kernel
theorem d2_31 : decode prog_20_method_1_code 31 = .ok (.putfield 23, 3) := by decide +kernel
theorem d2_34 : decode prog_20_method_1_code 34 = .ok (.return_, 1) := by decide +kernel
def R2 (t : Int64 × Int32 × Int64) : Option Value := none
def K2 (Z : State) (a0 : Addr) (h0 : Heap) (n0 : Nat) (t : Int64 × Int32 × Int64) (h : Heap) (L : List Loc) : Prop := Fr n0 L ∧ Keep h0 h [a0] ∧ Exa Z h a0 "com/example/probable_set/probableset/sizing/Shape" ∧ Fld Z h a0 "com/example/probable_set/probableset/sizing/Shape" "bits" "J" (.long t.1) ∧ Fld Z h a0 "com/example/probable_set/probableset/sizing/Shape" "hashes" "I" (.int t.2.1) ∧ Fld Z h a0 "com/example/probable_set/probableset/sizing/Shape" "reciprocal" "J" (.long t.2.2)
def f2_31 (q1 : Int64) (p2 : Int32) (u0_bits : Int64) (u0_hashes : Int32) (u0_reciprocal : Int64) (y0 : Int64) : Int64 × Int32 × Int64 := (q1, p2, y0)
set_option maxRecDepth 65536 in
set_option maxHeartbeats 40000000 in
theorem g2_31 {p : Program} {l : Launch} {e : Env} {s : State} {m : MethodId} {below : List Frame} {meth : Method} {c : Code} {s₁ : State} {ws : List Jvm.Cond} {Z : State} {aw : Array Value} (hw : ∀ d ∈ tables_1, d.before aw Z = true) {h0 : Heap} {n0 : Nat} (q1 : Int64) (p2 : Int32) (u0_bits : Int64) (u0_hashes : Int32) (u0_reciprocal : Int64) (a0 : Addr) (y0 : Int64)
    (Bd : BodyLoose p l (⟨"com/example/probable_set/probableset/sizing/Shape", "<init>", "(JI)V"⟩ : MethodName) (head1 (Jvm.Cond.code (⟨"com/example/probable_set/probableset/sizing/Shape", "<init>", "(JI)V"⟩ : MethodName) prog_20_method_1_code 4 none :: ws) ({ frames := 2, cells := 0, slots := 0, locals := 52 } : Room)) prog_20_method_1_code 4 none e s m #[(.ref a0), (.long q1), (.int p2)] below meth c s₁) (hml : c.maxLocals = 4) (hZ : Z.Warmed39 s.vm) (g_a0 : n0 ≤ a0) (T0 : State) {locs : List Loc} (X0 : Stand p l e ({ frames := 2, cells := 0, slots := 0, locals := 52 } : Room) s m #[(.ref a0), (.long q1), (.int p2)] below meth c T0 locs 0 0) {h : Heap} (e0 : T0.heap = h) (SZ0 : n0 ≤ h.size) (NF0 : Fr n0 locs) (KP0 : Keep h0 h [a0]) (E_a0 : Exa Z h a0 "com/example/probable_set/probableset/sizing/Shape") (F_a0_bits : Fld Z h a0 "com/example/probable_set/probableset/sizing/Shape" "bits" "J" (.long q1)) (F_a0_hashes : Fld Z h a0 "com/example/probable_set/probableset/sizing/Shape" "hashes" "I" (.int p2)) (F_a0_reciprocal : Fld Z h a0 "com/example/probable_set/probableset/sizing/Shape" "reciprocal" "J" (.long u0_reciprocal)) :
    own_Go p e below s ({ frames := 2, cells := 0, slots := 0, locals := 52 } : Room).cells ({ frames := 2, cells := 0, slots := 0, locals := 52 } : Room).slots (R2 (f2_31 q1 p2 u0_bits u0_hashes u0_reciprocal y0)) (K2 Z a0 h0 n0 (f2_31 q1 p2 u0_bits u0_hashes u0_reciprocal y0)) (T0.setTop (mkF m 31 #[.val (.ref a0), .val (.long q1), .second, .val (.int p2)] [(.long y0), (.ref a0)])) := by
  have hx := Bd.exec
  have hby := Bd.bytes
  have hown : s.vm.findClass "com/example/probable_set/probableset/sizing/Shape" = some m.cls := findClass_of_methodNamed Bd.named
  have hnm := (name_of_methodNamed Bd.named Bd.method).1
  unfold f2_31
  obtain ⟨T1, h1, X1, e1, W1, st'⟩ := putF X0 hx hZ hown (host := "") (Or.inl (hw _ (List.mem_of_getElem? (i := 19) rfl))) Via.refl e0 F_a0_reciprocal E_a0 (Or.inr ⟨(hw _ (List.mem_of_getElem? (i := 20) rfl)), rfl, hnm⟩) (hw _ (List.mem_of_getElem? (i := 7) rfl)) (ty := .long) (by decide) rfl rfl (g := (mkF m 31 #[.val (.ref a0), .val (.long q1), .second, .val (.int p2)] [(.long y0), (.ref a0)])) rfl rfl (hb hby d2_31)
  have f2 := F_a0_reciprocal.same W1
  have f3 := E_a0.wr W1
  have f4 := F_a0_bits.other W1 (Or.inr (slot_ne (Or.inr (hw _ (List.mem_of_getElem? (i := 15) rfl))) (Or.inr (hw _ (List.mem_of_getElem? (i := 20) rfl))) (by decide) (t := .long) (t' := .long) (by decide) (by decide)))
  have f5 := F_a0_hashes.other W1 (Or.inr (slot_ne (Or.inr (hw _ (List.mem_of_getElem? (i := 17) rfl))) (Or.inr (hw _ (List.mem_of_getElem? (i := 20) rfl))) (by decide) (t := .int) (t' := .long) (by decide) (by decide)))
  have NF1 := Fr.snoc X1 NF0 g_a0
  have SZ1 : n0 ≤ h1.size := (Nat.le_trans SZ0 (Keep.of_wr W1).1)
  have KP1 : Keep h0 h1 [a0] := KP0.wr W1 (Or.inl (List.mem_of_getElem? (i := 0) rfl))
  refine own_pre (F' := T1.setTop (mkF m 34 #[.val (.ref a0), .val (.long q1), .second, .val (.int p2)] [])) (fun t k => st' t k) ?_
  exact own_retV X1 hx Bd.notSynchronized Bd.returns (hb hby d2_34) (by rw [e1]; exact ⟨NF1, KP1, f3, f4, f5, f2⟩) (by decide) (by decide)
def f2_0 (q1 : Int64) (p2 : Int32) (u0_bits : Int64) (u0_hashes : Int32) (u0_reciprocal : Int64) : Int64 × Int32 × Int64 := (if q1 < (4 : Int64) then (f2_31 q1 p2 u0_bits u0_hashes u0_reciprocal (0 : Int64)) else (f2_31 q1 p2 u0_bits u0_hashes u0_reciprocal (f9_0 q1)))
set_option maxRecDepth 65536 in
set_option maxHeartbeats 40000000 in
theorem g2_0 {p : Program} {l : Launch} {e : Env} {s : State} {m : MethodId} {below : List Frame} {meth : Method} {c : Code} {s₁ : State} {ws : List Jvm.Cond} {Z : State} {aw : Array Value} (hw : ∀ d ∈ tables_1, d.before aw Z = true) {h0 : Heap} {n0 : Nat} (q1 : Int64) (p2 : Int32) (u0_bits : Int64) (u0_hashes : Int32) (u0_reciprocal : Int64) (a0 : Addr)
    (Bd : BodyLoose p l (⟨"com/example/probable_set/probableset/sizing/Shape", "<init>", "(JI)V"⟩ : MethodName) (head1 (Jvm.Cond.code (⟨"com/example/probable_set/probableset/sizing/Shape", "<init>", "(JI)V"⟩ : MethodName) prog_20_method_1_code 4 none :: ws) ({ frames := 2, cells := 0, slots := 0, locals := 52 } : Room)) prog_20_method_1_code 4 none e s m #[(.ref a0), (.long q1), (.int p2)] below meth c s₁) (hml : c.maxLocals = 4) (hZ : Z.Warmed39 s.vm) (g_a0 : n0 ≤ a0) (T0 : State) {locs : List Loc} (X0 : Stand p l e ({ frames := 2, cells := 0, slots := 0, locals := 52 } : Room) s m #[(.ref a0), (.long q1), (.int p2)] below meth c T0 locs 0 0) (e0 : T0.heap = h0) (SZ0 : n0 ≤ h0.size) (NF0 : Fr n0 locs) (KP0 : Keep h0 h0 [a0]) (E_a0 : Exa Z h0 a0 "com/example/probable_set/probableset/sizing/Shape") (F_a0_bits : Fld Z h0 a0 "com/example/probable_set/probableset/sizing/Shape" "bits" "J" (.long u0_bits)) (F_a0_hashes : Fld Z h0 a0 "com/example/probable_set/probableset/sizing/Shape" "hashes" "I" (.int u0_hashes)) (F_a0_reciprocal : Fld Z h0 a0 "com/example/probable_set/probableset/sizing/Shape" "reciprocal" "J" (.long u0_reciprocal)) :
    own_Go p e below s ({ frames := 2, cells := 0, slots := 0, locals := 52 } : Room).cells ({ frames := 2, cells := 0, slots := 0, locals := 52 } : Room).slots (R2 (f2_0 q1 p2 u0_bits u0_hashes u0_reciprocal)) (K2 Z a0 h0 n0 (f2_0 q1 p2 u0_bits u0_hashes u0_reciprocal)) (T0.setTop (mkF m 0 #[.val (.ref a0), .val (.long q1), .second, .val (.int p2)] [])) := by
  have hx := Bd.exec
  have hby := Bd.bytes
  have hown : s.vm.findClass "com/example/probable_set/probableset/sizing/Shape" = some m.cls := findClass_of_methodNamed Bd.named
  have hnm := (name_of_methodNamed Bd.named Bd.method).1
  unfold f2_0
  refine own_pre (F' := T0.setTop (mkF m 1 #[.val (.ref a0), .val (.long q1), .second, .val (.int p2)] [(.ref a0)])) (fun _ k => XS.aloadN X0.here hx rfl (hb hby d2_0) rfl rfl k) ?_
  obtain ⟨T1, X1, e1, st'⟩ := initO X0 hx hZ hown (hw _ (List.mem_of_getElem? (i := 11) rfl)) (hw _ (List.mem_of_getElem? (i := 12) rfl)) (hw _ (List.mem_of_getElem? (i := 13) rfl)) e0 (g := (mkF m 1 #[.val (.ref a0), .val (.long q1), .second, .val (.int p2)] [(.ref a0)])) rfl (by rw [hml]; rfl) rfl (hb hby d2_1) (by decide) (W := 0) (by show 2 * 0 + _ ≤ _; exact Nat.le_of_eq rfl) (by decide)
  refine own_pre (F' := T1.setTop (mkF m 4 #[.val (.ref a0), .val (.long q1), .second, .val (.int p2)] [])) (fun t k => st' t k) ?_
  refine own_pre (F' := T1.setTop (mkF m 5 #[.val (.ref a0), .val (.long q1), .second, .val (.int p2)] [(.ref a0)])) (fun _ k => XS.aloadN X1.here hx rfl (hb hby d2_4) rfl rfl k) ?_
  refine own_pre (F' := T1.setTop (mkF m 6 #[.val (.ref a0), .val (.long q1), .second, .val (.int p2)] [(.long q1), (.ref a0)])) (fun _ k => XS.lloadN X1.here hx rfl (hb hby d2_5) rfl k) ?_
  obtain ⟨T2, h2, X2, e2, W2, st'⟩ := putF X1 hx hZ hown (host := "") (Or.inl (hw _ (List.mem_of_getElem? (i := 14) rfl))) Via.refl e1 F_a0_bits E_a0 (Or.inr ⟨(hw _ (List.mem_of_getElem? (i := 15) rfl)), rfl, hnm⟩) (hw _ (List.mem_of_getElem? (i := 7) rfl)) (ty := .long) (by decide) rfl rfl (g := (mkF m 6 #[.val (.ref a0), .val (.long q1), .second, .val (.int p2)] [(.long q1), (.ref a0)])) rfl rfl (hb hby d2_6)
  have f3 := F_a0_bits.same W2
  have f4 := E_a0.wr W2
  have f5 := F_a0_hashes.other W2 (Or.inr (slot_ne (Or.inr (hw _ (List.mem_of_getElem? (i := 17) rfl))) (Or.inr (hw _ (List.mem_of_getElem? (i := 15) rfl))) (by decide) (t := .int) (t' := .long) (by decide) (by decide)))
  have f6 := F_a0_reciprocal.other W2 (Or.inr (slot_ne (Or.inr (hw _ (List.mem_of_getElem? (i := 20) rfl))) (Or.inr (hw _ (List.mem_of_getElem? (i := 15) rfl))) (by decide) (t := .long) (t' := .long) (by decide) (by decide)))
  have NF2 := Fr.snoc X2 NF0 g_a0
  have SZ2 : n0 ≤ h2.size := (Nat.le_trans SZ0 (Keep.of_wr W2).1)
  have KP2 : Keep h0 h2 [a0] := KP0.wr W2 (Or.inl (List.mem_of_getElem? (i := 0) rfl))
  refine own_pre (F' := T2.setTop (mkF m 9 #[.val (.ref a0), .val (.long q1), .second, .val (.int p2)] [])) (fun t k => st' t k) ?_
  refine own_pre (F' := T2.setTop (mkF m 10 #[.val (.ref a0), .val (.long q1), .second, .val (.int p2)] [(.ref a0)])) (fun _ k => XS.aloadN X2.here hx rfl (hb hby d2_9) rfl rfl k) ?_
  refine own_pre (F' := T2.setTop (mkF m 11 #[.val (.ref a0), .val (.long q1), .second, .val (.int p2)] [(.int p2), (.ref a0)])) (fun _ k => XS.iloadN X2.here hx rfl (hb hby d2_10) rfl k) ?_
  obtain ⟨T7, h7, X7, e7, W7, st'⟩ := putF X2 hx hZ hown (host := "") (Or.inl (hw _ (List.mem_of_getElem? (i := 16) rfl))) Via.refl e2 f5 f4 (Or.inr ⟨(hw _ (List.mem_of_getElem? (i := 17) rfl)), rfl, hnm⟩) (hw _ (List.mem_of_getElem? (i := 7) rfl)) (ty := .int) (by decide) rfl rfl (g := (mkF m 11 #[.val (.ref a0), .val (.long q1), .second, .val (.int p2)] [(.int p2), (.ref a0)])) rfl rfl (hb hby d2_11)
  have f8 := f5.same W7
  have f9 := f4.wr W7
  have f10 := f3.other W7 (Or.inr (slot_ne (Or.inr (hw _ (List.mem_of_getElem? (i := 15) rfl))) (Or.inr (hw _ (List.mem_of_getElem? (i := 17) rfl))) (by decide) (t := .long) (t' := .int) (by decide) (by decide)))
  have f11 := f6.other W7 (Or.inr (slot_ne (Or.inr (hw _ (List.mem_of_getElem? (i := 20) rfl))) (Or.inr (hw _ (List.mem_of_getElem? (i := 17) rfl))) (by decide) (t := .long) (t' := .int) (by decide) (by decide)))
  have NF7 := Fr.snoc X7 NF2 g_a0
  have SZ7 : n0 ≤ h7.size := (Nat.le_trans SZ2 (Keep.of_wr W7).1)
  have KP7 : Keep h0 h7 [a0] := KP2.wr W7 (Or.inl (List.mem_of_getElem? (i := 0) rfl))
  refine own_pre (F' := T7.setTop (mkF m 14 #[.val (.ref a0), .val (.long q1), .second, .val (.int p2)] [])) (fun t k => st' t k) ?_
  refine own_pre (F' := T7.setTop (mkF m 15 #[.val (.ref a0), .val (.long q1), .second, .val (.int p2)] [(.ref a0)])) (fun _ k => XS.aloadN X7.here hx rfl (hb hby d2_14) rfl rfl k) ?_
  refine own_pre (F' := T7.setTop (mkF m 16 #[.val (.ref a0), .val (.long q1), .second, .val (.int p2)] [(.long q1), (.ref a0)])) (fun _ k => XS.lloadN X7.here hx rfl (hb hby d2_15) rfl k) ?_
  refine own_pre (F' := T7.setTop (mkF m 19 #[.val (.ref a0), .val (.long q1), .second, .val (.int p2)] [(.long (4 : Int64)), (.long q1), (.ref a0)])) (fun _ k => X7.ldc2Long hx hown (mvT hZ (hw _ (List.mem_of_getElem? (i := 18) rfl))) (g := (mkF m 16 #[.val (.ref a0), .val (.long q1), .second, .val (.int p2)] [(.long q1), (.ref a0)])) rfl (hb hby d2_16) _ k) ?_
  refine own_pre (F' := T7.setTop (mkF m 20 #[.val (.ref a0), .val (.long q1), .second, .val (.int p2)] [(.int (lcmpW q1 (4 : Int64))), (.ref a0)])) (fun _ k => XS.lcmp X7.here hx rfl (hb hby d2_19) rfl k) ?_
  refine own_iteT R2 (K2 Z a0 h0 n0) (fun hc20 => ?_) (fun hc20 => ?_)
  · skip
    refine own_pre (F' := T7.setTop (mkF m 23 #[.val (.ref a0), .val (.long q1), .second, .val (.int p2)] [(.ref a0)])) (fun _ k => XS.ifNo X7.here hx rfl (hb hby d2_20) rfl ((if0 _ _).trans (tlt ((lw_lt _ _).mpr hc20)).2.1) k) ?_
    refine own_pre (F' := T7.setTop (mkF m 24 #[.val (.ref a0), .val (.long q1), .second, .val (.int p2)] [(.long (0 : Int64)), (.ref a0)])) (fun _ k => XS.lconst X7.here hx rfl (hb hby d2_23) k) ?_
    refine own_pre (F' := T7.setTop (mkF m 31 #[.val (.ref a0), .val (.long q1), .second, .val (.int p2)] [(.long (0 : Int64)), (.ref a0)])) (fun _ k => XS.goto X7.here hx rfl (pc0 := 24) (pc' := 31) rfl (hb hby d2_24) (by decide) (by decide) k) ?_
    exact g2_31 hw q1 p2 u0_bits u0_hashes u0_reciprocal a0 (0 : Int64) Bd hml hZ g_a0 T7 X7 e7 SZ7 NF7 KP7 f9 f10 f8 f11
  · skip
    refine own_pre (F' := T7.setTop (mkF m 27 #[.val (.ref a0), .val (.long q1), .second, .val (.int p2)] [(.ref a0)])) (fun _ k => XS.ifYes X7.here hx rfl (pc0 := 20) (pc' := 27) rfl (hb hby d2_20) rfl ((if0 _ _).trans (flt (fun q => hc20 ((lw_lt _ _).mp q))).2.1) (by decide) (by decide) k) ?_
    refine own_pre (F' := T7.setTop (mkF m 28 #[.val (.ref a0), .val (.long q1), .second, .val (.int p2)] [(.long q1), (.ref a0)])) (fun _ k => XS.lloadN X7.here hx rfl (hb hby d2_27) rfl k) ?_
    obtain ⟨_, _, ⟨T12, L12, k12, n12⟩, -, X12', ⟨Lc12, hQ12, l12, y12, z12⟩, st'⟩ := Jvm.LawKit.callS X7 hx (y := (⟨"com/example/probable_set/probableset/sizing/Shape", "reciprocalOf", "(J)J"⟩ : MethodName)) hown (mvT hZ (hw _ (List.mem_of_getElem? (i := 46) rfl))) (mvT hZ (hw _ (List.mem_of_getElem? (i := 47) rfl))) (mvT hZ (hw _ (List.mem_of_getElem? (i := 4) rfl))) (mvT hZ (hw _ (List.mem_of_getElem? (i := 48) rfl))) (by decide) (backOf (W := 1) (rm9 l Z aw hw [] q1 h7 (own_nz4 hc20)) hZ (hw _ (List.mem_of_getElem? (i := 48) rfl)) (hw _ (List.mem_of_getElem? (i := 4) rfl)) (by decide) (by decide)) (g := (mkF m 28 #[.val (.ref a0), .val (.long q1), .second, .val (.int p2)] [(.long q1), (.ref a0)])) rfl (by rw [hml]; rfl) (argsL := [(.long q1)]) (rest := [(.ref a0)]) (lenOf own_pd1 rfl) rfl (by show 2 * 0 + _ ≤ _; exact Nat.le_of_eq rfl) (hb hby d2_28) (fun _ _ => ⟨rfl, e7, (by decide : 0 + 0 ≤ _), (by decide : 0 + 0 ≤ _)⟩)
    dsimp only [Pt.U, Pt.locs, Pt.cells, Pt.slots] at X12' l12 y12 z12 st' hQ12
    subst l12 y12 z12
    obtain ⟨rfl, rfl, e12⟩ := hQ12
    have X12 : Stand p l e ({ frames := 2, cells := 0, slots := 0, locals := 52 } : Room) s m #[(.ref a0), (.long q1), (.int p2)] below meth c T12 _ 0 0 := (List.append_nil _) ▸ X12'
    refine own_pre (F' := T12.setTop (mkF m 31 #[.val (.ref a0), .val (.long q1), .second, .val (.int p2)] [(.long (f9_0 q1)), (.ref a0)])) (fun t k => st' t k) ?_
    exact g2_31 hw q1 p2 u0_bits u0_hashes u0_reciprocal a0 (f9_0 q1) Bd hml hZ g_a0 T12 X12 e12 SZ7 NF7 KP7 f9 f10 f8 f11
theorem ef_2 (m : MethodId) (a0 : Addr) (q1 : Int64) (p2 : Int32) : entryFrame m #[(.ref a0), (.long q1), (.int p2)] 4 = mkF m 0 #[.val (.ref a0), .val (.long q1), .second, .val (.int p2)] [] := by first | (simp [entryFrame, mkF, argsToLocals, Value.category]; done) | rfl
set_option maxRecDepth 65536 in
set_option maxHeartbeats 40000000 in
theorem rm2 (l : Launch) (Z : State) (aw : Array Value) (hw : ∀ d ∈ tables_1, d.before aw Z = true) (ws : List Jvm.Cond) (q1 : Int64) (p2 : Int32) (u0_bits : Int64) (u0_hashes : Int32) (u0_reciprocal : Int64) (a0 : Addr) (h0 : Heap) (n0 : Nat) (SZ0 : n0 ≤ h0.size) (E_a0 : Exa Z h0 a0 "com/example/probable_set/probableset/sizing/Shape") (F_a0_bits : Fld Z h0 a0 "com/example/probable_set/probableset/sizing/Shape" "bits" "J" (.long u0_bits)) (F_a0_hashes : Fld Z h0 a0 "com/example/probable_set/probableset/sizing/Shape" "hashes" "I" (.int u0_hashes)) (F_a0_reciprocal : Fld Z h0 a0 "com/example/probable_set/probableset/sizing/Shape" "reciprocal" "J" (.long u0_reciprocal)) (g_a0 : n0 ≤ a0) :
    MetFree l (⟨"com/example/probable_set/probableset/sizing/Shape", "<init>", "(JI)V"⟩ : MethodName) (head1 (Jvm.Cond.code (⟨"com/example/probable_set/probableset/sizing/Shape", "<init>", "(JI)V"⟩ : MethodName) prog_20_method_1_code 4 none :: ws) ({ frames := 2, cells := 0, slots := 0, locals := 52 } : Room)) (fun a U => a = #[(.ref a0), (.long q1), (.int p2)] ∧ Z.Warmed39 U.vm ∧ U.heap = h0) (fun _ _ _ _ _ => True) (fun _ U o U' => ∃ v L, o = .returned v ∧ own_Q (R2 (f2_0 q1 p2 u0_bits u0_hashes u0_reciprocal)) (K2 Z a0 h0 n0 (f2_0 q1 p2 u0_bits u0_hashes u0_reciprocal)) v U'.heap L ∧ FrameEnd U o U' L ({ frames := 2, cells := 0, slots := 0, locals := 52 } : Room).cells ({ frames := 2, cells := 0, slots := 0, locals := 52 } : Room).slots) := by
  refine MetFree.of_bodySF (plainFor_of_name own_pn2) hisR ?_
  intro p e s m args below meth c s₁ Bd hml0 hP hK
  obtain ⟨rfl, hZ, hh⟩ := hP
  have hml : c.maxLocals = 4 := hml0
  have e0 : s₁.heap = h0 := by rw [← hh, Bd.state]; rfl
  exact own_pre (fun t k => castTop (ef_2 m a0 q1 p2) k) (g2_0 hw q1 p2 u0_bits u0_hashes u0_reciprocal a0 Bd hml hZ g_a0 s₁ (Stand.of_body Bd) e0 SZ0 (Fr.nil n0) (Keep.refl _ _) E_a0 F_a0_bits F_a0_hashes F_a0_reciprocal)
/-! body 4 -/
theorem d4_0 : decode prog_20_method_4_code 0 = .ok (.aload_n 0, 1) := by decide +kernel
theorem d4_1 : decode prog_20_method_4_code 1 = .ok (.getfield 7, 3) := by decide +kernel
theorem d4_4 : decode prog_20_method_4_code 4 = .ok (.lreturn, 1) := by decide +kernel
def R4 (t : Int64) : Option Value := some (.long t)
def K4 (Z : State) (a0 : Addr) (h0 : Heap) (n0 : Nat) (t : Int64) (h : Heap) (L : List Loc) : Prop := Fr n0 L ∧ Keep h0 h []
def f4_0 (u0_bits : Int64) (u0_hashes : Int32) (u0_reciprocal : Int64) : Int64 := u0_bits
set_option maxRecDepth 65536 in
set_option maxHeartbeats 40000000 in
theorem g4_0 {p : Program} {l : Launch} {e : Env} {s : State} {m : MethodId} {below : List Frame} {meth : Method} {c : Code} {s₁ : State} {ws : List Jvm.Cond} {Z : State} {aw : Array Value} (hw : ∀ d ∈ tables_1, d.before aw Z = true) {h0 : Heap} {n0 : Nat} (u0_bits : Int64) (u0_hashes : Int32) (u0_reciprocal : Int64) (a0 : Addr)
    (Bd : BodyLoose p l (⟨"com/example/probable_set/probableset/sizing/Shape", "bits", "()J"⟩ : MethodName) (head1 (Jvm.Cond.code (⟨"com/example/probable_set/probableset/sizing/Shape", "bits", "()J"⟩ : MethodName) prog_20_method_4_code 1 (some .long) :: ws) ({ frames := 0, cells := 0, slots := 0, locals := 0 } : Room)) prog_20_method_4_code 1 (some .long) e s m #[(.ref a0)] below meth c s₁) (hml : c.maxLocals = 1) (hZ : Z.Warmed39 s.vm) (T0 : State) {locs : List Loc} (X0 : Stand p l e ({ frames := 0, cells := 0, slots := 0, locals := 0 } : Room) s m #[(.ref a0)] below meth c T0 locs 0 0) (e0 : T0.heap = h0) (SZ0 : n0 ≤ h0.size) (NF0 : Fr n0 locs) (KP0 : Keep h0 h0 []) (E_a0 : Exa Z h0 a0 "com/example/probable_set/probableset/sizing/Shape") (F_a0_bits : Fld Z h0 a0 "com/example/probable_set/probableset/sizing/Shape" "bits" "J" (.long u0_bits)) (F_a0_hashes : Fld Z h0 a0 "com/example/probable_set/probableset/sizing/Shape" "hashes" "I" (.int u0_hashes)) (F_a0_reciprocal : Fld Z h0 a0 "com/example/probable_set/probableset/sizing/Shape" "reciprocal" "J" (.long u0_reciprocal)) :
    own_Go p e below s ({ frames := 0, cells := 0, slots := 0, locals := 0 } : Room).cells ({ frames := 0, cells := 0, slots := 0, locals := 0 } : Room).slots (R4 (f4_0 u0_bits u0_hashes u0_reciprocal)) (K4 Z a0 h0 n0 (f4_0 u0_bits u0_hashes u0_reciprocal)) (T0.setTop (mkF m 0 #[.val (.ref a0)] [])) := by
  have hx := Bd.exec
  have hby := Bd.bytes
  have hown : s.vm.findClass "com/example/probable_set/probableset/sizing/Shape" = some m.cls := findClass_of_methodNamed Bd.named
  have hnm := (name_of_methodNamed Bd.named Bd.method).1
  unfold f4_0
  refine own_pre (F' := T0.setTop (mkF m 1 #[.val (.ref a0)] [(.ref a0)])) (fun _ k => XS.aloadN X0.here hx rfl (hb hby d4_0) rfl rfl k) ?_
  obtain ⟨T1, X1, e1, st'⟩ := getF X0 hx hZ hown (host := "") (Or.inl (hw _ (List.mem_of_getElem? (i := 14) rfl))) Via.refl e0 F_a0_bits (g := (mkF m 1 #[.val (.ref a0)] [(.ref a0)])) rfl rfl (hb hby d4_1)
  refine own_pre (F' := T1.setTop (mkF m 4 #[.val (.ref a0)] [(.long u0_bits)])) (fun t k => st' t k) ?_
  exact own_ret X1 hx Bd.notSynchronized Bd.returns rfl (Or.inr (Or.inl ⟨rfl, rfl, _, rfl⟩)) (hb hby d4_4) (by rw [e1]; exact ⟨NF0, KP0⟩) (by decide) (by decide)
theorem ef_4 (m : MethodId) (a0 : Addr) : entryFrame m #[(.ref a0)] 1 = mkF m 0 #[.val (.ref a0)] [] := by first | (simp [entryFrame, mkF, argsToLocals, Value.category]; done) | rfl
set_option maxRecDepth 65536 in
set_option maxHeartbeats 40000000 in
theorem rm4 (l : Launch) (Z : State) (aw : Array Value) (hw : ∀ d ∈ tables_1, d.before aw Z = true) (ws : List Jvm.Cond) (u0_bits : Int64) (u0_hashes : Int32) (u0_reciprocal : Int64) (a0 : Addr) (h0 : Heap) (n0 : Nat) (SZ0 : n0 ≤ h0.size) (E_a0 : Exa Z h0 a0 "com/example/probable_set/probableset/sizing/Shape") (F_a0_bits : Fld Z h0 a0 "com/example/probable_set/probableset/sizing/Shape" "bits" "J" (.long u0_bits)) (F_a0_hashes : Fld Z h0 a0 "com/example/probable_set/probableset/sizing/Shape" "hashes" "I" (.int u0_hashes)) (F_a0_reciprocal : Fld Z h0 a0 "com/example/probable_set/probableset/sizing/Shape" "reciprocal" "J" (.long u0_reciprocal)) :
    MetFree l (⟨"com/example/probable_set/probableset/sizing/Shape", "bits", "()J"⟩ : MethodName) (head1 (Jvm.Cond.code (⟨"com/example/probable_set/probableset/sizing/Shape", "bits", "()J"⟩ : MethodName) prog_20_method_4_code 1 (some .long) :: ws) ({ frames := 0, cells := 0, slots := 0, locals := 0 } : Room)) (fun a U => a = #[(.ref a0)] ∧ Z.Warmed39 U.vm ∧ U.heap = h0) (fun _ _ _ _ _ => True) (fun _ U o U' => ∃ v L, o = .returned v ∧ own_Q (R4 (f4_0 u0_bits u0_hashes u0_reciprocal)) (K4 Z a0 h0 n0 (f4_0 u0_bits u0_hashes u0_reciprocal)) v U'.heap L ∧ FrameEnd U o U' L ({ frames := 0, cells := 0, slots := 0, locals := 0 } : Room).cells ({ frames := 0, cells := 0, slots := 0, locals := 0 } : Room).slots) := by
  refine MetFree.of_bodySF (plainFor_of_name own_pn2) hisR ?_
  intro p e s m args below meth c s₁ Bd hml0 hP hK
  obtain ⟨rfl, hZ, hh⟩ := hP
  have hml : c.maxLocals = 1 := hml0
  have e0 : s₁.heap = h0 := by rw [← hh, Bd.state]; rfl
  exact own_pre (fun t k => castTop (ef_4 m a0) k) (g4_0 hw u0_bits u0_hashes u0_reciprocal a0 Bd hml hZ s₁ (Stand.of_body Bd) e0 SZ0 (Fr.nil n0) (Keep.refl _ _) E_a0 F_a0_bits F_a0_hashes F_a0_reciprocal)
/-! body 5 -/
theorem d5_0 : decode prog_20_method_5_code 0 = .ok (.aload_n 0, 1) := by decide +kernel
theorem d5_1 : decode prog_20_method_5_code 1 = .ok (.getfield 13, 3) := by decide +kernel
theorem d5_4 : decode prog_20_method_5_code 4 = .ok (.ireturn, 1) := by decide +kernel
def R5 (t : Int32) : Option Value := some (.int t)
def K5 (Z : State) (a0 : Addr) (h0 : Heap) (n0 : Nat) (t : Int32) (h : Heap) (L : List Loc) : Prop := Fr n0 L ∧ Keep h0 h []
def f5_0 (u0_bits : Int64) (u0_hashes : Int32) (u0_reciprocal : Int64) : Int32 := u0_hashes
set_option maxRecDepth 65536 in
set_option maxHeartbeats 40000000 in
theorem g5_0 {p : Program} {l : Launch} {e : Env} {s : State} {m : MethodId} {below : List Frame} {meth : Method} {c : Code} {s₁ : State} {ws : List Jvm.Cond} {Z : State} {aw : Array Value} (hw : ∀ d ∈ tables_1, d.before aw Z = true) {h0 : Heap} {n0 : Nat} (u0_bits : Int64) (u0_hashes : Int32) (u0_reciprocal : Int64) (a0 : Addr)
    (Bd : BodyLoose p l (⟨"com/example/probable_set/probableset/sizing/Shape", "hashes", "()I"⟩ : MethodName) (head1 (Jvm.Cond.code (⟨"com/example/probable_set/probableset/sizing/Shape", "hashes", "()I"⟩ : MethodName) prog_20_method_5_code 1 (some .int) :: ws) ({ frames := 0, cells := 0, slots := 0, locals := 0 } : Room)) prog_20_method_5_code 1 (some .int) e s m #[(.ref a0)] below meth c s₁) (hml : c.maxLocals = 1) (hZ : Z.Warmed39 s.vm) (T0 : State) {locs : List Loc} (X0 : Stand p l e ({ frames := 0, cells := 0, slots := 0, locals := 0 } : Room) s m #[(.ref a0)] below meth c T0 locs 0 0) (e0 : T0.heap = h0) (SZ0 : n0 ≤ h0.size) (NF0 : Fr n0 locs) (KP0 : Keep h0 h0 []) (E_a0 : Exa Z h0 a0 "com/example/probable_set/probableset/sizing/Shape") (F_a0_bits : Fld Z h0 a0 "com/example/probable_set/probableset/sizing/Shape" "bits" "J" (.long u0_bits)) (F_a0_hashes : Fld Z h0 a0 "com/example/probable_set/probableset/sizing/Shape" "hashes" "I" (.int u0_hashes)) (F_a0_reciprocal : Fld Z h0 a0 "com/example/probable_set/probableset/sizing/Shape" "reciprocal" "J" (.long u0_reciprocal)) :
    own_Go p e below s ({ frames := 0, cells := 0, slots := 0, locals := 0 } : Room).cells ({ frames := 0, cells := 0, slots := 0, locals := 0 } : Room).slots (R5 (f5_0 u0_bits u0_hashes u0_reciprocal)) (K5 Z a0 h0 n0 (f5_0 u0_bits u0_hashes u0_reciprocal)) (T0.setTop (mkF m 0 #[.val (.ref a0)] [])) := by
  have hx := Bd.exec
  have hby := Bd.bytes
  have hown : s.vm.findClass "com/example/probable_set/probableset/sizing/Shape" = some m.cls := findClass_of_methodNamed Bd.named
  have hnm := (name_of_methodNamed Bd.named Bd.method).1
  unfold f5_0
  refine own_pre (F' := T0.setTop (mkF m 1 #[.val (.ref a0)] [(.ref a0)])) (fun _ k => XS.aloadN X0.here hx rfl (hb hby d5_0) rfl rfl k) ?_
  obtain ⟨T1, X1, e1, st'⟩ := getF X0 hx hZ hown (host := "") (Or.inl (hw _ (List.mem_of_getElem? (i := 16) rfl))) Via.refl e0 F_a0_hashes (g := (mkF m 1 #[.val (.ref a0)] [(.ref a0)])) rfl rfl (hb hby d5_1)
  refine own_pre (F' := T1.setTop (mkF m 4 #[.val (.ref a0)] [(.int u0_hashes)])) (fun t k => st' t k) ?_
  exact own_ret X1 hx Bd.notSynchronized Bd.returns rfl (Or.inl ⟨rfl, by simp, _, rfl⟩) (hb hby d5_4) (by rw [e1]; exact ⟨NF0, KP0⟩) (by decide) (by decide)
theorem ef_5 (m : MethodId) (a0 : Addr) : entryFrame m #[(.ref a0)] 1 = mkF m 0 #[.val (.ref a0)] [] := by first | (simp [entryFrame, mkF, argsToLocals, Value.category]; done) | rfl
set_option maxRecDepth 65536 in
set_option maxHeartbeats 40000000 in
theorem rm5 (l : Launch) (Z : State) (aw : Array Value) (hw : ∀ d ∈ tables_1, d.before aw Z = true) (ws : List Jvm.Cond) (u0_bits : Int64) (u0_hashes : Int32) (u0_reciprocal : Int64) (a0 : Addr) (h0 : Heap) (n0 : Nat) (SZ0 : n0 ≤ h0.size) (E_a0 : Exa Z h0 a0 "com/example/probable_set/probableset/sizing/Shape") (F_a0_bits : Fld Z h0 a0 "com/example/probable_set/probableset/sizing/Shape" "bits" "J" (.long u0_bits)) (F_a0_hashes : Fld Z h0 a0 "com/example/probable_set/probableset/sizing/Shape" "hashes" "I" (.int u0_hashes)) (F_a0_reciprocal : Fld Z h0 a0 "com/example/probable_set/probableset/sizing/Shape" "reciprocal" "J" (.long u0_reciprocal)) :
    MetFree l (⟨"com/example/probable_set/probableset/sizing/Shape", "hashes", "()I"⟩ : MethodName) (head1 (Jvm.Cond.code (⟨"com/example/probable_set/probableset/sizing/Shape", "hashes", "()I"⟩ : MethodName) prog_20_method_5_code 1 (some .int) :: ws) ({ frames := 0, cells := 0, slots := 0, locals := 0 } : Room)) (fun a U => a = #[(.ref a0)] ∧ Z.Warmed39 U.vm ∧ U.heap = h0) (fun _ _ _ _ _ => True) (fun _ U o U' => ∃ v L, o = .returned v ∧ own_Q (R5 (f5_0 u0_bits u0_hashes u0_reciprocal)) (K5 Z a0 h0 n0 (f5_0 u0_bits u0_hashes u0_reciprocal)) v U'.heap L ∧ FrameEnd U o U' L ({ frames := 0, cells := 0, slots := 0, locals := 0 } : Room).cells ({ frames := 0, cells := 0, slots := 0, locals := 0 } : Room).slots) := by
  refine MetFree.of_bodySF (plainFor_of_name own_pn2) hisR ?_
  intro p e s m args below meth c s₁ Bd hml0 hP hK
  obtain ⟨rfl, hZ, hh⟩ := hP
  have hml : c.maxLocals = 1 := hml0
  have e0 : s₁.heap = h0 := by rw [← hh, Bd.state]; rfl
  exact own_pre (fun t k => castTop (ef_5 m a0) k) (g5_0 hw u0_bits u0_hashes u0_reciprocal a0 Bd hml hZ s₁ (Stand.of_body Bd) e0 SZ0 (Fr.nil n0) (Keep.refl _ _) E_a0 F_a0_bits F_a0_hashes F_a0_reciprocal)
/-! body 6 -/
theorem d6_0 : decode prog_20_method_6_code 0 = .ok (.aload_n 0, 1) := by decide +kernel
theorem d6_1 : decode prog_20_method_6_code 1 = .ok (.getfield 7, 3) := by decide +kernel
theorem d6_4 : decode prog_20_method_6_code 4 = .ok (.ldc2_w 17, 3) := by decide +kernel
theorem d6_7 : decode prog_20_method_6_code 7 = .ok (.lcmp, 1) := by decide +kernel
theorem d6_8 : decode prog_20_method_6_code 8 = .ok (.ifCond .ge 15, 3) := by decide +kernel
theorem d6_11 : decode prog_20_method_6_code 11 = .ok (.lload_n 1, 1) := by decide +kernel
theorem d6_12 : decode prog_20_method_6_code 12 = .ok (.aload_n 0, 1) := by decide +kernel
theorem d6_13 : decode prog_20_method_6_code 13 = .ok (.getfield 7, 3) := by decide +kernel
theorem d6_16 : decode prog_20_method_6_code 16 = .ok (.invokestatic 73, 3) := by decide +kernel
theorem d6_19 : decode prog_20_method_6_code 19 = .ok (.lstore_n 3, 1) := by decide +kernel
theorem d6_20 : decode prog_20_method_6_code 20 = .ok (.goto 45, 3) := by decide +kernel
theorem d6_23 : decode prog_20_method_6_code 23 = .ok (.lload_n 1, 1) := by decide +kernel
theorem d6_24 : decode prog_20_method_6_code 24 = .ok (.iconst 1, 1) := by decide +kernel
theorem d6_25 : decode prog_20_method_6_code 25 = .ok (.lushr, 1) := by decide +kernel
theorem d6_26 : decode prog_20_method_6_code 26 = .ok (.aload_n 0, 1) := by decide +kernel
theorem d6_27 : decode prog_20_method_6_code 27 = .ok (.getfield 23, 3) := by decide +kernel
theorem d6_30 : decode prog_20_method_6_code 30 = .ok (.invokestatic 78, 3) := by decide +kernel
theorem d6_33 : decode prog_20_method_6_code 33 = .ok (.lstore 5, 2) := by decide +kernel
theorem d6_35 : decode prog_20_method_6_code 35 = .ok (.lload_n 1, 1) := by decide +kernel
theorem d6_36 : decode prog_20_method_6_code 36 = .ok (.lload 5, 2) := by decide +kernel
theorem d6_38 : decode prog_20_method_6_code 38 = .ok (.aload_n 0, 1) := by decide +kernel
theorem d6_39 : decode prog_20_method_6_code 39 = .ok (.getfield 7, 3) := by decide +kernel
theorem d6_42 : decode prog_20_method_6_code 42 = .ok (.lmul, 1) := by decide +kernel
theorem d6_43 : decode prog_20_method_6_code 43 = .ok (.lsub, 1) := by decide +kernel
theorem d6_44 : decode prog_20_method_6_code 44 = .ok (.aload_n 0, 1) := by decide +kernel
theorem d6_45 : decode prog_20_method_6_code 45 = .ok (.getfield 7, 3) := by decide +kernel
theorem d6_48 : decode prog_20_method_6_code 48 = .ok (.lsub, 1) := by decide +kernel
theorem d6_49 : decode prog_20_method_6_code 49 = .ok (.lstore 7, 2) := by decide +kernel
theorem d6_51 : decode prog_20_method_6_code 51 = .ok (.lload 7, 2) := by decide +kernel
theorem d6_53 : decode prog_20_method_6_code 53 = .ok (.aload_n 0, 1) := by decide +kernel
theorem d6_54 : decode prog_20_method_6_code 54 = .ok (.getfield 7, 3) := by decide +kernel
theorem d6_57 : decode prog_20_method_6_code 57 = .ok (.lload 7, 2) := by decide +kernel
theorem d6_59 : decode prog_20_method_6_code 59 = .ok (.bipush 63, 2) := by decide +kernel
theorem d6_61 : decode prog_20_method_6_code 61 = .ok (.lshr, 1) := by decide +kernel
theorem d6_62 : decode prog_20_method_6_code 62 = .ok (.land, 1) := by decide +kernel
theorem d6_63 : decode prog_20_method_6_code 63 = .ok (.ladd, 1) := by decide +kernel
theorem d6_64 : decode prog_20_method_6_code 64 = .ok (.lstore_n 3, 1) := by decide +kernel
theorem d6_65 : decode prog_20_method_6_code 65 = .ok (.lload_n 3, 1) := by decide +kernel
theorem d6_66 : decode prog_20_method_6_code 66 = .ok (.lreturn, 1) := by decide +kernel
def R6 (t : Int64) : Option Value := some (.long t)
def K6 (Z : State) (a0 : Addr) (h0 : Heap) (n0 : Nat) (t : Int64) (h : Heap) (L : List Loc) : Prop := Fr n0 L ∧ Keep h0 h []
def f6_65b (q1 : Int64) (u0_bits : Int64) (u0_hashes : Int32) (u0_reciprocal : Int64) (x3 : Int64) : Int64 := x3
set_option maxRecDepth 65536 in
set_option maxHeartbeats 40000000 in
theorem g6_65b {p : Program} {l : Launch} {e : Env} {s : State} {m : MethodId} {below : List Frame} {meth : Method} {c : Code} {s₁ : State} {ws : List Jvm.Cond} {Z : State} {aw : Array Value} (hw : ∀ d ∈ tables_1, d.before aw Z = true) {h0 : Heap} {n0 : Nat} (q1 : Int64) (u0_bits : Int64) (u0_hashes : Int32) (u0_reciprocal : Int64) (a0 : Addr) (H : ¬ (u0_bits = (0 : Int64))) (x3 : Int64)
    (Bd : BodyLoose p l (⟨"com/example/probable_set/probableset/sizing/Shape", "reduce", "(J)J"⟩ : MethodName) (head1 (Jvm.Cond.code (⟨"com/example/probable_set/probableset/sizing/Shape", "reduce", "(J)J"⟩ : MethodName) prog_20_method_6_code 9 (some .long) :: ws) ({ frames := 1, cells := 0, slots := 0, locals := 39 } : Room)) prog_20_method_6_code 9 (some .long) e s m #[(.ref a0), (.long q1)] below meth c s₁) (hml : c.maxLocals = 9) (hZ : Z.Warmed39 s.vm) (T0 : State) {locs : List Loc} (X0 : Stand p l e ({ frames := 1, cells := 0, slots := 0, locals := 39 } : Room) s m #[(.ref a0), (.long q1)] below meth c T0 locs 0 0) {h : Heap} (e0 : T0.heap = h) (SZ0 : n0 ≤ h.size) (NF0 : Fr n0 locs) (KP0 : Keep h0 h []) (E_a0 : Exa Z h a0 "com/example/probable_set/probableset/sizing/Shape") (F_a0_bits : Fld Z h a0 "com/example/probable_set/probableset/sizing/Shape" "bits" "J" (.long u0_bits)) (F_a0_hashes : Fld Z h a0 "com/example/probable_set/probableset/sizing/Shape" "hashes" "I" (.int u0_hashes)) (F_a0_reciprocal : Fld Z h a0 "com/example/probable_set/probableset/sizing/Shape" "reciprocal" "J" (.long u0_reciprocal)) :
    own_Go p e below s ({ frames := 1, cells := 0, slots := 0, locals := 39 } : Room).cells ({ frames := 1, cells := 0, slots := 0, locals := 39 } : Room).slots (R6 (f6_65b q1 u0_bits u0_hashes u0_reciprocal x3)) (K6 Z a0 h0 n0 (f6_65b q1 u0_bits u0_hashes u0_reciprocal x3)) (T0.setTop (mkF m 65 #[.val (.ref a0), .val (.long q1), .second, .val (.long x3), .second, .unset, .unset, .unset, .unset] [])) := by
  have hx := Bd.exec
  have hby := Bd.bytes
  have hown : s.vm.findClass "com/example/probable_set/probableset/sizing/Shape" = some m.cls := findClass_of_methodNamed Bd.named
  have hnm := (name_of_methodNamed Bd.named Bd.method).1
  unfold f6_65b
  refine own_pre (F' := T0.setTop (mkF m 66 #[.val (.ref a0), .val (.long q1), .second, .val (.long x3), .second, .unset, .unset, .unset, .unset] [(.long x3)])) (fun _ k => XS.lloadN X0.here hx rfl (hb hby d6_65) rfl k) ?_
  exact own_ret X0 hx Bd.notSynchronized Bd.returns rfl (Or.inr (Or.inl ⟨rfl, rfl, _, rfl⟩)) (hb hby d6_66) (by rw [e0]; exact ⟨NF0, KP0⟩) (by decide) (by decide)
def f6_65a (q1 : Int64) (u0_bits : Int64) (u0_hashes : Int32) (u0_reciprocal : Int64) (x3 : Int64) : Int64 := x3
set_option maxRecDepth 65536 in
set_option maxHeartbeats 40000000 in
theorem g6_65a {p : Program} {l : Launch} {e : Env} {s : State} {m : MethodId} {below : List Frame} {meth : Method} {c : Code} {s₁ : State} {ws : List Jvm.Cond} {Z : State} {aw : Array Value} (hw : ∀ d ∈ tables_1, d.before aw Z = true) {h0 : Heap} {n0 : Nat} (q1 : Int64) (u0_bits : Int64) (u0_hashes : Int32) (u0_reciprocal : Int64) (a0 : Addr) (H : ¬ (u0_bits = (0 : Int64))) (x3 : Int64) (x5 : Int64) (x7 : Int64)
    (Bd : BodyLoose p l (⟨"com/example/probable_set/probableset/sizing/Shape", "reduce", "(J)J"⟩ : MethodName) (head1 (Jvm.Cond.code (⟨"com/example/probable_set/probableset/sizing/Shape", "reduce", "(J)J"⟩ : MethodName) prog_20_method_6_code 9 (some .long) :: ws) ({ frames := 1, cells := 0, slots := 0, locals := 39 } : Room)) prog_20_method_6_code 9 (some .long) e s m #[(.ref a0), (.long q1)] below meth c s₁) (hml : c.maxLocals = 9) (hZ : Z.Warmed39 s.vm) (T0 : State) {locs : List Loc} (X0 : Stand p l e ({ frames := 1, cells := 0, slots := 0, locals := 39 } : Room) s m #[(.ref a0), (.long q1)] below meth c T0 locs 0 0) {h : Heap} (e0 : T0.heap = h) (SZ0 : n0 ≤ h.size) (NF0 : Fr n0 locs) (KP0 : Keep h0 h []) (E_a0 : Exa Z h a0 "com/example/probable_set/probableset/sizing/Shape") (F_a0_bits : Fld Z h a0 "com/example/probable_set/probableset/sizing/Shape" "bits" "J" (.long u0_bits)) (F_a0_hashes : Fld Z h a0 "com/example/probable_set/probableset/sizing/Shape" "hashes" "I" (.int u0_hashes)) (F_a0_reciprocal : Fld Z h a0 "com/example/probable_set/probableset/sizing/Shape" "reciprocal" "J" (.long u0_reciprocal)) :
    own_Go p e below s ({ frames := 1, cells := 0, slots := 0, locals := 39 } : Room).cells ({ frames := 1, cells := 0, slots := 0, locals := 39 } : Room).slots (R6 (f6_65a q1 u0_bits u0_hashes u0_reciprocal x3)) (K6 Z a0 h0 n0 (f6_65a q1 u0_bits u0_hashes u0_reciprocal x3)) (T0.setTop (mkF m 65 #[.val (.ref a0), .val (.long q1), .second, .val (.long x3), .second, .val (.long x5), .second, .val (.long x7), .second] [])) := by
  have hx := Bd.exec
  have hby := Bd.bytes
  have hown : s.vm.findClass "com/example/probable_set/probableset/sizing/Shape" = some m.cls := findClass_of_methodNamed Bd.named
  have hnm := (name_of_methodNamed Bd.named Bd.method).1
  unfold f6_65a
  refine own_pre (F' := T0.setTop (mkF m 66 #[.val (.ref a0), .val (.long q1), .second, .val (.long x3), .second, .val (.long x5), .second, .val (.long x7), .second] [(.long x3)])) (fun _ k => XS.lloadN X0.here hx rfl (hb hby d6_65) rfl k) ?_
  exact own_ret X0 hx Bd.notSynchronized Bd.returns rfl (Or.inr (Or.inl ⟨rfl, rfl, _, rfl⟩)) (hb hby d6_66) (by rw [e0]; exact ⟨NF0, KP0⟩) (by decide) (by decide)
def f6_51 (q1 : Int64) (u0_bits : Int64) (u0_hashes : Int32) (u0_reciprocal : Int64) (x7 : Int64) : Int64 := (f6_65a q1 u0_bits u0_hashes u0_reciprocal (x7 + (u0_bits &&& (x7 >>> ((63 : Int32) &&& 0x3f).toInt64))))
set_option maxRecDepth 65536 in
set_option maxHeartbeats 40000000 in
theorem g6_51 {p : Program} {l : Launch} {e : Env} {s : State} {m : MethodId} {below : List Frame} {meth : Method} {c : Code} {s₁ : State} {ws : List Jvm.Cond} {Z : State} {aw : Array Value} (hw : ∀ d ∈ tables_1, d.before aw Z = true) {h0 : Heap} {n0 : Nat} (q1 : Int64) (u0_bits : Int64) (u0_hashes : Int32) (u0_reciprocal : Int64) (a0 : Addr) (H : ¬ (u0_bits = (0 : Int64))) (x5 : Int64) (x7 : Int64)
    (Bd : BodyLoose p l (⟨"com/example/probable_set/probableset/sizing/Shape", "reduce", "(J)J"⟩ : MethodName) (head1 (Jvm.Cond.code (⟨"com/example/probable_set/probableset/sizing/Shape", "reduce", "(J)J"⟩ : MethodName) prog_20_method_6_code 9 (some .long) :: ws) ({ frames := 1, cells := 0, slots := 0, locals := 39 } : Room)) prog_20_method_6_code 9 (some .long) e s m #[(.ref a0), (.long q1)] below meth c s₁) (hml : c.maxLocals = 9) (hZ : Z.Warmed39 s.vm) (T0 : State) {locs : List Loc} (X0 : Stand p l e ({ frames := 1, cells := 0, slots := 0, locals := 39 } : Room) s m #[(.ref a0), (.long q1)] below meth c T0 locs 0 0) {h : Heap} (e0 : T0.heap = h) (SZ0 : n0 ≤ h.size) (NF0 : Fr n0 locs) (KP0 : Keep h0 h []) (E_a0 : Exa Z h a0 "com/example/probable_set/probableset/sizing/Shape") (F_a0_bits : Fld Z h a0 "com/example/probable_set/probableset/sizing/Shape" "bits" "J" (.long u0_bits)) (F_a0_hashes : Fld Z h a0 "com/example/probable_set/probableset/sizing/Shape" "hashes" "I" (.int u0_hashes)) (F_a0_reciprocal : Fld Z h a0 "com/example/probable_set/probableset/sizing/Shape" "reciprocal" "J" (.long u0_reciprocal)) :
    own_Go p e below s ({ frames := 1, cells := 0, slots := 0, locals := 39 } : Room).cells ({ frames := 1, cells := 0, slots := 0, locals := 39 } : Room).slots (R6 (f6_51 q1 u0_bits u0_hashes u0_reciprocal x7)) (K6 Z a0 h0 n0 (f6_51 q1 u0_bits u0_hashes u0_reciprocal x7)) (T0.setTop (mkF m 51 #[.val (.ref a0), .val (.long q1), .second, .unset, .unset, .val (.long x5), .second, .val (.long x7), .second] [])) := by
  have hx := Bd.exec
  have hby := Bd.bytes
  have hown : s.vm.findClass "com/example/probable_set/probableset/sizing/Shape" = some m.cls := findClass_of_methodNamed Bd.named
  have hnm := (name_of_methodNamed Bd.named Bd.method).1
  unfold f6_51
  refine own_pre (F' := T0.setTop (mkF m 53 #[.val (.ref a0), .val (.long q1), .second, .unset, .unset, .val (.long x5), .second, .val (.long x7), .second] [(.long x7)])) (fun _ k => XS.lload X0.here hx rfl (hb hby d6_51) rfl k) ?_
  refine own_pre (F' := T0.setTop (mkF m 54 #[.val (.ref a0), .val (.long q1), .second, .unset, .unset, .val (.long x5), .second, .val (.long x7), .second] [(.ref a0), (.long x7)])) (fun _ k => XS.aloadN X0.here hx rfl (hb hby d6_53) rfl rfl k) ?_
  obtain ⟨T1, X1, e1, st'⟩ := getF X0 hx hZ hown (host := "") (Or.inl (hw _ (List.mem_of_getElem? (i := 14) rfl))) Via.refl e0 F_a0_bits (g := (mkF m 54 #[.val (.ref a0), .val (.long q1), .second, .unset, .unset, .val (.long x5), .second, .val (.long x7), .second] [(.ref a0), (.long x7)])) rfl rfl (hb hby d6_54)
  refine own_pre (F' := T1.setTop (mkF m 57 #[.val (.ref a0), .val (.long q1), .second, .unset, .unset, .val (.long x5), .second, .val (.long x7), .second] [(.long u0_bits), (.long x7)])) (fun t k => st' t k) ?_
  refine own_pre (F' := T1.setTop (mkF m 59 #[.val (.ref a0), .val (.long q1), .second, .unset, .unset, .val (.long x5), .second, .val (.long x7), .second] [(.long x7), (.long u0_bits), (.long x7)])) (fun _ k => XS.lload X1.here hx rfl (hb hby d6_57) rfl k) ?_
  refine own_pre (F' := T1.setTop (mkF m 61 #[.val (.ref a0), .val (.long q1), .second, .unset, .unset, .val (.long x5), .second, .val (.long x7), .second] [(.int (63 : Int32)), (.long x7), (.long u0_bits), (.long x7)])) (fun _ k => XS.bipush X1.here hx rfl (hb hby d6_59) k) ?_
  refine own_pre (F' := T1.setTop (mkF m 62 #[.val (.ref a0), .val (.long q1), .second, .unset, .unset, .val (.long x5), .second, .val (.long x7), .second] [(.long (x7 >>> ((63 : Int32) &&& 0x3f).toInt64)), (.long u0_bits), (.long x7)])) (fun _ k => XS.lshr X1.here hx rfl (hb hby d6_61) rfl k) ?_
  refine own_pre (F' := T1.setTop (mkF m 63 #[.val (.ref a0), .val (.long q1), .second, .unset, .unset, .val (.long x5), .second, .val (.long x7), .second] [(.long (u0_bits &&& (x7 >>> ((63 : Int32) &&& 0x3f).toInt64))), (.long x7)])) (fun _ k => XS.land X1.here hx rfl (hb hby d6_62) rfl k) ?_
  refine own_pre (F' := T1.setTop (mkF m 64 #[.val (.ref a0), .val (.long q1), .second, .unset, .unset, .val (.long x5), .second, .val (.long x7), .second] [(.long (x7 + (u0_bits &&& (x7 >>> ((63 : Int32) &&& 0x3f).toInt64))))])) (fun _ k => XS.ladd X1.here hx rfl (hb hby d6_63) rfl k) ?_
  refine own_pre (F' := T1.setTop (mkF m 65 #[.val (.ref a0), .val (.long q1), .second, .val (.long (x7 + (u0_bits &&& (x7 >>> ((63 : Int32) &&& 0x3f).toInt64)))), .second, .val (.long x5), .second, .val (.long x7), .second] [])) (fun _ k => XS.lstoreN X1.here hx rfl (hb hby d6_64) rfl (l' := #[.val (.ref a0), .val (.long q1), .second, .val (.long (x7 + (u0_bits &&& (x7 >>> ((63 : Int32) &&& 0x3f).toInt64)))), .second, .val (.long x5), .second, .val (.long x7), .second]) rfl k) ?_
  exact g6_65a hw q1 u0_bits u0_hashes u0_reciprocal a0 H (x7 + (u0_bits &&& (x7 >>> ((63 : Int32) &&& 0x3f).toInt64))) x5 x7 Bd hml hZ T1 X1 e1 SZ0 NF0 KP0 E_a0 F_a0_bits F_a0_hashes F_a0_reciprocal
def f6_35 (q1 : Int64) (u0_bits : Int64) (u0_hashes : Int32) (u0_reciprocal : Int64) (x5 : Int64) : Int64 := (f6_51 q1 u0_bits u0_hashes u0_reciprocal ((q1 - (x5 * u0_bits)) - u0_bits))
set_option maxRecDepth 65536 in
set_option maxHeartbeats 40000000 in
theorem g6_35 {p : Program} {l : Launch} {e : Env} {s : State} {m : MethodId} {below : List Frame} {meth : Method} {c : Code} {s₁ : State} {ws : List Jvm.Cond} {Z : State} {aw : Array Value} (hw : ∀ d ∈ tables_1, d.before aw Z = true) {h0 : Heap} {n0 : Nat} (q1 : Int64) (u0_bits : Int64) (u0_hashes : Int32) (u0_reciprocal : Int64) (a0 : Addr) (H : ¬ (u0_bits = (0 : Int64))) (x5 : Int64)
    (Bd : BodyLoose p l (⟨"com/example/probable_set/probableset/sizing/Shape", "reduce", "(J)J"⟩ : MethodName) (head1 (Jvm.Cond.code (⟨"com/example/probable_set/probableset/sizing/Shape", "reduce", "(J)J"⟩ : MethodName) prog_20_method_6_code 9 (some .long) :: ws) ({ frames := 1, cells := 0, slots := 0, locals := 39 } : Room)) prog_20_method_6_code 9 (some .long) e s m #[(.ref a0), (.long q1)] below meth c s₁) (hml : c.maxLocals = 9) (hZ : Z.Warmed39 s.vm) (T0 : State) {locs : List Loc} (X0 : Stand p l e ({ frames := 1, cells := 0, slots := 0, locals := 39 } : Room) s m #[(.ref a0), (.long q1)] below meth c T0 locs 0 0) {h : Heap} (e0 : T0.heap = h) (SZ0 : n0 ≤ h.size) (NF0 : Fr n0 locs) (KP0 : Keep h0 h []) (E_a0 : Exa Z h a0 "com/example/probable_set/probableset/sizing/Shape") (F_a0_bits : Fld Z h a0 "com/example/probable_set/probableset/sizing/Shape" "bits" "J" (.long u0_bits)) (F_a0_hashes : Fld Z h a0 "com/example/probable_set/probableset/sizing/Shape" "hashes" "I" (.int u0_hashes)) (F_a0_reciprocal : Fld Z h a0 "com/example/probable_set/probableset/sizing/Shape" "reciprocal" "J" (.long u0_reciprocal)) :
    own_Go p e below s ({ frames := 1, cells := 0, slots := 0, locals := 39 } : Room).cells ({ frames := 1, cells := 0, slots := 0, locals := 39 } : Room).slots (R6 (f6_35 q1 u0_bits u0_hashes u0_reciprocal x5)) (K6 Z a0 h0 n0 (f6_35 q1 u0_bits u0_hashes u0_reciprocal x5)) (T0.setTop (mkF m 35 #[.val (.ref a0), .val (.long q1), .second, .unset, .unset, .val (.long x5), .second, .unset, .unset] [])) := by
  have hx := Bd.exec
  have hby := Bd.bytes
  have hown : s.vm.findClass "com/example/probable_set/probableset/sizing/Shape" = some m.cls := findClass_of_methodNamed Bd.named
  have hnm := (name_of_methodNamed Bd.named Bd.method).1
  unfold f6_35
  refine own_pre (F' := T0.setTop (mkF m 36 #[.val (.ref a0), .val (.long q1), .second, .unset, .unset, .val (.long x5), .second, .unset, .unset] [(.long q1)])) (fun _ k => XS.lloadN X0.here hx rfl (hb hby d6_35) rfl k) ?_
  refine own_pre (F' := T0.setTop (mkF m 38 #[.val (.ref a0), .val (.long q1), .second, .unset, .unset, .val (.long x5), .second, .unset, .unset] [(.long x5), (.long q1)])) (fun _ k => XS.lload X0.here hx rfl (hb hby d6_36) rfl k) ?_
  refine own_pre (F' := T0.setTop (mkF m 39 #[.val (.ref a0), .val (.long q1), .second, .unset, .unset, .val (.long x5), .second, .unset, .unset] [(.ref a0), (.long x5), (.long q1)])) (fun _ k => XS.aloadN X0.here hx rfl (hb hby d6_38) rfl rfl k) ?_
  obtain ⟨T1, X1, e1, st'⟩ := getF X0 hx hZ hown (host := "") (Or.inl (hw _ (List.mem_of_getElem? (i := 14) rfl))) Via.refl e0 F_a0_bits (g := (mkF m 39 #[.val (.ref a0), .val (.long q1), .second, .unset, .unset, .val (.long x5), .second, .unset, .unset] [(.ref a0), (.long x5), (.long q1)])) rfl rfl (hb hby d6_39)
  refine own_pre (F' := T1.setTop (mkF m 42 #[.val (.ref a0), .val (.long q1), .second, .unset, .unset, .val (.long x5), .second, .unset, .unset] [(.long u0_bits), (.long x5), (.long q1)])) (fun t k => st' t k) ?_
  refine own_pre (F' := T1.setTop (mkF m 43 #[.val (.ref a0), .val (.long q1), .second, .unset, .unset, .val (.long x5), .second, .unset, .unset] [(.long (x5 * u0_bits)), (.long q1)])) (fun _ k => XS.lmul X1.here hx rfl (hb hby d6_42) rfl k) ?_
  refine own_pre (F' := T1.setTop (mkF m 44 #[.val (.ref a0), .val (.long q1), .second, .unset, .unset, .val (.long x5), .second, .unset, .unset] [(.long (q1 - (x5 * u0_bits)))])) (fun _ k => XS.lsub X1.here hx rfl (hb hby d6_43) rfl k) ?_
  refine own_pre (F' := T1.setTop (mkF m 45 #[.val (.ref a0), .val (.long q1), .second, .unset, .unset, .val (.long x5), .second, .unset, .unset] [(.ref a0), (.long (q1 - (x5 * u0_bits)))])) (fun _ k => XS.aloadN X1.here hx rfl (hb hby d6_44) rfl rfl k) ?_
  obtain ⟨T2, X2, e2, st'⟩ := getF X1 hx hZ hown (host := "") (Or.inl (hw _ (List.mem_of_getElem? (i := 14) rfl))) Via.refl e1 F_a0_bits (g := (mkF m 45 #[.val (.ref a0), .val (.long q1), .second, .unset, .unset, .val (.long x5), .second, .unset, .unset] [(.ref a0), (.long (q1 - (x5 * u0_bits)))])) rfl rfl (hb hby d6_45)
  refine own_pre (F' := T2.setTop (mkF m 48 #[.val (.ref a0), .val (.long q1), .second, .unset, .unset, .val (.long x5), .second, .unset, .unset] [(.long u0_bits), (.long (q1 - (x5 * u0_bits)))])) (fun t k => st' t k) ?_
  refine own_pre (F' := T2.setTop (mkF m 49 #[.val (.ref a0), .val (.long q1), .second, .unset, .unset, .val (.long x5), .second, .unset, .unset] [(.long ((q1 - (x5 * u0_bits)) - u0_bits))])) (fun _ k => XS.lsub X2.here hx rfl (hb hby d6_48) rfl k) ?_
  refine own_pre (F' := T2.setTop (mkF m 51 #[.val (.ref a0), .val (.long q1), .second, .unset, .unset, .val (.long x5), .second, .val (.long ((q1 - (x5 * u0_bits)) - u0_bits)), .second] [])) (fun _ k => XS.lstore X2.here hx rfl (hb hby d6_49) rfl (l' := #[.val (.ref a0), .val (.long q1), .second, .unset, .unset, .val (.long x5), .second, .val (.long ((q1 - (x5 * u0_bits)) - u0_bits)), .second]) rfl k) ?_
  exact g6_51 hw q1 u0_bits u0_hashes u0_reciprocal a0 H x5 ((q1 - (x5 * u0_bits)) - u0_bits) Bd hml hZ T2 X2 e2 SZ0 NF0 KP0 E_a0 F_a0_bits F_a0_hashes F_a0_reciprocal
def f6_0 (q1 : Int64) (u0_bits : Int64) (u0_hashes : Int32) (u0_reciprocal : Int64) : Int64 := (if u0_bits < (4 : Int64) then (f6_65b q1 u0_bits u0_hashes u0_reciprocal (f7_0 q1 u0_bits)) else (f6_35 q1 u0_bits u0_hashes u0_reciprocal (f11_0 ((q1.toUInt64 >>> ((1 : Int32) &&& 0x3f).toInt64.toUInt64).toInt64) u0_reciprocal)))
set_option maxRecDepth 65536 in
set_option maxHeartbeats 40000000 in
theorem g6_0 {p : Program} {l : Launch} {e : Env} {s : State} {m : MethodId} {below : List Frame} {meth : Method} {c : Code} {s₁ : State} {ws : List Jvm.Cond} {Z : State} {aw : Array Value} (hw : ∀ d ∈ tables_1, d.before aw Z = true) {h0 : Heap} {n0 : Nat} (q1 : Int64) (u0_bits : Int64) (u0_hashes : Int32) (u0_reciprocal : Int64) (a0 : Addr) (H : ¬ (u0_bits = (0 : Int64)))
    (Bd : BodyLoose p l (⟨"com/example/probable_set/probableset/sizing/Shape", "reduce", "(J)J"⟩ : MethodName) (head1 (Jvm.Cond.code (⟨"com/example/probable_set/probableset/sizing/Shape", "reduce", "(J)J"⟩ : MethodName) prog_20_method_6_code 9 (some .long) :: ws) ({ frames := 1, cells := 0, slots := 0, locals := 39 } : Room)) prog_20_method_6_code 9 (some .long) e s m #[(.ref a0), (.long q1)] below meth c s₁) (hml : c.maxLocals = 9) (hZ : Z.Warmed39 s.vm) (T0 : State) {locs : List Loc} (X0 : Stand p l e ({ frames := 1, cells := 0, slots := 0, locals := 39 } : Room) s m #[(.ref a0), (.long q1)] below meth c T0 locs 0 0) (e0 : T0.heap = h0) (SZ0 : n0 ≤ h0.size) (NF0 : Fr n0 locs) (KP0 : Keep h0 h0 []) (E_a0 : Exa Z h0 a0 "com/example/probable_set/probableset/sizing/Shape") (F_a0_bits : Fld Z h0 a0 "com/example/probable_set/probableset/sizing/Shape" "bits" "J" (.long u0_bits)) (F_a0_hashes : Fld Z h0 a0 "com/example/probable_set/probableset/sizing/Shape" "hashes" "I" (.int u0_hashes)) (F_a0_reciprocal : Fld Z h0 a0 "com/example/probable_set/probableset/sizing/Shape" "reciprocal" "J" (.long u0_reciprocal)) :
    own_Go p e below s ({ frames := 1, cells := 0, slots := 0, locals := 39 } : Room).cells ({ frames := 1, cells := 0, slots := 0, locals := 39 } : Room).slots (R6 (f6_0 q1 u0_bits u0_hashes u0_reciprocal)) (K6 Z a0 h0 n0 (f6_0 q1 u0_bits u0_hashes u0_reciprocal)) (T0.setTop (mkF m 0 #[.val (.ref a0), .val (.long q1), .second, .unset, .unset, .unset, .unset, .unset, .unset] [])) := by
  have hx := Bd.exec
  have hby := Bd.bytes
  have hown : s.vm.findClass "com/example/probable_set/probableset/sizing/Shape" = some m.cls := findClass_of_methodNamed Bd.named
  have hnm := (name_of_methodNamed Bd.named Bd.method).1
  unfold f6_0
  refine own_pre (F' := T0.setTop (mkF m 1 #[.val (.ref a0), .val (.long q1), .second, .unset, .unset, .unset, .unset, .unset, .unset] [(.ref a0)])) (fun _ k => XS.aloadN X0.here hx rfl (hb hby d6_0) rfl rfl k) ?_
  obtain ⟨T1, X1, e1, st'⟩ := getF X0 hx hZ hown (host := "") (Or.inl (hw _ (List.mem_of_getElem? (i := 14) rfl))) Via.refl e0 F_a0_bits (g := (mkF m 1 #[.val (.ref a0), .val (.long q1), .second, .unset, .unset, .unset, .unset, .unset, .unset] [(.ref a0)])) rfl rfl (hb hby d6_1)
  refine own_pre (F' := T1.setTop (mkF m 4 #[.val (.ref a0), .val (.long q1), .second, .unset, .unset, .unset, .unset, .unset, .unset] [(.long u0_bits)])) (fun t k => st' t k) ?_
  refine own_pre (F' := T1.setTop (mkF m 7 #[.val (.ref a0), .val (.long q1), .second, .unset, .unset, .unset, .unset, .unset, .unset] [(.long (4 : Int64)), (.long u0_bits)])) (fun _ k => X1.ldc2Long hx hown (mvT hZ (hw _ (List.mem_of_getElem? (i := 18) rfl))) (g := (mkF m 4 #[.val (.ref a0), .val (.long q1), .second, .unset, .unset, .unset, .unset, .unset, .unset] [(.long u0_bits)])) rfl (hb hby d6_4) _ k) ?_
  refine own_pre (F' := T1.setTop (mkF m 8 #[.val (.ref a0), .val (.long q1), .second, .unset, .unset, .unset, .unset, .unset, .unset] [(.int (lcmpW u0_bits (4 : Int64)))])) (fun _ k => XS.lcmp X1.here hx rfl (hb hby d6_7) rfl k) ?_
  refine own_iteT R6 (K6 Z a0 h0 n0) (fun hc8 => ?_) (fun hc8 => ?_)
  · skip
    refine own_pre (F' := T1.setTop (mkF m 11 #[.val (.ref a0), .val (.long q1), .second, .unset, .unset, .unset, .unset, .unset, .unset] [])) (fun _ k => XS.ifNo X1.here hx rfl (hb hby d6_8) rfl ((if0 _ _).trans (tlt ((lw_lt _ _).mpr hc8)).2.1) k) ?_
    refine own_pre (F' := T1.setTop (mkF m 12 #[.val (.ref a0), .val (.long q1), .second, .unset, .unset, .unset, .unset, .unset, .unset] [(.long q1)])) (fun _ k => XS.lloadN X1.here hx rfl (hb hby d6_11) rfl k) ?_
    refine own_pre (F' := T1.setTop (mkF m 13 #[.val (.ref a0), .val (.long q1), .second, .unset, .unset, .unset, .unset, .unset, .unset] [(.ref a0), (.long q1)])) (fun _ k => XS.aloadN X1.here hx rfl (hb hby d6_12) rfl rfl k) ?_
    obtain ⟨T2, X2, e2, st'⟩ := getF X1 hx hZ hown (host := "") (Or.inl (hw _ (List.mem_of_getElem? (i := 14) rfl))) Via.refl e1 F_a0_bits (g := (mkF m 13 #[.val (.ref a0), .val (.long q1), .second, .unset, .unset, .unset, .unset, .unset, .unset] [(.ref a0), (.long q1)])) rfl rfl (hb hby d6_13)
    refine own_pre (F' := T2.setTop (mkF m 16 #[.val (.ref a0), .val (.long q1), .second, .unset, .unset, .unset, .unset, .unset, .unset] [(.long u0_bits), (.long q1)])) (fun t k => st' t k) ?_
    obtain ⟨_, _, ⟨T3, L3, k3, n3⟩, -, X3', ⟨Lc3, hQ3, l3, y3, z3⟩, st'⟩ := Jvm.LawKit.callS X2 hx (y := (⟨"java/lang/Long", "remainderUnsigned", "(JJ)J"⟩ : MethodName)) hown (mvT hZ (hw _ (List.mem_of_getElem? (i := 36) rfl))) (mvT hZ (hw _ (List.mem_of_getElem? (i := 37) rfl))) (mvT hZ (hw _ (List.mem_of_getElem? (i := 38) rfl))) (mvT hZ (hw _ (List.mem_of_getElem? (i := 39) rfl))) (by decide) (backOf (W := 0) (rm7 l Z aw hw [] q1 u0_bits h0 H) hZ (hw _ (List.mem_of_getElem? (i := 39) rfl)) (hw _ (List.mem_of_getElem? (i := 38) rfl)) (by decide) (by decide)) (g := (mkF m 16 #[.val (.ref a0), .val (.long q1), .second, .unset, .unset, .unset, .unset, .unset, .unset] [(.long u0_bits), (.long q1)])) rfl (by rw [hml]; rfl) (argsL := [(.long q1), (.long u0_bits)]) (rest := []) (lenOf own_pd0 rfl) rfl (by show 2 * 0 + _ ≤ _; exact Nat.le_of_eq rfl) (hb hby d6_16) (fun _ _ => ⟨rfl, e2, (by decide : 0 + 0 ≤ _), (by decide : 0 + 0 ≤ _)⟩)
    dsimp only [Pt.U, Pt.locs, Pt.cells, Pt.slots] at X3' l3 y3 z3 st' hQ3
    subst l3 y3 z3
    obtain ⟨rfl, rfl, e3⟩ := hQ3
    have X3 : Stand p l e ({ frames := 1, cells := 0, slots := 0, locals := 39 } : Room) s m #[(.ref a0), (.long q1)] below meth c T3 _ 0 0 := (List.append_nil _) ▸ X3'
    refine own_pre (F' := T3.setTop (mkF m 19 #[.val (.ref a0), .val (.long q1), .second, .unset, .unset, .unset, .unset, .unset, .unset] [(.long (f7_0 q1 u0_bits))])) (fun t k => st' t k) ?_
    refine own_pre (F' := T3.setTop (mkF m 20 #[.val (.ref a0), .val (.long q1), .second, .val (.long (f7_0 q1 u0_bits)), .second, .unset, .unset, .unset, .unset] [])) (fun _ k => XS.lstoreN X3.here hx rfl (hb hby d6_19) rfl (l' := #[.val (.ref a0), .val (.long q1), .second, .val (.long (f7_0 q1 u0_bits)), .second, .unset, .unset, .unset, .unset]) rfl k) ?_
    refine own_pre (F' := T3.setTop (mkF m 65 #[.val (.ref a0), .val (.long q1), .second, .val (.long (f7_0 q1 u0_bits)), .second, .unset, .unset, .unset, .unset] [])) (fun _ k => XS.goto X3.here hx rfl (pc0 := 20) (pc' := 65) rfl (hb hby d6_20) (by decide) (by decide) k) ?_
    exact g6_65b hw q1 u0_bits u0_hashes u0_reciprocal a0 H (f7_0 q1 u0_bits) Bd hml hZ T3 X3 e3 SZ0 NF0 KP0 E_a0 F_a0_bits F_a0_hashes F_a0_reciprocal
  · skip
    refine own_pre (F' := T1.setTop (mkF m 23 #[.val (.ref a0), .val (.long q1), .second, .unset, .unset, .unset, .unset, .unset, .unset] [])) (fun _ k => XS.ifYes X1.here hx rfl (pc0 := 8) (pc' := 23) rfl (hb hby d6_8) rfl ((if0 _ _).trans (flt (fun q => hc8 ((lw_lt _ _).mp q))).2.1) (by decide) (by decide) k) ?_
    refine own_pre (F' := T1.setTop (mkF m 24 #[.val (.ref a0), .val (.long q1), .second, .unset, .unset, .unset, .unset, .unset, .unset] [(.long q1)])) (fun _ k => XS.lloadN X1.here hx rfl (hb hby d6_23) rfl k) ?_
    refine own_pre (F' := T1.setTop (mkF m 25 #[.val (.ref a0), .val (.long q1), .second, .unset, .unset, .unset, .unset, .unset, .unset] [(.int (1 : Int32)), (.long q1)])) (fun _ k => XS.iconst X1.here hx rfl (hb hby d6_24) k) ?_
    refine own_pre (F' := T1.setTop (mkF m 26 #[.val (.ref a0), .val (.long q1), .second, .unset, .unset, .unset, .unset, .unset, .unset] [(.long ((q1.toUInt64 >>> ((1 : Int32) &&& 0x3f).toInt64.toUInt64).toInt64))])) (fun _ k => XS.lushr X1.here hx rfl (hb hby d6_25) rfl k) ?_
    refine own_pre (F' := T1.setTop (mkF m 27 #[.val (.ref a0), .val (.long q1), .second, .unset, .unset, .unset, .unset, .unset, .unset] [(.ref a0), (.long ((q1.toUInt64 >>> ((1 : Int32) &&& 0x3f).toInt64.toUInt64).toInt64))])) (fun _ k => XS.aloadN X1.here hx rfl (hb hby d6_26) rfl rfl k) ?_
    obtain ⟨T4, X4, e4, st'⟩ := getF X1 hx hZ hown (host := "") (Or.inl (hw _ (List.mem_of_getElem? (i := 19) rfl))) Via.refl e1 F_a0_reciprocal (g := (mkF m 27 #[.val (.ref a0), .val (.long q1), .second, .unset, .unset, .unset, .unset, .unset, .unset] [(.ref a0), (.long ((q1.toUInt64 >>> ((1 : Int32) &&& 0x3f).toInt64.toUInt64).toInt64))])) rfl rfl (hb hby d6_27)
    refine own_pre (F' := T4.setTop (mkF m 30 #[.val (.ref a0), .val (.long q1), .second, .unset, .unset, .unset, .unset, .unset, .unset] [(.long u0_reciprocal), (.long ((q1.toUInt64 >>> ((1 : Int32) &&& 0x3f).toInt64.toUInt64).toInt64))])) (fun t k => st' t k) ?_
    obtain ⟨_, _, ⟨T5, L5, k5, n5⟩, -, X5', ⟨Lc5, hQ5, l5, y5, z5⟩, st'⟩ := Jvm.LawKit.callS X4 hx (y := (⟨"java/lang/Math", "multiplyHigh", "(JJ)J"⟩ : MethodName)) hown (mvT hZ (hw _ (List.mem_of_getElem? (i := 54) rfl))) (mvT hZ (hw _ (List.mem_of_getElem? (i := 55) rfl))) (mvT hZ (hw _ (List.mem_of_getElem? (i := 56) rfl))) (mvT hZ (hw _ (List.mem_of_getElem? (i := 57) rfl))) (by decide) (backOf (W := 0) (rm11 l Z aw hw [] ((q1.toUInt64 >>> ((1 : Int32) &&& 0x3f).toInt64.toUInt64).toInt64) u0_reciprocal h0) hZ (hw _ (List.mem_of_getElem? (i := 57) rfl)) (hw _ (List.mem_of_getElem? (i := 56) rfl)) (by decide) (by decide)) (g := (mkF m 30 #[.val (.ref a0), .val (.long q1), .second, .unset, .unset, .unset, .unset, .unset, .unset] [(.long u0_reciprocal), (.long ((q1.toUInt64 >>> ((1 : Int32) &&& 0x3f).toInt64.toUInt64).toInt64))])) rfl (by rw [hml]; rfl) (argsL := [(.long ((q1.toUInt64 >>> ((1 : Int32) &&& 0x3f).toInt64.toUInt64).toInt64)), (.long u0_reciprocal)]) (rest := []) (lenOf own_pd0 rfl) rfl (by show 2 * 0 + _ ≤ _; exact Nat.le_of_eq rfl) (hb hby d6_30) (fun _ _ => ⟨rfl, e4, (by decide : 0 + 0 ≤ _), (by decide : 0 + 0 ≤ _)⟩)
    dsimp only [Pt.U, Pt.locs, Pt.cells, Pt.slots] at X5' l5 y5 z5 st' hQ5
    subst l5 y5 z5
    obtain ⟨rfl, rfl, e5⟩ := hQ5
    have X5 : Stand p l e ({ frames := 1, cells := 0, slots := 0, locals := 39 } : Room) s m #[(.ref a0), (.long q1)] below meth c T5 _ 0 0 := (List.append_nil _) ▸ X5'
    refine own_pre (F' := T5.setTop (mkF m 33 #[.val (.ref a0), .val (.long q1), .second, .unset, .unset, .unset, .unset, .unset, .unset] [(.long (f11_0 ((q1.toUInt64 >>> ((1 : Int32) &&& 0x3f).toInt64.toUInt64).toInt64) u0_reciprocal))])) (fun t k => st' t k) ?_
    refine own_pre (F' := T5.setTop (mkF m 35 #[.val (.ref a0), .val (.long q1), .second, .unset, .unset, .val (.long (f11_0 ((q1.toUInt64 >>> ((1 : Int32) &&& 0x3f).toInt64.toUInt64).toInt64) u0_reciprocal)), .second, .unset, .unset] [])) (fun _ k => XS.lstore X5.here hx rfl (hb hby d6_33) rfl (l' := #[.val (.ref a0), .val (.long q1), .second, .unset, .unset, .val (.long (f11_0 ((q1.toUInt64 >>> ((1 : Int32) &&& 0x3f).toInt64.toUInt64).toInt64) u0_reciprocal)), .second, .unset, .unset]) rfl k) ?_
    exact g6_35 hw q1 u0_bits u0_hashes u0_reciprocal a0 H (f11_0 ((q1.toUInt64 >>> ((1 : Int32) &&& 0x3f).toInt64.toUInt64).toInt64) u0_reciprocal) Bd hml hZ T5 X5 e5 SZ0 NF0 KP0 E_a0 F_a0_bits F_a0_hashes F_a0_reciprocal
theorem ef_6 (m : MethodId) (a0 : Addr) (q1 : Int64) : entryFrame m #[(.ref a0), (.long q1)] 9 = mkF m 0 #[.val (.ref a0), .val (.long q1), .second, .unset, .unset, .unset, .unset, .unset, .unset] [] := by first | (simp [entryFrame, mkF, argsToLocals, Value.category]; done) | rfl
set_option maxRecDepth 65536 in
set_option maxHeartbeats 40000000 in
theorem rm6 (l : Launch) (Z : State) (aw : Array Value) (hw : ∀ d ∈ tables_1, d.before aw Z = true) (ws : List Jvm.Cond) (q1 : Int64) (u0_bits : Int64) (u0_hashes : Int32) (u0_reciprocal : Int64) (a0 : Addr) (h0 : Heap) (n0 : Nat) (SZ0 : n0 ≤ h0.size) (E_a0 : Exa Z h0 a0 "com/example/probable_set/probableset/sizing/Shape") (F_a0_bits : Fld Z h0 a0 "com/example/probable_set/probableset/sizing/Shape" "bits" "J" (.long u0_bits)) (F_a0_hashes : Fld Z h0 a0 "com/example/probable_set/probableset/sizing/Shape" "hashes" "I" (.int u0_hashes)) (F_a0_reciprocal : Fld Z h0 a0 "com/example/probable_set/probableset/sizing/Shape" "reciprocal" "J" (.long u0_reciprocal)) (H : ¬ (u0_bits = (0 : Int64))) :
    MetFree l (⟨"com/example/probable_set/probableset/sizing/Shape", "reduce", "(J)J"⟩ : MethodName) (head1 (Jvm.Cond.code (⟨"com/example/probable_set/probableset/sizing/Shape", "reduce", "(J)J"⟩ : MethodName) prog_20_method_6_code 9 (some .long) :: ws) ({ frames := 1, cells := 0, slots := 0, locals := 39 } : Room)) (fun a U => a = #[(.ref a0), (.long q1)] ∧ Z.Warmed39 U.vm ∧ U.heap = h0) (fun _ _ _ _ _ => True) (fun _ U o U' => ∃ v L, o = .returned v ∧ own_Q (R6 (f6_0 q1 u0_bits u0_hashes u0_reciprocal)) (K6 Z a0 h0 n0 (f6_0 q1 u0_bits u0_hashes u0_reciprocal)) v U'.heap L ∧ FrameEnd U o U' L ({ frames := 1, cells := 0, slots := 0, locals := 39 } : Room).cells ({ frames := 1, cells := 0, slots := 0, locals := 39 } : Room).slots) := by
  refine MetFree.of_bodySF (plainFor_of_name own_pn2) hisR ?_
  intro p e s m args below meth c s₁ Bd hml0 hP hK
  obtain ⟨rfl, hZ, hh⟩ := hP
  have hml : c.maxLocals = 9 := hml0
  have e0 : s₁.heap = h0 := by rw [← hh, Bd.state]; rfl
  exact own_pre (fun t k => castTop (ef_6 m a0 q1) k) (g6_0 hw q1 u0_bits u0_hashes u0_reciprocal a0 H Bd hml hZ s₁ (Stand.of_body Bd) e0 SZ0 (Fr.nil n0) (Keep.refl _ _) E_a0 F_a0_bits F_a0_hashes F_a0_reciprocal)
theorem own_pd2 : parseMethodDescriptor "(JI)V" = some ⟨[.long, .int], none⟩ := by decide +kernel
/-! body 1 -/
theorem d1_0 : decode prog_20_method_2_code 0 = .ok (.lload_n 0, 1) := by decide +kernel
theorem d1_1 : decode prog_20_method_2_code 1 = .ok (.lconst 1, 1) := by decide +kernel
theorem d1_2 : decode prog_20_method_2_code 2 = .ok (.lcmp, 1) := by decide +kernel
theorem d1_3 : decode prog_20_method_2_code 3 = .ok (.ifCond .ge 17, 3) := by decide +kernel
theorem d1_20 : decode prog_20_method_2_code 20 = .ok (.iload_n 2, 1) := by decide +kernel
theorem d1_21 : decode prog_20_method_2_code 21 = .ok (.iconst 1, 1) := by decide +kernel
theorem d1_22 : decode prog_20_method_2_code 22 = .ok (.if_icmp .ge 17, 3) := by decide +kernel
theorem d1_39 : decode prog_20_method_2_code 39 = .ok (.new 8, 3) := by decide +kernel
theorem d1_42 : decode prog_20_method_2_code 42 = .ok (.dup, 1) := by decide +kernel
theorem d1_43 : decode prog_20_method_2_code 43 = .ok (.lload_n 0, 1) := by decide +kernel
theorem d1_44 : decode prog_20_method_2_code 44 = .ok (.iload_n 2, 1) := by decide +kernel
theorem d1_45 : decode prog_20_method_2_code 45 = .ok (.invokespecial 38, 3) := by decide +kernel
theorem d1_48 : decode prog_20_method_2_code 48 = .ok (.areturn, 1) := by decide +kernel
def R1 (h0 : Heap) (t : Int64 × Int32 × Int64) : Option Value := some (.ref h0.size)
def K1 (Z : State)  (h0 : Heap) (n0 : Nat) (t : Int64 × Int32 × Int64) (h : Heap) (L : List Loc) : Prop := Fr n0 L ∧ Keep h0 h [] ∧ Exa Z h h0.size "com/example/probable_set/probableset/sizing/Shape" ∧ Fld Z h h0.size "com/example/probable_set/probableset/sizing/Shape" "bits" "J" (.long t.1) ∧ Fld Z h h0.size "com/example/probable_set/probableset/sizing/Shape" "hashes" "I" (.int t.2.1) ∧ Fld Z h h0.size "com/example/probable_set/probableset/sizing/Shape" "reciprocal" "J" (.long t.2.2)
def f1_0 (q0 : Int64) (p1 : Int32) : Int64 × Int32 × Int64 := ((f2_0 q0 p1 (0 : Int64) (0 : Int32) (0 : Int64)).1, (f2_0 q0 p1 (0 : Int64) (0 : Int32) (0 : Int64)).2.1, (f2_0 q0 p1 (0 : Int64) (0 : Int32) (0 : Int64)).2.2)
set_option maxRecDepth 65536 in
set_option maxHeartbeats 40000000 in
theorem g1_0 {p : Program} {l : Launch} {e : Env} {s : State} {m : MethodId} {below : List Frame} {meth : Method} {c : Code} {s₁ : State} {ws : List Jvm.Cond} {Z : State} {aw : Array Value} (hw : ∀ d ∈ tables_1, d.before aw Z = true) {h0 : Heap} {n0 : Nat} (q0 : Int64) (p1 : Int32)  (H1 : ¬ (q0 < (1 : Int64))) (H2 : ¬ (p1 < (1 : Int32)))
    (Bd : BodyLoose p l (⟨"com/example/probable_set/probableset/sizing/Shape", "of", "(JI)Lcom/example/probable_set/probableset/sizing/Shape;"⟩ : MethodName) (head1 (Jvm.Cond.code (⟨"com/example/probable_set/probableset/sizing/Shape", "of", "(JI)Lcom/example/probable_set/probableset/sizing/Shape;"⟩ : MethodName) prog_20_method_2_code 3 (some (.object "com/example/probable_set/probableset/sizing/Shape")) :: ws) ({ frames := 3, cells := 1, slots := 3, locals := 75 } : Room)) prog_20_method_2_code 3 (some (.object "com/example/probable_set/probableset/sizing/Shape")) e s m #[(.long q0), (.int p1)] below meth c s₁) (hml : c.maxLocals = 3) (hZ : Z.Warmed39 s.vm) (T0 : State) {locs : List Loc} (X0 : Stand p l e ({ frames := 3, cells := 1, slots := 3, locals := 75 } : Room) s m #[(.long q0), (.int p1)] below meth c T0 locs 0 0) (e0 : T0.heap = h0) (SZ0 : n0 ≤ h0.size) (NF0 : Fr n0 locs) (KP0 : Keep h0 h0 []) :
    own_Go p e below s ({ frames := 3, cells := 1, slots := 3, locals := 75 } : Room).cells ({ frames := 3, cells := 1, slots := 3, locals := 75 } : Room).slots (R1 h0 (f1_0 q0 p1)) (K1 Z  h0 n0 (f1_0 q0 p1)) (T0.setTop (mkF m 0 #[.val (.long q0), .second, .val (.int p1)] [])) := by
  have hx := Bd.exec
  have hby := Bd.bytes
  have hown : s.vm.findClass "com/example/probable_set/probableset/sizing/Shape" = some m.cls := findClass_of_methodNamed Bd.named
  have hnm := (name_of_methodNamed Bd.named Bd.method).1
  unfold f1_0
  refine own_pre (F' := T0.setTop (mkF m 1 #[.val (.long q0), .second, .val (.int p1)] [(.long q0)])) (fun _ k => XS.lloadN X0.here hx rfl (hb hby d1_0) rfl k) ?_
  refine own_pre (F' := T0.setTop (mkF m 2 #[.val (.long q0), .second, .val (.int p1)] [(.long (1 : Int64)), (.long q0)])) (fun _ k => XS.lconst X0.here hx rfl (hb hby d1_1) k) ?_
  refine own_pre (F' := T0.setTop (mkF m 3 #[.val (.long q0), .second, .val (.int p1)] [(.int (lcmpW q0 (1 : Int64)))])) (fun _ k => XS.lcmp X0.here hx rfl (hb hby d1_2) rfl k) ?_
  have hc3 : ¬ (q0 < (1 : Int64)) := H1
  refine own_pre (F' := T0.setTop (mkF m 20 #[.val (.long q0), .second, .val (.int p1)] [])) (fun _ k => XS.ifYes X0.here hx rfl (pc0 := 3) (pc' := 20) rfl (hb hby d1_3) rfl ((if0 _ _).trans (flt (fun q => hc3 ((lw_lt _ _).mp q))).2.1) (by decide) (by decide) k) ?_
  refine own_pre (F' := T0.setTop (mkF m 21 #[.val (.long q0), .second, .val (.int p1)] [(.int p1)])) (fun _ k => XS.iloadN X0.here hx rfl (hb hby d1_20) rfl k) ?_
  refine own_pre (F' := T0.setTop (mkF m 22 #[.val (.long q0), .second, .val (.int p1)] [(.int (1 : Int32)), (.int p1)])) (fun _ k => XS.iconst X0.here hx rfl (hb hby d1_21) k) ?_
  have hc22 : ¬ (p1 < (1 : Int32)) := H2
  refine own_pre (F' := T0.setTop (mkF m 39 #[.val (.long q0), .second, .val (.int p1)] [])) (fun _ k => XS.icmpYes X0.here hx rfl (pc0 := 22) (pc' := 39) rfl (hb hby d1_22) rfl (flt hc22).2.1 (by decide) (by decide) k) ?_
  obtain ⟨T1, h1, X1, e1, E1, A1, D1, -, st'⟩ := newO X0 hx hZ hown (hw _ (List.mem_of_getElem? (i := 6) rfl)) (hw _ (List.mem_of_getElem? (i := 7) rfl)) (hw _ (List.mem_of_getElem? (i := 4) rfl)) e0 (g := (mkF m 39 #[.val (.long q0), .second, .val (.int p1)] [])) rfl (hb hby d1_39) (by decide) (by decide)
  obtain ⟨b1, g1⟩ : ∃ z, z = h0.size := ⟨_, rfl⟩
  rw [← g1] at A1 D1 st'
  have g_b1 : n0 ≤ b1 := Nat.le_trans SZ0 (Nat.le_of_eq g1.symm)
  have sz_b1 : h0.size ≤ b1 := Nat.le_trans KP0.1 (Nat.le_of_eq g1.symm)
  have KP1 := KP0.ext E1
  have SZ1 : n0 ≤ h1.size := Nat.le_trans SZ0 E1.1
  have f2 : Fld Z h1 b1 "com/example/probable_set/probableset/sizing/Shape" "bits" "J" (.long (0 : Int64)) := D1 (Or.inr (hw _ (List.mem_of_getElem? (i := 15) rfl))) (ty := .long) (by decide)
  have f3 : Fld Z h1 b1 "com/example/probable_set/probableset/sizing/Shape" "hashes" "I" (.int (0 : Int32)) := D1 (Or.inr (hw _ (List.mem_of_getElem? (i := 17) rfl))) (ty := .int) (by decide)
  have f4 : Fld Z h1 b1 "com/example/probable_set/probableset/sizing/Shape" "reciprocal" "J" (.long (0 : Int64)) := D1 (Or.inr (hw _ (List.mem_of_getElem? (i := 20) rfl))) (ty := .long) (by decide)
  refine own_pre (F' := T1.setTop (mkF m 42 #[.val (.long q0), .second, .val (.int p1)] [(.ref b1)])) (fun t k => st' t k) ?_
  refine own_pre (F' := T1.setTop (mkF m 43 #[.val (.long q0), .second, .val (.int p1)] [(.ref b1), (.ref b1)])) (fun _ k => XS.dup X1.here hx rfl (hb hby d1_42) rfl rfl k) ?_
  refine own_pre (F' := T1.setTop (mkF m 44 #[.val (.long q0), .second, .val (.int p1)] [(.long q0), (.ref b1), (.ref b1)])) (fun _ k => XS.lloadN X1.here hx rfl (hb hby d1_43) rfl k) ?_
  refine own_pre (F' := T1.setTop (mkF m 45 #[.val (.long q0), .second, .val (.int p1)] [(.int p1), (.long q0), (.ref b1), (.ref b1)])) (fun _ k => XS.iloadN X1.here hx rfl (hb hby d1_44) rfl k) ?_
  obtain ⟨_, _, ⟨T5, L5, k5, n5⟩, -, X5', ⟨Lc5, hQ5, l5, y5, z5⟩, st'⟩ := X1.specialBack hx (y := (⟨"com/example/probable_set/probableset/sizing/Shape", "<init>", "(JI)V"⟩ : MethodName)) rfl hown (mvT hZ (hw _ (List.mem_of_getElem? (i := 8) rfl))) (mvT hZ (hw _ (List.mem_of_getElem? (i := 9) rfl))) (mvT hZ (hw _ (List.mem_of_getElem? (i := 10) rfl))) (by decide) (backOf (W := 1) (rm2 l Z aw hw [] q0 p1 (0 : Int64) (0 : Int32) (0 : Int64) b1 h1 n0 SZ1 A1 f2 f3 f4 g_b1) hZ (hw _ (List.mem_of_getElem? (i := 10) rfl)) (hw _ (List.mem_of_getElem? (i := 4) rfl)) (by decide) (by decide)) (g := (mkF m 45 #[.val (.long q0), .second, .val (.int p1)] [(.int p1), (.long q0), (.ref b1), (.ref b1)])) rfl (by rw [hml]; rfl) (Steps.refl _) (a := b1) (argsL := [(.long q0), (.int p1)]) (rest := [(.ref b1)]) (lenOf own_pd2 rfl) rfl (by show 2 * 0 + _ ≤ _; exact Nat.le_of_eq rfl) (hb hby d1_45) (fun _ _ => ⟨rfl, e1, (by decide : 1 + 0 ≤ _), (by decide : 3 + 0 ≤ _)⟩)
  dsimp only [Pt.U, Pt.locs, Pt.cells, Pt.slots] at X5' l5 y5 z5 st' hQ5
  subst l5 y5 z5
  obtain ⟨rfl, NFq5, KPq5, fe5_0, ff5_0_bits, ff5_0_hashes, ff5_0_reciprocal⟩ := hQ5
  have X5 : Stand p l e ({ frames := 3, cells := 1, slots := 3, locals := 75 } : Room) s m #[(.long q0), (.int p1)] below meth c T5 _ 1 3 := X5'
  have NF5 := Fr.app NF0 NFq5
  have SZ5 : n0 ≤ T5.heap.size := Nat.le_trans SZ1 KPq5.1
  have KP5 : Keep h0 T5.heap [] := KP1.trans KPq5 (allS (Or.inr sz_b1) all0)
  have f6 := A1.keep KPq5
  refine own_pre (F' := T5.setTop (mkF m 48 #[.val (.long q0), .second, .val (.int p1)] [(.ref b1)])) (fun t k => st'.trans k) ?_
  subst g1
  exact own_ret X5 hx Bd.notSynchronized Bd.returns rfl (Or.inr (Or.inr ⟨rfl, rfl, rfl⟩)) (hb hby d1_48) ⟨NF5, KP5, fe5_0, ff5_0_bits, ff5_0_hashes, ff5_0_reciprocal⟩ (by decide) (by decide)
theorem ef_1 (m : MethodId) (q0 : Int64) (p1 : Int32) : entryFrame m #[(.long q0), (.int p1)] 3 = mkF m 0 #[.val (.long q0), .second, .val (.int p1)] [] := by first | (simp [entryFrame, mkF, argsToLocals, Value.category]; done) | rfl
set_option maxRecDepth 65536 in
set_option maxHeartbeats 40000000 in
theorem rm1 (l : Launch) (Z : State) (aw : Array Value) (hw : ∀ d ∈ tables_1, d.before aw Z = true) (ws : List Jvm.Cond) (q0 : Int64) (p1 : Int32)  (h0 : Heap) (n0 : Nat) (SZ0 : n0 ≤ h0.size) (H1 : ¬ (q0 < (1 : Int64))) (H2 : ¬ (p1 < (1 : Int32))) :
    MetFree l (⟨"com/example/probable_set/probableset/sizing/Shape", "of", "(JI)Lcom/example/probable_set/probableset/sizing/Shape;"⟩ : MethodName) (head1 (Jvm.Cond.code (⟨"com/example/probable_set/probableset/sizing/Shape", "of", "(JI)Lcom/example/probable_set/probableset/sizing/Shape;"⟩ : MethodName) prog_20_method_2_code 3 (some (.object "com/example/probable_set/probableset/sizing/Shape")) :: ws) ({ frames := 3, cells := 1, slots := 3, locals := 75 } : Room)) (fun a U => a = #[(.long q0), (.int p1)] ∧ Z.Warmed39 U.vm ∧ U.heap = h0) (fun _ _ _ _ _ => True) (fun _ U o U' => ∃ v L, o = .returned v ∧ own_Q (R1 h0 (f1_0 q0 p1)) (K1 Z  h0 n0 (f1_0 q0 p1)) v U'.heap L ∧ FrameEnd U o U' L ({ frames := 3, cells := 1, slots := 3, locals := 75 } : Room).cells ({ frames := 3, cells := 1, slots := 3, locals := 75 } : Room).slots) := by
  refine MetFree.of_bodySF (plainFor_of_name own_pn2) hisR ?_
  intro p e s m args below meth c s₁ Bd hml0 hP hK
  obtain ⟨rfl, hZ, hh⟩ := hP
  have hml : c.maxLocals = 3 := hml0
  have e0 : s₁.heap = h0 := by rw [← hh, Bd.state]; rfl
  exact own_pre (fun t k => castTop (ef_1 m q0 p1) k) (g1_0 hw q0 p1  H1 H2 Bd hml hZ s₁ (Stand.of_body Bd) e0 SZ0 (Fr.nil n0) (Keep.refl _ _))
theorem own_p1 {q : Int64} (h : ¬ ((q &&& (9223372036854775807 : Int64)) = (0 : Int64))) : ¬ ((q &&& (9223372036854775807 : Int64)) < (1 : Int64)) := by
  have h1 := c_maskL q 9223372036854775807 63 (by decide) (by decide)
  rw [Int64.lt_iff_toInt_lt, show (1 : Int64).toInt = 1 from rfl]
  rw [← Int64.toInt_inj, show (0 : Int64).toInt = 0 from rfl] at h
  omega
theorem own_p2 {q : Int32} (h : ¬ ((q &&& (2147483647 : Int32)) = (0 : Int32))) : ¬ ((q &&& (2147483647 : Int32)) < (1 : Int32)) := by
  have h1 := c_mask q 2147483647 31 (by decide) (by decide)
  rw [Int32.lt_iff_toInt_lt, show (1 : Int32).toInt = 1 from rfl]
  rw [← Int32.toInt_inj, show (0 : Int32).toInt = 0 from rfl] at h
  omega
theorem own_p3 {x : Int64} (h : ¬ (x < (1 : Int64))) : ¬ (x = (0 : Int64)) := by
  intro q; subst q; exact h (by decide)
theorem own_p4 {x : Int64} {y : Int32} (h : ¬ (x < (1 : Int64))) : ¬ ((f1_0 x y).1 = (0 : Int64)) := by
  have h1 : (f1_0 x y).1 = x := by unfold f1_0 f2_0 f2_31; split <;> rfl
  rw [h1]; exact own_p3 h
theorem own_pd3 : parseMethodDescriptor "(JI)Lcom/example/probable_set/probableset/sizing/Shape;" = some ⟨[.long, .int], some (.object "com/example/probable_set/probableset/sizing/Shape")⟩ := by decide +kernel
theorem own_pd4 : parseMethodDescriptor "()J" = some ⟨[], some .long⟩ := by decide +kernel
theorem own_pd5 : parseMethodDescriptor "()I" = some ⟨[], some .int⟩ := by decide +kernel
/-! body 0 -/
def R0 (t : Int32) : Option Value := some (.int t)
def K0 (Z : State)  (h0 : Heap) (n0 : Nat) (t : Int32) (h : Heap) (L : List Loc) : Prop := Fr n0 L
def f0_81 (q0 : Int64) (p1 : Int32) (q2 : Int64) : Int32 := (0 : Int32)
set_option maxRecDepth 65536 in
set_option maxHeartbeats 40000000 in
theorem g0_81 {p : Program} {l : Launch} {e : Env} {s : State} {m : MethodId} {below : List Frame} {meth : Method} {c : Code} {s₁ : State} {ws : List Jvm.Cond} {Z : State} {aw : Array Value} (hw : ∀ d ∈ tables_1, d.before aw Z = true) {h0 : Heap} {n0 : Nat} (q0 : Int64) (p1 : Int32) (q2 : Int64)  (x5 : Int64) (x7 : Int32) (x8 : Addr)
    (Bd : BodyLoose p l x (head1 (Jvm.Cond.code x code maxLocals ret :: ws) room_1) code maxLocals ret e s m #[(.long q0), (.int p1), (.long q2)] below meth c s₁) (hml : c.maxLocals = 9) (hZ : Z.Warmed39 s.vm) (T0 : State) {locs : List Loc} (X0 : Stand p l e room_1 s m #[(.long q0), (.int p1), (.long q2)] below meth c T0 locs 1 3) {h : Heap} (e0 : T0.heap = h) (SZ0 : n0 ≤ h.size) (NF0 : Fr n0 locs) :
    own_Go p e below s room_1.cells room_1.slots (R0 (f0_81 q0 p1 q2)) (K0 Z  h0 n0 (f0_81 q0 p1 q2)) (T0.setTop (mkF m 81 #[.val (.long q0), .second, .val (.int p1), .val (.long q2), .second, .val (.long x5), .second, .val (.int x7), .val (.ref x8)] [])) := by
  have hx := Bd.exec
  have hby := Bd.bytes
  have hown : s.vm.findClass "com/example/probable_set/probableset/sizing/ShapeOfPinLaw" = some m.cls := findClass_of_methodNamed Bd.named
  have hnm := (name_of_methodNamed Bd.named Bd.method).1
  unfold f0_81
  refine own_pre (F' := T0.setTop (mkF m 82 #[.val (.long q0), .second, .val (.int p1), .val (.long q2), .second, .val (.long x5), .second, .val (.int x7), .val (.ref x8)] [(.int (0 : Int32))])) (fun _ k => XS.iconst X0.here hx rfl (hb hby at_81) k) ?_
  exact own_ret X0 hx Bd.notSynchronized Bd.returns rfl (Or.inl ⟨rfl, by simp, _, rfl⟩) (hb hby at_82) (by rw [e0]; exact NF0) (by decide) (by decide)
def f0_31 (q0 : Int64) (p1 : Int32) (q2 : Int64) (x5 : Int64) (x7 : Int32) : Int32 := (if (f4_0 (f1_0 x5 x7).1 (f1_0 x5 x7).2.1 (f1_0 x5 x7).2.2) = x5 then (if (f5_0 (f1_0 x5 x7).1 (f1_0 x5 x7).2.1 (f1_0 x5 x7).2.2) = x7 then (if (f6_0 q2 (f1_0 x5 x7).1 (f1_0 x5 x7).2.1 (f1_0 x5 x7).2.2) = (f8_0 q2 x5) then (1 : Int32) else (f0_81 q0 p1 q2)) else (f0_81 q0 p1 q2)) else (f0_81 q0 p1 q2))
set_option maxRecDepth 65536 in
set_option maxHeartbeats 40000000 in
theorem g0_31 {p : Program} {l : Launch} {e : Env} {s : State} {m : MethodId} {below : List Frame} {meth : Method} {c : Code} {s₁ : State} {ws : List Jvm.Cond} {Z : State} {aw : Array Value} (hw : ∀ d ∈ tables_1, d.before aw Z = true) {h0 : Heap} {n0 : Nat} (q0 : Int64) (p1 : Int32) (q2 : Int64)  (x5 : Int64) (x7 : Int32) (I31 : ¬ (x5 < (1 : Int64))) (J31 : ¬ (x7 < (1 : Int32)))
    (Bd : BodyLoose p l x (head1 (Jvm.Cond.code x code maxLocals ret :: ws) room_1) code maxLocals ret e s m #[(.long q0), (.int p1), (.long q2)] below meth c s₁) (hml : c.maxLocals = 9) (hZ : Z.Warmed39 s.vm) (T0 : State) {locs : List Loc} (X0 : Stand p l e room_1 s m #[(.long q0), (.int p1), (.long q2)] below meth c T0 locs 0 0) {h : Heap} (e0 : T0.heap = h) (SZ0 : n0 ≤ h.size) (NF0 : Fr n0 locs) :
    own_Go p e below s room_1.cells room_1.slots (R0 (f0_31 q0 p1 q2 x5 x7)) (K0 Z  h0 n0 (f0_31 q0 p1 q2 x5 x7)) (T0.setTop (mkF m 31 #[.val (.long q0), .second, .val (.int p1), .val (.long q2), .second, .val (.long x5), .second, .val (.int x7), .unset] [])) := by
  have hx := Bd.exec
  have hby := Bd.bytes
  have hown : s.vm.findClass "com/example/probable_set/probableset/sizing/ShapeOfPinLaw" = some m.cls := findClass_of_methodNamed Bd.named
  have hnm := (name_of_methodNamed Bd.named Bd.method).1
  unfold f0_31
  refine own_pre (F' := T0.setTop (mkF m 33 #[.val (.long q0), .second, .val (.int p1), .val (.long q2), .second, .val (.long x5), .second, .val (.int x7), .unset] [(.long x5)])) (fun _ k => XS.lload X0.here hx rfl (hb hby at_31) rfl k) ?_
  refine own_pre (F' := T0.setTop (mkF m 35 #[.val (.long q0), .second, .val (.int p1), .val (.long q2), .second, .val (.long x5), .second, .val (.int x7), .unset] [(.int x7), (.long x5)])) (fun _ k => XS.iload X0.here hx rfl (hb hby at_33) rfl k) ?_
  obtain ⟨_, _, ⟨T1, L1, k1, n1⟩, -, X1', ⟨Lc1, hQ1, l1, y1, z1⟩, st'⟩ := Jvm.LawKit.callS X0 hx (y := (⟨"com/example/probable_set/probableset/sizing/Shape", "of", "(JI)Lcom/example/probable_set/probableset/sizing/Shape;"⟩ : MethodName)) hown (mvT hZ (hw _ (List.mem_of_getElem? (i := 2) rfl))) (mvT hZ (hw _ (List.mem_of_getElem? (i := 3) rfl))) (mvT hZ (hw _ (List.mem_of_getElem? (i := 4) rfl))) (mvT hZ (hw _ (List.mem_of_getElem? (i := 5) rfl))) (by decide) (backOf (W := 0) (rm1 l Z aw hw [] x5 x7  h n0 SZ0 I31 J31) hZ (hw _ (List.mem_of_getElem? (i := 5) rfl)) (hw _ (List.mem_of_getElem? (i := 4) rfl)) (by decide) (by decide)) (g := (mkF m 35 #[.val (.long q0), .second, .val (.int p1), .val (.long q2), .second, .val (.long x5), .second, .val (.int x7), .unset] [(.int x7), (.long x5)])) rfl (by rw [hml]; rfl) (argsL := [(.long x5), (.int x7)]) (rest := []) (lenOf own_pd3 rfl) rfl (by show 2 * 0 + _ ≤ _; exact Nat.le_of_eq rfl) (hb hby at_35) (fun _ _ => ⟨rfl, e0, (by decide : 0 + 1 ≤ _), (by decide : 0 + 3 ≤ _)⟩)
  dsimp only [Pt.U, Pt.locs, Pt.cells, Pt.slots] at X1' l1 y1 z1 st' hQ1
  subst l1 y1 z1
  obtain ⟨rfl, NFq1, KPq1, fe1_new, ff1_new_bits, ff1_new_hashes, ff1_new_reciprocal⟩ := hQ1
  have X1 : Stand p l e room_1 s m #[(.long q0), (.int p1), (.long q2)] below meth c T1 _ 1 3 := X1'
  have NF1 := Fr.app NF0 NFq1
  have SZ1 : n0 ≤ T1.heap.size := Nat.le_trans SZ0 KPq1.1
  obtain ⟨b1, g1⟩ : ∃ z, z = h.size := ⟨_, rfl⟩
  simp only [R1, ← g1] at fe1_new st' ff1_new_bits ff1_new_hashes ff1_new_reciprocal
  have g_b1 : n0 ≤ b1 := Nat.le_trans SZ0 (Nat.le_of_eq g1.symm)
  refine own_pre (F' := T1.setTop (mkF m 38 #[.val (.long q0), .second, .val (.int p1), .val (.long q2), .second, .val (.long x5), .second, .val (.int x7), .unset] [(.ref b1)])) (fun t k => st' t k) ?_
  refine own_pre (F' := T1.setTop (mkF m 40 #[.val (.long q0), .second, .val (.int p1), .val (.long q2), .second, .val (.long x5), .second, .val (.int x7), .val (.ref b1)] [])) (fun _ k => XS.astore X1.here hx rfl (hb hby at_38) rfl rfl (l' := #[.val (.long q0), .second, .val (.int p1), .val (.long q2), .second, .val (.long x5), .second, .val (.int x7), .val (.ref b1)]) rfl k) ?_
  refine own_pre (F' := T1.setTop (mkF m 42 #[.val (.long q0), .second, .val (.int p1), .val (.long q2), .second, .val (.long x5), .second, .val (.int x7), .val (.ref b1)] [(.ref b1)])) (fun _ k => XS.aload X1.here hx rfl (hb hby at_40) rfl rfl k) ?_
  obtain ⟨cq2, kq2, qa2, qb2, qc2⟩ := isOf hZ (rfl : T1.heap = T1.heap) fe1_new
  obtain ⟨_, _, ⟨T2, L2, k2, n2⟩, -, X2', ⟨Lc2, hQ2, l2, y2, z2⟩, st'⟩ := X1.virtualBack hx (y := (⟨"com/example/probable_set/probableset/sizing/Shape", "bits", "()J"⟩ : MethodName)) (z := (⟨"com/example/probable_set/probableset/sizing/Shape", "bits", "()J"⟩ : MethodName)) hown (mvT hZ (hw _ (List.mem_of_getElem? (i := 21) rfl))) (mvT hZ (hw _ (List.mem_of_getElem? (i := 22) rfl))) (notFace_of_selects (args := #[]) (mvT hZ (hw _ (List.mem_of_getElem? (i := 24) rfl)))) (mvT hZ (hw _ (List.mem_of_getElem? (i := 24) rfl))) (mvT hZ (hw _ (List.mem_of_getElem? (i := 23) rfl))) (by decide) (backOf (W := 0) (rm4 l Z aw hw [] (f1_0 x5 x7).1 (f1_0 x5 x7).2.1 (f1_0 x5 x7).2.2 b1 T1.heap n0 SZ1 fe1_new ff1_new_bits ff1_new_hashes ff1_new_reciprocal) hZ (hw _ (List.mem_of_getElem? (i := 25) rfl)) (hw _ (List.mem_of_getElem? (i := 4) rfl)) (by decide) (by decide)) qa2 qc2 (g := (mkF m 42 #[.val (.long q0), .second, .val (.int p1), .val (.long q2), .second, .val (.long x5), .second, .val (.int x7), .val (.ref b1)] [(.ref b1)])) rfl (by rw [hml]; rfl) (Steps.refl _) (argsL := []) (rest := []) (lenOf own_pd4 rfl) rfl (by show 2 * 0 + _ ≤ _; exact Nat.le_of_eq rfl) (hb hby at_42) (fun _ _ => ⟨rfl, (rfl : T1.heap = T1.heap), (by decide : 1 + 0 ≤ _), (by decide : 3 + 0 ≤ _)⟩)
  dsimp only [Pt.U, Pt.locs, Pt.cells, Pt.slots] at X2' l2 y2 z2 st' hQ2
  subst l2 y2 z2
  obtain ⟨rfl, NFq2, KPq2⟩ := hQ2
  have X2 : Stand p l e room_1 s m #[(.long q0), (.int p1), (.long q2)] below meth c T2 _ 1 3 := X2'
  have NF2 := Fr.app NF1 NFq2
  have SZ2 : n0 ≤ T2.heap.size := Nat.le_trans SZ1 KPq2.1
  have f3 := fe1_new.keep KPq2
  have f4 := ff1_new_bits.keep KPq2 nin0
  have f5 := ff1_new_hashes.keep KPq2 nin0
  have f6 := ff1_new_reciprocal.keep KPq2 nin0
  refine own_pre (F' := T2.setTop (mkF m 45 #[.val (.long q0), .second, .val (.int p1), .val (.long q2), .second, .val (.long x5), .second, .val (.int x7), .val (.ref b1)] [(.long (f4_0 (f1_0 x5 x7).1 (f1_0 x5 x7).2.1 (f1_0 x5 x7).2.2))])) (fun t k => st'.trans k) ?_
  refine own_pre (F' := T2.setTop (mkF m 47 #[.val (.long q0), .second, .val (.int p1), .val (.long q2), .second, .val (.long x5), .second, .val (.int x7), .val (.ref b1)] [(.long x5), (.long (f4_0 (f1_0 x5 x7).1 (f1_0 x5 x7).2.1 (f1_0 x5 x7).2.2))])) (fun _ k => XS.lload X2.here hx rfl (hb hby at_45) rfl k) ?_
  refine own_pre (F' := T2.setTop (mkF m 48 #[.val (.long q0), .second, .val (.int p1), .val (.long q2), .second, .val (.long x5), .second, .val (.int x7), .val (.ref b1)] [(.int (lcmpW (f4_0 (f1_0 x5 x7).1 (f1_0 x5 x7).2.1 (f1_0 x5 x7).2.2) x5))])) (fun _ k => XS.lcmp X2.here hx rfl (hb hby at_47) rfl k) ?_
  refine own_iteT R0 (K0 Z  h0 n0) (fun hc48 => ?_) (fun hc48 => ?_)
  · skip
    refine own_pre (F' := T2.setTop (mkF m 51 #[.val (.long q0), .second, .val (.int p1), .val (.long q2), .second, .val (.long x5), .second, .val (.int x7), .val (.ref b1)] [])) (fun _ k => XS.ifNo X2.here hx rfl (hb hby at_48) rfl ((if0 _ _).trans (teq ((lw_eq _ _).mpr hc48)).2) k) ?_
    refine own_pre (F' := T2.setTop (mkF m 53 #[.val (.long q0), .second, .val (.int p1), .val (.long q2), .second, .val (.long x5), .second, .val (.int x7), .val (.ref b1)] [(.ref b1)])) (fun _ k => XS.aload X2.here hx rfl (hb hby at_51) rfl rfl k) ?_
    obtain ⟨cq7, kq7, qa7, qb7, qc7⟩ := isOf hZ (rfl : T2.heap = T2.heap) f3
    obtain ⟨_, _, ⟨T7, L7, k7, n7⟩, -, X7', ⟨Lc7, hQ7, l7, y7, z7⟩, st'⟩ := X2.virtualBack hx (y := (⟨"com/example/probable_set/probableset/sizing/Shape", "hashes", "()I"⟩ : MethodName)) (z := (⟨"com/example/probable_set/probableset/sizing/Shape", "hashes", "()I"⟩ : MethodName)) hown (mvT hZ (hw _ (List.mem_of_getElem? (i := 26) rfl))) (mvT hZ (hw _ (List.mem_of_getElem? (i := 27) rfl))) (notFace_of_selects (args := #[]) (mvT hZ (hw _ (List.mem_of_getElem? (i := 29) rfl)))) (mvT hZ (hw _ (List.mem_of_getElem? (i := 29) rfl))) (mvT hZ (hw _ (List.mem_of_getElem? (i := 28) rfl))) (by decide) (backOf (W := 0) (rm5 l Z aw hw [] (f1_0 x5 x7).1 (f1_0 x5 x7).2.1 (f1_0 x5 x7).2.2 b1 T2.heap n0 SZ2 f3 f4 f5 f6) hZ (hw _ (List.mem_of_getElem? (i := 30) rfl)) (hw _ (List.mem_of_getElem? (i := 4) rfl)) (by decide) (by decide)) qa7 qc7 (g := (mkF m 53 #[.val (.long q0), .second, .val (.int p1), .val (.long q2), .second, .val (.long x5), .second, .val (.int x7), .val (.ref b1)] [(.ref b1)])) rfl (by rw [hml]; rfl) (Steps.refl _) (argsL := []) (rest := []) (lenOf own_pd5 rfl) rfl (by show 2 * 0 + _ ≤ _; exact Nat.le_of_eq rfl) (hb hby at_53) (fun _ _ => ⟨rfl, (rfl : T2.heap = T2.heap), (by decide : 1 + 0 ≤ _), (by decide : 3 + 0 ≤ _)⟩)
    dsimp only [Pt.U, Pt.locs, Pt.cells, Pt.slots] at X7' l7 y7 z7 st' hQ7
    subst l7 y7 z7
    obtain ⟨rfl, NFq7, KPq7⟩ := hQ7
    have X7 : Stand p l e room_1 s m #[(.long q0), (.int p1), (.long q2)] below meth c T7 _ 1 3 := X7'
    have NF7 := Fr.app NF2 NFq7
    have SZ7 : n0 ≤ T7.heap.size := Nat.le_trans SZ2 KPq7.1
    have f8 := f3.keep KPq7
    have f9 := f4.keep KPq7 nin0
    have f10 := f5.keep KPq7 nin0
    have f11 := f6.keep KPq7 nin0
    refine own_pre (F' := T7.setTop (mkF m 56 #[.val (.long q0), .second, .val (.int p1), .val (.long q2), .second, .val (.long x5), .second, .val (.int x7), .val (.ref b1)] [(.int (f5_0 (f1_0 x5 x7).1 (f1_0 x5 x7).2.1 (f1_0 x5 x7).2.2))])) (fun t k => st'.trans k) ?_
    refine own_pre (F' := T7.setTop (mkF m 58 #[.val (.long q0), .second, .val (.int p1), .val (.long q2), .second, .val (.long x5), .second, .val (.int x7), .val (.ref b1)] [(.int x7), (.int (f5_0 (f1_0 x5 x7).1 (f1_0 x5 x7).2.1 (f1_0 x5 x7).2.2))])) (fun _ k => XS.iload X7.here hx rfl (hb hby at_56) rfl k) ?_
    refine own_iteT R0 (K0 Z  h0 n0) (fun hc58 => ?_) (fun hc58 => ?_)
    · skip
      refine own_pre (F' := T7.setTop (mkF m 61 #[.val (.long q0), .second, .val (.int p1), .val (.long q2), .second, .val (.long x5), .second, .val (.int x7), .val (.ref b1)] [])) (fun _ k => XS.icmpNo X7.here hx rfl (hb hby at_58) rfl (teq hc58).2 k) ?_
      refine own_pre (F' := T7.setTop (mkF m 63 #[.val (.long q0), .second, .val (.int p1), .val (.long q2), .second, .val (.long x5), .second, .val (.int x7), .val (.ref b1)] [(.ref b1)])) (fun _ k => XS.aload X7.here hx rfl (hb hby at_61) rfl rfl k) ?_
      refine own_pre (F' := T7.setTop (mkF m 64 #[.val (.long q0), .second, .val (.int p1), .val (.long q2), .second, .val (.long x5), .second, .val (.int x7), .val (.ref b1)] [(.long q2), (.ref b1)])) (fun _ k => XS.lloadN X7.here hx rfl (hb hby at_63) rfl k) ?_
      obtain ⟨cq12, kq12, qa12, qb12, qc12⟩ := isOf hZ (rfl : T7.heap = T7.heap) f8
      obtain ⟨_, _, ⟨T12, L12, k12, n12⟩, -, X12', ⟨Lc12, hQ12, l12, y12, z12⟩, st'⟩ := X7.virtualBack hx (y := (⟨"com/example/probable_set/probableset/sizing/Shape", "reduce", "(J)J"⟩ : MethodName)) (z := (⟨"com/example/probable_set/probableset/sizing/Shape", "reduce", "(J)J"⟩ : MethodName)) hown (mvT hZ (hw _ (List.mem_of_getElem? (i := 31) rfl))) (mvT hZ (hw _ (List.mem_of_getElem? (i := 32) rfl))) (notFace_of_selects (args := #[]) (mvT hZ (hw _ (List.mem_of_getElem? (i := 34) rfl)))) (mvT hZ (hw _ (List.mem_of_getElem? (i := 34) rfl))) (mvT hZ (hw _ (List.mem_of_getElem? (i := 33) rfl))) (by decide) (backOf (W := 0) (rm6 l Z aw hw [] q2 (f1_0 x5 x7).1 (f1_0 x5 x7).2.1 (f1_0 x5 x7).2.2 b1 T7.heap n0 SZ7 f8 f9 f10 f11 (own_p4 I31)) hZ (hw _ (List.mem_of_getElem? (i := 35) rfl)) (hw _ (List.mem_of_getElem? (i := 4) rfl)) (by decide) (by decide)) qa12 qc12 (g := (mkF m 64 #[.val (.long q0), .second, .val (.int p1), .val (.long q2), .second, .val (.long x5), .second, .val (.int x7), .val (.ref b1)] [(.long q2), (.ref b1)])) rfl (by rw [hml]; rfl) (Steps.refl _) (argsL := [(.long q2)]) (rest := []) (lenOf own_pd1 rfl) rfl (by show 2 * 0 + _ ≤ _; exact Nat.le_of_eq rfl) (hb hby at_64) (fun _ _ => ⟨rfl, (rfl : T7.heap = T7.heap), (by decide : 1 + 0 ≤ _), (by decide : 3 + 0 ≤ _)⟩)
      dsimp only [Pt.U, Pt.locs, Pt.cells, Pt.slots] at X12' l12 y12 z12 st' hQ12
      subst l12 y12 z12
      obtain ⟨rfl, NFq12, KPq12⟩ := hQ12
      have X12 : Stand p l e room_1 s m #[(.long q0), (.int p1), (.long q2)] below meth c T12 _ 1 3 := X12'
      have NF12 := Fr.app NF7 NFq12
      have SZ12 : n0 ≤ T12.heap.size := Nat.le_trans SZ7 KPq12.1
      have f13 := f8.keep KPq12
      have f14 := f9.keep KPq12 nin0
      have f15 := f10.keep KPq12 nin0
      have f16 := f11.keep KPq12 nin0
      refine own_pre (F' := T12.setTop (mkF m 67 #[.val (.long q0), .second, .val (.int p1), .val (.long q2), .second, .val (.long x5), .second, .val (.int x7), .val (.ref b1)] [(.long (f6_0 q2 (f1_0 x5 x7).1 (f1_0 x5 x7).2.1 (f1_0 x5 x7).2.2))])) (fun t k => st'.trans k) ?_
      refine own_pre (F' := T12.setTop (mkF m 68 #[.val (.long q0), .second, .val (.int p1), .val (.long q2), .second, .val (.long x5), .second, .val (.int x7), .val (.ref b1)] [(.long q2), (.long (f6_0 q2 (f1_0 x5 x7).1 (f1_0 x5 x7).2.1 (f1_0 x5 x7).2.2))])) (fun _ k => XS.lloadN X12.here hx rfl (hb hby at_67) rfl k) ?_
      refine own_pre (F' := T12.setTop (mkF m 70 #[.val (.long q0), .second, .val (.int p1), .val (.long q2), .second, .val (.long x5), .second, .val (.int x7), .val (.ref b1)] [(.long x5), (.long q2), (.long (f6_0 q2 (f1_0 x5 x7).1 (f1_0 x5 x7).2.1 (f1_0 x5 x7).2.2))])) (fun _ k => XS.lload X12.here hx rfl (hb hby at_68) rfl k) ?_
      obtain ⟨_, _, ⟨T17, L17, k17, n17⟩, -, X17', ⟨Lc17, hQ17, l17, y17, z17⟩, st'⟩ := Jvm.LawKit.callS X12 hx (y := (⟨"com/example/probable_set/probableset/sizing/ShapeOfPinLaw", "unsignedRem", "(JJ)J"⟩ : MethodName)) hown (mvT hZ (hw _ (List.mem_of_getElem? (i := 41) rfl))) (mvT hZ (hw _ (List.mem_of_getElem? (i := 42) rfl))) (mvT hZ (hw _ (List.mem_of_getElem? (i := 43) rfl))) (mvT hZ (hw _ (List.mem_of_getElem? (i := 44) rfl))) (by decide) (backOf (W := 2) (rm8 l Z aw hw [] q2 x5 T12.heap (own_p3 I31)) hZ (hw _ (List.mem_of_getElem? (i := 44) rfl)) (hw _ (List.mem_of_getElem? (i := 43) rfl)) (by decide) (by decide)) (g := (mkF m 70 #[.val (.long q0), .second, .val (.int p1), .val (.long q2), .second, .val (.long x5), .second, .val (.int x7), .val (.ref b1)] [(.long x5), (.long q2), (.long (f6_0 q2 (f1_0 x5 x7).1 (f1_0 x5 x7).2.1 (f1_0 x5 x7).2.2))])) rfl (by rw [hml]; rfl) (argsL := [(.long q2), (.long x5)]) (rest := [(.long (f6_0 q2 (f1_0 x5 x7).1 (f1_0 x5 x7).2.1 (f1_0 x5 x7).2.2))]) (lenOf own_pd0 rfl) rfl (by show 2 * 0 + _ ≤ _; exact Nat.le_of_eq rfl) (hb hby at_70) (fun _ _ => ⟨rfl, (rfl : T12.heap = T12.heap), (by decide : 1 + 0 ≤ _), (by decide : 3 + 0 ≤ _)⟩)
      dsimp only [Pt.U, Pt.locs, Pt.cells, Pt.slots] at X17' l17 y17 z17 st' hQ17
      subst l17 y17 z17
      obtain ⟨rfl, rfl, e17⟩ := hQ17
      have X17 : Stand p l e room_1 s m #[(.long q0), (.int p1), (.long q2)] below meth c T17 _ 1 3 := (List.append_nil _) ▸ X17'
      refine own_pre (F' := T17.setTop (mkF m 73 #[.val (.long q0), .second, .val (.int p1), .val (.long q2), .second, .val (.long x5), .second, .val (.int x7), .val (.ref b1)] [(.long (f8_0 q2 x5)), (.long (f6_0 q2 (f1_0 x5 x7).1 (f1_0 x5 x7).2.1 (f1_0 x5 x7).2.2))])) (fun t k => st' t k) ?_
      refine own_pre (F' := T17.setTop (mkF m 74 #[.val (.long q0), .second, .val (.int p1), .val (.long q2), .second, .val (.long x5), .second, .val (.int x7), .val (.ref b1)] [(.int (lcmpW (f6_0 q2 (f1_0 x5 x7).1 (f1_0 x5 x7).2.1 (f1_0 x5 x7).2.2) (f8_0 q2 x5)))])) (fun _ k => XS.lcmp X17.here hx rfl (hb hby at_73) rfl k) ?_
      refine own_iteT R0 (K0 Z  h0 n0) (fun hc74 => ?_) (fun hc74 => ?_)
      · skip
        refine own_pre (F' := T17.setTop (mkF m 77 #[.val (.long q0), .second, .val (.int p1), .val (.long q2), .second, .val (.long x5), .second, .val (.int x7), .val (.ref b1)] [])) (fun _ k => XS.ifNo X17.here hx rfl (hb hby at_74) rfl ((if0 _ _).trans (teq ((lw_eq _ _).mpr hc74)).2) k) ?_
        refine own_pre (F' := T17.setTop (mkF m 78 #[.val (.long q0), .second, .val (.int p1), .val (.long q2), .second, .val (.long x5), .second, .val (.int x7), .val (.ref b1)] [(.int (1 : Int32))])) (fun _ k => XS.iconst X17.here hx rfl (hb hby at_77) k) ?_
        refine own_pre (F' := T17.setTop (mkF m 82 #[.val (.long q0), .second, .val (.int p1), .val (.long q2), .second, .val (.long x5), .second, .val (.int x7), .val (.ref b1)] [(.int (1 : Int32))])) (fun _ k => XS.goto X17.here hx rfl (pc0 := 78) (pc' := 82) rfl (hb hby at_78) (by decide) (by decide) k) ?_
        exact own_ret X17 hx Bd.notSynchronized Bd.returns rfl (Or.inl ⟨rfl, by simp, _, rfl⟩) (hb hby at_82) (by rw [e17]; exact NF12) (by decide) (by decide)
      · skip
        refine own_pre (F' := T17.setTop (mkF m 81 #[.val (.long q0), .second, .val (.int p1), .val (.long q2), .second, .val (.long x5), .second, .val (.int x7), .val (.ref b1)] [])) (fun _ k => XS.ifYes X17.here hx rfl (pc0 := 74) (pc' := 81) rfl (hb hby at_74) rfl ((if0 _ _).trans (feq (fun q => hc74 ((lw_eq _ _).mp q))).2) (by decide) (by decide) k) ?_
        exact g0_81 hw q0 p1 q2  x5 x7 b1 Bd hml hZ T17 X17 e17 SZ12 NF12
    · skip
      refine own_pre (F' := T7.setTop (mkF m 81 #[.val (.long q0), .second, .val (.int p1), .val (.long q2), .second, .val (.long x5), .second, .val (.int x7), .val (.ref b1)] [])) (fun _ k => XS.icmpYes X7.here hx rfl (pc0 := 58) (pc' := 81) rfl (hb hby at_58) rfl (feq hc58).2 (by decide) (by decide) k) ?_
      exact g0_81 hw q0 p1 q2  x5 x7 b1 Bd hml hZ T7 X7 (rfl : T7.heap = T7.heap) SZ7 NF7
  · skip
    refine own_pre (F' := T2.setTop (mkF m 81 #[.val (.long q0), .second, .val (.int p1), .val (.long q2), .second, .val (.long x5), .second, .val (.int x7), .val (.ref b1)] [])) (fun _ k => XS.ifYes X2.here hx rfl (pc0 := 48) (pc' := 81) rfl (hb hby at_48) rfl ((if0 _ _).trans (feq (fun q => hc48 ((lw_eq _ _).mp q))).2) (by decide) (by decide) k) ?_
    exact g0_81 hw q0 p1 q2  x5 x7 b1 Bd hml hZ T2 X2 (rfl : T2.heap = T2.heap) SZ2 NF2
def f0_17 (q0 : Int64) (p1 : Int32) (q2 : Int64) (x5 : Int64) : Int32 := (if (p1 &&& (2147483647 : Int32)) = (0 : Int32) then (f0_31 q0 p1 q2 x5 (1 : Int32)) else (f0_31 q0 p1 q2 x5 (p1 &&& (2147483647 : Int32))))
set_option maxRecDepth 65536 in
set_option maxHeartbeats 40000000 in
theorem g0_17 {p : Program} {l : Launch} {e : Env} {s : State} {m : MethodId} {below : List Frame} {meth : Method} {c : Code} {s₁ : State} {ws : List Jvm.Cond} {Z : State} {aw : Array Value} (hw : ∀ d ∈ tables_1, d.before aw Z = true) {h0 : Heap} {n0 : Nat} (q0 : Int64) (p1 : Int32) (q2 : Int64)  (x5 : Int64) (I17 : ¬ (x5 < (1 : Int64)))
    (Bd : BodyLoose p l x (head1 (Jvm.Cond.code x code maxLocals ret :: ws) room_1) code maxLocals ret e s m #[(.long q0), (.int p1), (.long q2)] below meth c s₁) (hml : c.maxLocals = 9) (hZ : Z.Warmed39 s.vm) (T0 : State) {locs : List Loc} (X0 : Stand p l e room_1 s m #[(.long q0), (.int p1), (.long q2)] below meth c T0 locs 0 0) {h : Heap} (e0 : T0.heap = h) (SZ0 : n0 ≤ h.size) (NF0 : Fr n0 locs) :
    own_Go p e below s room_1.cells room_1.slots (R0 (f0_17 q0 p1 q2 x5)) (K0 Z  h0 n0 (f0_17 q0 p1 q2 x5)) (T0.setTop (mkF m 17 #[.val (.long q0), .second, .val (.int p1), .val (.long q2), .second, .val (.long x5), .second, .unset, .unset] [])) := by
  have hx := Bd.exec
  have hby := Bd.bytes
  have hown : s.vm.findClass "com/example/probable_set/probableset/sizing/ShapeOfPinLaw" = some m.cls := findClass_of_methodNamed Bd.named
  have hnm := (name_of_methodNamed Bd.named Bd.method).1
  unfold f0_17
  refine own_pre (F' := T0.setTop (mkF m 18 #[.val (.long q0), .second, .val (.int p1), .val (.long q2), .second, .val (.long x5), .second, .unset, .unset] [(.int p1)])) (fun _ k => XS.iloadN X0.here hx rfl (hb hby at_17) rfl k) ?_
  refine own_pre (F' := T0.setTop (mkF m 20 #[.val (.long q0), .second, .val (.int p1), .val (.long q2), .second, .val (.long x5), .second, .unset, .unset] [(.int (2147483647 : Int32)), (.int p1)])) (fun _ k => X0.ldcInt hx hown (mvT hZ (hw _ (List.mem_of_getElem? (i := 1) rfl))) (g := (mkF m 18 #[.val (.long q0), .second, .val (.int p1), .val (.long q2), .second, .val (.long x5), .second, .unset, .unset] [(.int p1)])) rfl (hb hby at_18) _ k) ?_
  refine own_pre (F' := T0.setTop (mkF m 21 #[.val (.long q0), .second, .val (.int p1), .val (.long q2), .second, .val (.long x5), .second, .unset, .unset] [(.int (p1 &&& (2147483647 : Int32)))])) (fun _ k => XS.iand X0.here hx rfl (hb hby at_20) rfl k) ?_
  refine own_pre (F' := T0.setTop (mkF m 23 #[.val (.long q0), .second, .val (.int p1), .val (.long q2), .second, .val (.long x5), .second, .val (.int (p1 &&& (2147483647 : Int32))), .unset] [])) (fun _ k => XS.istore X0.here hx rfl (hb hby at_21) rfl (l' := #[.val (.long q0), .second, .val (.int p1), .val (.long q2), .second, .val (.long x5), .second, .val (.int (p1 &&& (2147483647 : Int32))), .unset]) rfl k) ?_
  refine own_pre (F' := T0.setTop (mkF m 25 #[.val (.long q0), .second, .val (.int p1), .val (.long q2), .second, .val (.long x5), .second, .val (.int (p1 &&& (2147483647 : Int32))), .unset] [(.int (p1 &&& (2147483647 : Int32)))])) (fun _ k => XS.iload X0.here hx rfl (hb hby at_23) rfl k) ?_
  refine own_iteT R0 (K0 Z  h0 n0) (fun hc25 => ?_) (fun hc25 => ?_)
  · skip
    refine own_pre (F' := T0.setTop (mkF m 28 #[.val (.long q0), .second, .val (.int p1), .val (.long q2), .second, .val (.long x5), .second, .val (.int (p1 &&& (2147483647 : Int32))), .unset] [])) (fun _ k => XS.ifNo X0.here hx rfl (hb hby at_25) rfl ((if0 _ _).trans (teq hc25).2) k) ?_
    refine own_pre (F' := T0.setTop (mkF m 29 #[.val (.long q0), .second, .val (.int p1), .val (.long q2), .second, .val (.long x5), .second, .val (.int (p1 &&& (2147483647 : Int32))), .unset] [(.int (1 : Int32))])) (fun _ k => XS.iconst X0.here hx rfl (hb hby at_28) k) ?_
    refine own_pre (F' := T0.setTop (mkF m 31 #[.val (.long q0), .second, .val (.int p1), .val (.long q2), .second, .val (.long x5), .second, .val (.int (1 : Int32)), .unset] [])) (fun _ k => XS.istore X0.here hx rfl (hb hby at_29) rfl (l' := #[.val (.long q0), .second, .val (.int p1), .val (.long q2), .second, .val (.long x5), .second, .val (.int (1 : Int32)), .unset]) rfl k) ?_
    exact g0_31 hw q0 p1 q2  x5 (1 : Int32) I17 (by first | decide | exact own_p2 hc25) Bd hml hZ T0 X0 e0 SZ0 NF0
  · skip
    refine own_pre (F' := T0.setTop (mkF m 31 #[.val (.long q0), .second, .val (.int p1), .val (.long q2), .second, .val (.long x5), .second, .val (.int (p1 &&& (2147483647 : Int32))), .unset] [])) (fun _ k => XS.ifYes X0.here hx rfl (pc0 := 25) (pc' := 31) rfl (hb hby at_25) rfl ((if0 _ _).trans (feq hc25).2) (by decide) (by decide) k) ?_
    exact g0_31 hw q0 p1 q2  x5 (p1 &&& (2147483647 : Int32)) I17 (by first | decide | exact own_p2 hc25) Bd hml hZ T0 X0 e0 SZ0 NF0
def f0_0 (q0 : Int64) (p1 : Int32) (q2 : Int64) : Int32 := (if (q0 &&& (9223372036854775807 : Int64)) = (0 : Int64) then (f0_17 q0 p1 q2 (1 : Int64)) else (f0_17 q0 p1 q2 (q0 &&& (9223372036854775807 : Int64))))
set_option maxRecDepth 65536 in
set_option maxHeartbeats 40000000 in
theorem g0_0 {p : Program} {l : Launch} {e : Env} {s : State} {m : MethodId} {below : List Frame} {meth : Method} {c : Code} {s₁ : State} {ws : List Jvm.Cond} {Z : State} {aw : Array Value} (hw : ∀ d ∈ tables_1, d.before aw Z = true) {h0 : Heap} {n0 : Nat} (q0 : Int64) (p1 : Int32) (q2 : Int64) 
    (Bd : BodyLoose p l x (head1 (Jvm.Cond.code x code maxLocals ret :: ws) room_1) code maxLocals ret e s m #[(.long q0), (.int p1), (.long q2)] below meth c s₁) (hml : c.maxLocals = 9) (hZ : Z.Warmed39 s.vm) (T0 : State) {locs : List Loc} (X0 : Stand p l e room_1 s m #[(.long q0), (.int p1), (.long q2)] below meth c T0 locs 0 0) (e0 : T0.heap = h0) (SZ0 : n0 ≤ h0.size) (NF0 : Fr n0 locs) :
    own_Go p e below s room_1.cells room_1.slots (R0 (f0_0 q0 p1 q2)) (K0 Z  h0 n0 (f0_0 q0 p1 q2)) (T0.setTop (mkF m 0 #[.val (.long q0), .second, .val (.int p1), .val (.long q2), .second, .unset, .unset, .unset, .unset] [])) := by
  have hx := Bd.exec
  have hby := Bd.bytes
  have hown : s.vm.findClass "com/example/probable_set/probableset/sizing/ShapeOfPinLaw" = some m.cls := findClass_of_methodNamed Bd.named
  have hnm := (name_of_methodNamed Bd.named Bd.method).1
  unfold f0_0
  refine own_pre (F' := T0.setTop (mkF m 1 #[.val (.long q0), .second, .val (.int p1), .val (.long q2), .second, .unset, .unset, .unset, .unset] [(.long q0)])) (fun _ k => XS.lloadN X0.here hx rfl (hb hby at_0) rfl k) ?_
  refine own_pre (F' := T0.setTop (mkF m 4 #[.val (.long q0), .second, .val (.int p1), .val (.long q2), .second, .unset, .unset, .unset, .unset] [(.long (9223372036854775807 : Int64)), (.long q0)])) (fun _ k => X0.ldc2Long hx hown (mvT hZ (hw _ (List.mem_of_getElem? (i := 0) rfl))) (g := (mkF m 1 #[.val (.long q0), .second, .val (.int p1), .val (.long q2), .second, .unset, .unset, .unset, .unset] [(.long q0)])) rfl (hb hby at_1) _ k) ?_
  refine own_pre (F' := T0.setTop (mkF m 5 #[.val (.long q0), .second, .val (.int p1), .val (.long q2), .second, .unset, .unset, .unset, .unset] [(.long (q0 &&& (9223372036854775807 : Int64)))])) (fun _ k => XS.land X0.here hx rfl (hb hby at_4) rfl k) ?_
  refine own_pre (F' := T0.setTop (mkF m 7 #[.val (.long q0), .second, .val (.int p1), .val (.long q2), .second, .val (.long (q0 &&& (9223372036854775807 : Int64))), .second, .unset, .unset] [])) (fun _ k => XS.lstore X0.here hx rfl (hb hby at_5) rfl (l' := #[.val (.long q0), .second, .val (.int p1), .val (.long q2), .second, .val (.long (q0 &&& (9223372036854775807 : Int64))), .second, .unset, .unset]) rfl k) ?_
  refine own_pre (F' := T0.setTop (mkF m 9 #[.val (.long q0), .second, .val (.int p1), .val (.long q2), .second, .val (.long (q0 &&& (9223372036854775807 : Int64))), .second, .unset, .unset] [(.long (q0 &&& (9223372036854775807 : Int64)))])) (fun _ k => XS.lload X0.here hx rfl (hb hby at_7) rfl k) ?_
  refine own_pre (F' := T0.setTop (mkF m 10 #[.val (.long q0), .second, .val (.int p1), .val (.long q2), .second, .val (.long (q0 &&& (9223372036854775807 : Int64))), .second, .unset, .unset] [(.long (0 : Int64)), (.long (q0 &&& (9223372036854775807 : Int64)))])) (fun _ k => XS.lconst X0.here hx rfl (hb hby at_9) k) ?_
  refine own_pre (F' := T0.setTop (mkF m 11 #[.val (.long q0), .second, .val (.int p1), .val (.long q2), .second, .val (.long (q0 &&& (9223372036854775807 : Int64))), .second, .unset, .unset] [(.int (lcmpW (q0 &&& (9223372036854775807 : Int64)) (0 : Int64)))])) (fun _ k => XS.lcmp X0.here hx rfl (hb hby at_10) rfl k) ?_
  refine own_iteT R0 (K0 Z  h0 n0) (fun hc11 => ?_) (fun hc11 => ?_)
  · skip
    refine own_pre (F' := T0.setTop (mkF m 14 #[.val (.long q0), .second, .val (.int p1), .val (.long q2), .second, .val (.long (q0 &&& (9223372036854775807 : Int64))), .second, .unset, .unset] [])) (fun _ k => XS.ifNo X0.here hx rfl (hb hby at_11) rfl ((if0 _ _).trans (teq ((lw_eq _ _).mpr hc11)).2) k) ?_
    refine own_pre (F' := T0.setTop (mkF m 15 #[.val (.long q0), .second, .val (.int p1), .val (.long q2), .second, .val (.long (q0 &&& (9223372036854775807 : Int64))), .second, .unset, .unset] [(.long (1 : Int64))])) (fun _ k => XS.lconst X0.here hx rfl (hb hby at_14) k) ?_
    refine own_pre (F' := T0.setTop (mkF m 17 #[.val (.long q0), .second, .val (.int p1), .val (.long q2), .second, .val (.long (1 : Int64)), .second, .unset, .unset] [])) (fun _ k => XS.lstore X0.here hx rfl (hb hby at_15) rfl (l' := #[.val (.long q0), .second, .val (.int p1), .val (.long q2), .second, .val (.long (1 : Int64)), .second, .unset, .unset]) rfl k) ?_
    exact g0_17 hw q0 p1 q2  (1 : Int64) (by first | decide | exact own_p1 hc11) Bd hml hZ T0 X0 e0 SZ0 NF0
  · skip
    refine own_pre (F' := T0.setTop (mkF m 17 #[.val (.long q0), .second, .val (.int p1), .val (.long q2), .second, .val (.long (q0 &&& (9223372036854775807 : Int64))), .second, .unset, .unset] [])) (fun _ k => XS.ifYes X0.here hx rfl (pc0 := 11) (pc' := 17) rfl (hb hby at_11) rfl ((if0 _ _).trans (feq (fun q => hc11 ((lw_eq _ _).mp q))).2) (by decide) (by decide) k) ?_
    exact g0_17 hw q0 p1 q2  (q0 &&& (9223372036854775807 : Int64)) (by first | decide | exact own_p1 hc11) Bd hml hZ T0 X0 e0 SZ0 NF0
theorem ef_0 (m : MethodId) (q0 : Int64) (p1 : Int32) (q2 : Int64) : entryFrame m #[(.long q0), (.int p1), (.long q2)] maxLocals = mkF m 0 #[.val (.long q0), .second, .val (.int p1), .val (.long q2), .second, .unset, .unset, .unset, .unset] [] := by first | (simp [entryFrame, mkF, argsToLocals, Value.category, maxLocals]; done) | rfl
set_option maxRecDepth 65536 in
set_option maxHeartbeats 40000000 in
theorem rm0 (l : Launch) (Z : State) (aw : Array Value) (hw : ∀ d ∈ tables_1, d.before aw Z = true) (ws : List Jvm.Cond) (q0 : Int64) (p1 : Int32) (q2 : Int64)  (h0 : Heap) (n0 : Nat) (SZ0 : n0 ≤ h0.size) :
    MetFree l x (head1 (Jvm.Cond.code x code maxLocals ret :: ws) room_1) (fun a U => a = #[(.long q0), (.int p1), (.long q2)] ∧ Z.Warmed39 U.vm ∧ U.heap = h0) (fun _ _ _ _ _ => True) (fun _ U o U' => ∃ v L, o = .returned v ∧ own_Q (R0 (f0_0 q0 p1 q2)) (K0 Z  h0 n0 (f0_0 q0 p1 q2)) v U'.heap L ∧ FrameEnd U o U' L room_1.cells room_1.slots) := by
  refine MetFree.of_bodySF (plainFor_of_name own_pn1) hisR ?_
  intro p e s m args below meth c s₁ Bd hml0 hP hK
  obtain ⟨rfl, hZ, hh⟩ := hP
  have hml : c.maxLocals = 9 := hml0
  have e0 : s₁.heap = h0 := by rw [← hh, Bd.state]; rfl
  exact own_pre (fun t k => castTop (ef_0 m q0 p1 q2) k) (g0_0 hw q0 p1 q2  Bd hml hZ s₁ (Stand.of_body Bd) e0 SZ0 (Fr.nil n0))
theorem own_xminL (x : Int64) : (0 ≤ x.toInt → (x ^^^ (-9223372036854775808 : Int64)).toInt = x.toInt - 9223372036854775808) ∧ (x.toInt < 0 → (x ^^^ (-9223372036854775808 : Int64)).toInt = x.toInt + 9223372036854775808) := by
  have h0 : (x ^^^ (-9223372036854775808 : Int64)).toBitVec.toNat = x.toBitVec.toNat ^^^ 9223372036854775808 := by
    show (x.toBitVec ^^^ (-9223372036854775808 : Int64).toBitVec).toNat = _
    rw [BitVec.toNat_xor, show (-9223372036854775808 : Int64).toBitVec.toNat = 9223372036854775808 from by decide]
  have hx := x.toBitVec.isLt
  have hd := Nat.xor_div_two_pow (a := x.toBitVec.toNat) (b := 9223372036854775808) (n := 63)
  have hm := Nat.xor_mod_two_pow (a := x.toBitVec.toNat) (b := 9223372036854775808) (n := 63)
  rw [show 9223372036854775808 / 2 ^ 63 = 1 from rfl] at hd
  rw [show 9223372036854775808 % 2 ^ 63 = 0 from rfl, Nat.xor_zero] at hm
  have hc : x.toBitVec.toNat / 2 ^ 63 = 0 ∨ x.toBitVec.toNat / 2 ^ 63 = 1 := by omega
  show (0 ≤ x.toBitVec.toInt → (x ^^^ (-9223372036854775808 : Int64)).toBitVec.toInt = x.toBitVec.toInt - 9223372036854775808) ∧ (x.toBitVec.toInt < 0 → (x ^^^ (-9223372036854775808 : Int64)).toBitVec.toInt = x.toBitVec.toInt + 9223372036854775808)
  rw [BitVec.toInt_eq_toNat_cond, BitVec.toInt_eq_toNat_cond, h0]
  generalize x.toBitVec.toNat ^^^ 9223372036854775808 = y at *
  generalize x.toBitVec.toNat = n at *
  rcases hc with hc | hc
  · rw [hc, show (0 ^^^ 1 : Nat) = 1 from rfl] at hd
    split <;> split <;> omega
  · rw [hc, show (1 ^^^ 1 : Nat) = 0 from rfl] at hd
    split <;> split <;> omega
/-- the unsigned worth -/
def own_U (x : Int64) : Int := x.toInt % 18446744073709551616
theorem own_Ur (x : Int64) : 0 ≤ own_U x ∧ own_U x < 18446744073709551616 := by unfold own_U; omega
theorem own_Ui (x : Int64) : (own_U x < 9223372036854775808 → x.toInt = own_U x) ∧ (9223372036854775808 ≤ own_U x → x.toInt = own_U x - 18446744073709551616) := by
  have r := rng64 x
  unfold own_U; omega
theorem own_Usub (x y : Int64) : own_U (x - y) = (own_U x - own_U y) % 18446744073709551616 := by
  have h := c_lsub x y
  unfold own_U; omega
theorem own_Uadd (x y : Int64) : own_U (x + y) = (own_U x + own_U y) % 18446744073709551616 := by
  have h := c_ladd x y
  unfold own_U; omega
theorem own_Umul (x y : Int64) : own_U (x * y) = (own_U x * own_U y) % 18446744073709551616 := by
  have h := c_lmul x y
  unfold own_U
  rw [← Int.mul_emod]
  omega
theorem own_Upos {x : Int64} (h : 0 ≤ x.toInt) : own_U x = x.toInt := by
  have r := rng64 x
  unfold own_U; omega
theorem own_half (q : Int64) : ((q.toUInt64 >>> ((1 : Int32) &&& 0x3f).toInt64.toUInt64).toInt64).toInt = own_U q / 2 := by
  have h := c_lushr q 1 1 (by decide) (by decide)
  rw [h]; unfold own_U; omega
theorem own_dbl (d : Int64) (h : 0 ≤ d.toInt) : own_U (d <<< ((1 : Int32) &&& 0x3f).toInt64) = (2 * d.toInt) % 18446744073709551616 := by
  have h := c_lshl d 1 1 (by decide)
  unfold own_U; omega
/-- the first step of both: twice the quotient of the half -/
theorem own_step (q b : Int64) (hb : 1 ≤ b.toInt) : ∃ d r : Int, own_U ((((q.toUInt64 >>> ((1 : Int32) &&& 0x3f).toInt64.toUInt64).toInt64) / b) <<< ((1 : Int32) &&& 0x3f).toInt64) = 2 * d ∧ own_U (q - (((((q.toUInt64 >>> ((1 : Int32) &&& 0x3f).toInt64.toUInt64).toInt64) / b) <<< ((1 : Int32) &&& 0x3f).toInt64) * b)) = r ∧ own_U q = 2 * d * b.toInt + r ∧ 0 ≤ r ∧ r < 2 * b.toInt ∧ 0 ≤ d := by
  have hU := own_Ur q
  have rb := rng64 b
  have nm : b ≠ -1 := by intro z; subst z; revert hb; decide
  have hd := (c_ldiv ((q.toUInt64 >>> ((1 : Int32) &&& 0x3f).toInt64.toUInt64).toInt64) b b.toInt rfl nm).1 (by rw [own_half]; omega)
  rw [own_half] at hd
  have m1 := Int.mul_ediv_add_emod (own_U q / 2) b.toInt
  have m2 := Int.emod_nonneg (own_U q / 2) (show b.toInt ≠ 0 by omega)
  have m3 := Int.emod_lt_of_pos (own_U q / 2) (show 0 < b.toInt by omega)
  have dn : 0 ≤ own_U q / 2 / b.toInt := Int.ediv_nonneg (by omega) (by omega)
  have dl : own_U q / 2 / b.toInt ≤ own_U q / 2 := Int.ediv_le_self _ (by omega)
  have h2 := own_dbl (((q.toUInt64 >>> ((1 : Int32) &&& 0x3f).toInt64.toUInt64).toInt64) / b) (by omega)
  rw [hd] at h2
  generalize (((q.toUInt64 >>> ((1 : Int32) &&& 0x3f).toInt64.toUInt64).toInt64) / b) <<< ((1 : Int32) &&& 0x3f).toInt64 = x at *
  have h2' : own_U x = 2 * (own_U q / 2 / b.toInt) := by omega
  have hs := own_Usub q (x * b)
  rw [own_Umul, h2', own_Upos (show 0 ≤ b.toInt by omega)] at hs
  generalize own_U q / 2 / b.toInt = d at *
  have hm : b.toInt * d = d * b.toInt := Int.mul_comm _ _
  have ha : 2 * d * b.toInt = 2 * (d * b.toInt) := Int.mul_assoc _ _ _
  refine ⟨d, own_U q - 2 * d * b.toInt, h2', ?_, by omega, by omega, by omega, dn⟩
  rw [hs]
  omega
theorem own_sign (x : Int64) : (0 ≤ x.toInt → (x >>> ((63 : Int32) &&& 0x3f).toInt64) = 0) ∧ (x.toInt < 0 → (x >>> ((63 : Int32) &&& 0x3f).toInt64) = -1) := by
  have h := c_lshr x 63 63 (by decide)
  have r := rng64 x
  constructor
  · intro p; apply Int64.toInt_inj.mp; rw [h, show (0 : Int64).toInt = 0 from rfl]; omega
  · intro p; apply Int64.toInt_inj.mp; rw [h, show (-1 : Int64).toInt = -1 from rfl]; omega
theorem own_not (x : Int64) : (x ^^^ (-1 : Int64)).toInt < 0 ↔ 0 ≤ x.toInt := by
  have h := c_xorSL x (-1)
  have e : (-1 : Int64).toInt = -1 := rfl
  rw [e] at h
  omega
theorem own_and0 (x : Int64) : (0 : Int64) &&& x = 0 := by
  apply Int64.toBitVec_inj.mp; show (0 : Int64).toBitVec &&& x.toBitVec = _; rw [show (0 : Int64).toBitVec = 0#64 from rfl]; exact BitVec.zero_and
theorem own_andm (x : Int64) : (-1 : Int64) &&& x = x := by
  apply Int64.toBitVec_inj.mp; show (-1 : Int64).toBitVec &&& x.toBitVec = _; rw [show (-1 : Int64).toBitVec = BitVec.allOnes 64 from by decide]; exact BitVec.allOnes_and
theorem own_rem (q b : Int64) (hb : 1 ≤ b.toInt) : (f7_0 q b).toInt = own_U q % b.toInt := by
  have rb := rng64 b
  obtain ⟨d, r, -, hr, hq, r0, r1, d0⟩ := own_step q b hb
  unfold f7_0
  rw [if_neg (by rw [Int64.lt_iff_toInt_lt, show (0 : Int64).toInt = 0 from rfl]; omega)]
  generalize q - (((((q.toUInt64 >>> ((1 : Int32) &&& 0x3f).toInt64.toUInt64).toInt64) / b) <<< ((1 : Int32) &&& 0x3f).toInt64) * b) = x at *
  have hs := own_Usub x b
  rw [hr, own_Upos (show 0 ≤ b.toInt by omega)] at hs
  have hsi := own_Ui (x - b)
  have hn := own_not (x - b)
  have hg := own_sign ((x - b) ^^^ (-1))
  have e : own_U q % b.toInt = r % b.toInt := by
    rw [hq, show 2 * d * b.toInt + r = r + b.toInt * (2 * d) from by rw [Int.mul_comm b.toInt]; omega]
    exact Int.add_mul_emod_self_left _ _ _
  rw [e]
  by_cases c : r < b.toInt
  · rw [hg.1 (by omega), own_and0, show x - 0 = x from by grind, Int.emod_eq_of_lt r0 c]
    have := own_Ui x; omega
  · rw [hg.2 (by omega), own_andm, show r = r - b.toInt + b.toInt from by omega, Int.add_emod_right, Int.emod_eq_of_lt (by omega) (by omega)]
    omega
theorem own_top (x y : Int64) : (((x ||| y).toUInt64 >>> ((63 : Int32) &&& 0x3f).toInt64.toUInt64).toInt64).toInt = if x.toInt < 0 ∨ y.toInt < 0 then 1 else 0 := by
  rw [c_lushr (x ||| y) 63 63 (by decide) (by decide)]
  have h := c_orSL x y
  have r := rng64 (x ||| y)
  split <;> omega
theorem own_div (q b : Int64) (hb : 1 ≤ b.toInt) : own_U (f10_0 q b) = own_U q / b.toInt := by
  have rb := rng64 b
  have hU := own_Ur q
  obtain ⟨d, r, hx, hr, hq, r0, r1, d0⟩ := own_step q b hb
  unfold f10_0
  rw [if_neg (by rw [Int64.lt_iff_toInt_lt, show (0 : Int64).toInt = 0 from rfl]; omega)]
  generalize q - (((((q.toUInt64 >>> ((1 : Int32) &&& 0x3f).toInt64.toUInt64).toInt64) / b) <<< ((1 : Int32) &&& 0x3f).toInt64) * b) = x at *
  generalize (((q.toUInt64 >>> ((1 : Int32) &&& 0x3f).toInt64.toUInt64).toInt64) / b) <<< ((1 : Int32) &&& 0x3f).toInt64 = y at *
  have hs := own_Usub x b
  rw [hr, own_Upos (show 0 ≤ b.toInt by omega)] at hs
  have hsi := own_Ui (x - b)
  have hxi := own_Ui x
  have hn := own_not (x - b)
  have ht := own_top x ((x - b) ^^^ (-1))
  rw [own_Uadd, hx]
  have e : own_U q / b.toInt = 2 * d + r / b.toInt := by
    rw [hq, show 2 * d * b.toInt + r = r + b.toInt * (2 * d) from by rw [Int.mul_comm b.toInt]; omega, Int.add_mul_ediv_left _ _ (by omega)]
    omega
  have dl : own_U q / b.toInt ≤ own_U q := Int.ediv_le_self _ (by omega)
  rw [e] at dl ⊢
  have hp : ∀ z : Int64, 0 ≤ z.toInt → own_U z = z.toInt := fun z => own_Upos
  by_cases c : r < b.toInt
  · rw [if_neg (by omega)] at ht
    rw [hp _ (by omega), ht, Int.ediv_eq_zero_of_lt r0 c]
    rw [Int.ediv_eq_zero_of_lt r0 c] at dl
    omega
  · rw [if_pos (by omega)] at ht
    have e2 : r / b.toInt = 1 := by
      have q1 : 1 ≤ r / b.toInt := by rw [Int.le_ediv_iff_mul_le (by omega)]; omega
      have q2 : r / b.toInt < 2 := by rw [Int.ediv_lt_iff_lt_mul (by omega)]; omega
      omega
    rw [hp _ (by omega), ht, e2]
    rw [e2] at dl
    omega
theorem own_ur (q b : Int64) (hb : 1 ≤ b.toInt) : (f8_0 q b).toInt = own_U q % b.toInt := by
  have rb := rng64 b
  have rq := rng64 q
  unfold f8_0
  by_cases c0 : q < 0
  · rw [if_pos c0]
    rw [Int64.lt_iff_toInt_lt, show (0 : Int64).toInt = 0 from rfl] at c0
    obtain ⟨d, r, -, hr, hq, r0, r1, d0⟩ := own_step q b hb
    unfold f8_19 f8_27 f8_48
    generalize q - (((((q.toUInt64 >>> ((1 : Int32) &&& 0x3f).toInt64.toUInt64).toInt64) / b) <<< ((1 : Int32) &&& 0x3f).toInt64) * b) = x at *
    have e : own_U q % b.toInt = r % b.toInt := by
      rw [hq, show 2 * d * b.toInt + r = r + b.toInt * (2 * d) from by rw [Int.mul_comm b.toInt]; omega]
      exact Int.add_mul_emod_self_left _ _ _
    have hxi := own_Ui x
    have hb1 := own_Upos (show 0 ≤ b.toInt by omega)
    have xl : (x ^^^ (-9223372036854775808 : Int64)) < (b ^^^ (-9223372036854775808 : Int64)) ↔ r < b.toInt := by
      rw [Int64.lt_iff_toInt_lt]
      have a1 := own_xminL x
      have a2 := own_xminL b
      omega
    rw [e]
    by_cases c : r < b.toInt
    · rw [if_pos (xl.mpr c), Int.emod_eq_of_lt r0 c]; omega
    · rw [if_neg (fun z => c (xl.mp z)), show r = r - b.toInt + b.toInt from by omega, Int.add_emod_right, Int.emod_eq_of_lt (by omega) (by omega)]
      have hs := own_Usub x b
      have hsi := own_Ui (x - b)
      rw [hr, hb1] at hs
      omega
  · rw [if_neg c0]
    rw [Int64.lt_iff_toInt_lt, show (0 : Int64).toInt = 0 from rfl] at c0
    rw [Int64.toInt_mod, own_Upos (by omega), Int.tmod_eq_emod_of_nonneg (by omega)]
theorem own_mulHigh (x y : Int64) (hx : 0 ≤ x.toInt) (hy : 0 ≤ y.toInt) : (f11_0 x y).toInt = x.toInt * y.toInt / 18446744073709551616 := by
  have rx := rng64 x
  have ry := rng64 y
  have a1 := c_lshr x 32 32 (by decide)
  have a2 := c_maskL x 4294967295 32 (by decide) (by decide)
  have b1 := c_lshr y 32 32 (by decide)
  have b2 := c_maskL y 4294967295 32 (by decide) (by decide)
  simp only [f11_0, f11_6, f11_13, f11_19, f11_26, f11_33, f11_46, f11_54, f11_61, f11_71]
  generalize x >>> ((32 : Int32) &&& 0x3f).toInt64 = x1 at *
  generalize x &&& 4294967295 = x2 at *
  generalize y >>> ((32 : Int32) &&& 0x3f).toInt64 = y1 at *
  generalize y &&& 4294967295 = y2 at *
  have gx1 : 0 ≤ x1.toInt ∧ x1.toInt ≤ 2147483647 := by omega
  have gx2 : 0 ≤ x2.toInt ∧ x2.toInt ≤ 4294967295 := by omega
  have gy1 : 0 ≤ y1.toInt ∧ y1.toInt ≤ 2147483647 := by omega
  have gy2 : 0 ≤ y2.toInt ∧ y2.toInt ≤ 4294967295 := by omega
  have ex : x.toInt = x1.toInt * 4294967296 + x2.toInt := by omega
  have ey : y.toInt = y1.toInt * 4294967296 + y2.toInt := by omega
  have p22 := Int.mul_le_mul gx2.2 gy2.2 gy2.1 (by decide)
  have n22 := Int.mul_nonneg gx2.1 gy2.1
  have p12 := Int.mul_le_mul gx1.2 gy2.2 gy2.1 (by decide)
  have n12 := Int.mul_nonneg gx1.1 gy2.1
  have p21 := Int.mul_le_mul gx2.2 gy1.2 gy1.1 (by decide)
  have n21 := Int.mul_nonneg gx2.1 gy1.1
  have p11 := Int.mul_le_mul gx1.2 gy1.2 gy1.1 (by decide)
  have n11 := Int.mul_nonneg gx1.1 gy1.1
  have m22 := c_lmul x2 y2
  have m12 := c_lmul x1 y2
  have m21 := c_lmul x2 y1
  have m11 := c_lmul x1 y1
  have s0 := c_lushr (x2 * y2) 32 32 (by decide) (by decide)
  have r12 := rng64 (x1 * y2)
  have r21 := rng64 (x2 * y1)
  have r11 := rng64 (x1 * y1)
  have e12 : (x1 * y2).toInt = x1.toInt * y2.toInt := by omega
  have e21 : (x2 * y1).toInt = x2.toInt * y1.toInt := by omega
  have e11 : (x1 * y1).toInt = x1.toInt * y1.toInt := by omega
  have e22 : (x2 * y2).toInt % 18446744073709551616 = x2.toInt * y2.toInt := by omega
  rw [e22] at s0
  generalize ((x2 * y2).toUInt64 >>> ((32 : Int32) &&& 0x3f).toInt64.toUInt64).toInt64 = z2 at *
  have t1 := c_ladd (x1 * y2) z2
  have rt := rng64 (x1 * y2 + z2)
  have et : (x1 * y2 + z2).toInt = x1.toInt * y2.toInt + x2.toInt * y2.toInt / 4294967296 := by omega
  have sh := c_lshr (x1 * y2 + z2) 32 32 (by decide)
  have lo := c_maskL (x1 * y2 + z2) 4294967295 32 (by decide) (by decide)
  rw [et] at sh lo
  generalize (x1 * y2 + z2) >>> ((32 : Int32) &&& 0x3f).toInt64 = t0 at *
  generalize (x1 * y2 + z2) &&& 4294967295 = tl at *
  have t2 := c_ladd tl (x2 * y1)
  have rz := rng64 (tl + x2 * y1)
  have ez : (tl + x2 * y1).toInt = tl.toInt + x2.toInt * y1.toInt := by omega
  have sz := c_lshr (tl + x2 * y1) 32 32 (by decide)
  rw [ez] at sz
  generalize (tl + x2 * y1) >>> ((32 : Int32) &&& 0x3f).toInt64 = w at *
  have t3 := c_ladd (x1 * y1) t0
  have r3 := rng64 (x1 * y1 + t0)
  have t4 := c_ladd (x1 * y1 + t0) w
  have r4 := rng64 (x1 * y1 + t0 + w)
  have ef : x.toInt * y.toInt = (x1.toInt * y1.toInt) * 18446744073709551616 + (x1.toInt * y2.toInt + x2.toInt * y1.toInt) * 4294967296 + x2.toInt * y2.toInt := by
    rw [ex, ey, Int.add_mul, Int.mul_add, Int.mul_add, show x1.toInt * 4294967296 * (y1.toInt * 4294967296) = x1.toInt * y1.toInt * 18446744073709551616 from by rw [Int.mul_assoc, Int.mul_left_comm (4294967296 : Int), ← Int.mul_assoc]; omega, show x1.toInt * 4294967296 * y2.toInt = x1.toInt * y2.toInt * 4294967296 from by rw [Int.mul_right_comm], show x2.toInt * (y1.toInt * 4294967296) = x2.toInt * y1.toInt * 4294967296 from by rw [Int.mul_assoc]]
    omega
  rw [ef]
  generalize x1.toInt * y1.toInt = A at *
  generalize x1.toInt * y2.toInt = B at *
  generalize x2.toInt * y1.toInt = D at *
  generalize x2.toInt * y2.toInt = G at *
  omega
theorem own_recip (b : Int64) (hb : 4 ≤ b.toInt) : 0 ≤ (f9_0 b).toInt ∧ (f9_0 b).toInt * b.toInt ≤ 36893488147419103231 ∧ 36893488147419103231 < ((f9_0 b).toInt + 1) * b.toInt := by
  have rb := rng64 b
  have u1 : own_U (-1) = 18446744073709551615 := by decide
  have dq := own_div (-1) b (by omega)
  have rm := own_rem (-1) b (by omega)
  rw [u1] at dq rm
  have m1 := Int.mul_ediv_add_emod 18446744073709551615 b.toInt
  have m2 := Int.emod_nonneg 18446744073709551615 (show b.toInt ≠ 0 by omega)
  have m3 := Int.emod_lt_of_pos 18446744073709551615 (show 0 < b.toInt by omega)
  unfold f9_0
  generalize f10_0 (-1) b = Q at *
  generalize f7_0 (-1) b = r at *
  rw [← rm] at m1 m2 m3
  rw [← dq] at m1
  have hU := own_Ur Q
  have Qs : own_U Q ≤ 4611686018427387903 := by
    rw [dq]
    have := Int.ediv_lt_iff_lt_mul (a := 18446744073709551615) (b := 4611686018427387904) (c := b.toInt) (by omega)
    have := this.mpr (by omega)
    omega
  have qd := own_div (2 * r + 1) b (by omega)
  have e2 : own_U (2 * r + 1) = 2 * r.toInt + 1 := by
    have h1 := own_Uadd (2 * r) 1
    have h2 := own_Umul 2 r
    rw [show own_U 2 = 2 from by decide, own_Upos m2] at h2
    rw [show own_U 1 = 1 from by decide, h2] at h1
    rw [h1]; omega
  rw [e2] at qd
  have n1 := Int.mul_ediv_add_emod (2 * r.toInt + 1) b.toInt
  have n2 := Int.emod_nonneg (2 * r.toInt + 1) (show b.toInt ≠ 0 by omega)
  have n3 := Int.emod_lt_of_pos (2 * r.toInt + 1) (show 0 < b.toInt by omega)
  generalize f10_0 (2 * r + 1) b = D at *
  rw [← qd] at n1
  have hD := own_Ur D
  have Ds : own_U D ≤ 1 := by
    rw [qd]
    have := Int.ediv_lt_iff_lt_mul (a := 2 * r.toInt + 1) (b := 2) (c := b.toInt) (by omega)
    have := this.mpr (by omega)
    omega
  have h3 := own_Uadd (2 * Q) D
  have h4 := own_Umul 2 Q
  rw [show own_U 2 = 2 from by decide] at h4
  rw [h4] at h3
  have h5 := own_Ui (2 * Q + D)
  have ef : (2 * Q + D).toInt = 2 * own_U Q + own_U D := by omega
  rw [ef]
  have k1 : (2 * own_U Q + own_U D) * b.toInt = 2 * (b.toInt * own_U Q) + b.toInt * own_U D := by
    rw [Int.add_mul, Int.mul_assoc, Int.mul_comm (own_U Q), Int.mul_comm (own_U D)]
  have k2 : (2 * own_U Q + own_U D + 1) * b.toInt = 2 * (b.toInt * own_U Q) + b.toInt * own_U D + b.toInt := by
    rw [Int.add_mul, k1]; omega
  rw [k1, k2]
  generalize b.toInt * own_U Q = A at *
  generalize b.toInt * own_U D = B at *
  omega
theorem own_est (V u e b c : Int) (hu0 : 0 ≤ u) (hu : u < 9223372036854775808) (hV : V = 2 * u ∨ V = 2 * u + 1) (hb : 4 ≤ b) (hc0 : 0 ≤ c) (h1 : c * b ≤ 36893488147419103231) (h2 : 36893488147419103231 < (c + 1) * b) (he : e = u * c / 18446744073709551616) :
    e * b ≤ V ∧ V < e * b + 2 * b := by
  have g1 := Int.mul_ediv_self_le (x := u * c) (k := 18446744073709551616) (by decide)
  have g2 := Int.lt_mul_ediv_self_add (x := u * c) (k := 18446744073709551616) (by decide)
  rw [← he] at g1 g2
  have k1 := Int.mul_le_mul_of_nonneg_right g1 (show 0 ≤ b by omega)
  have k2 := Int.mul_lt_mul_of_pos_right g2 (show 0 < b by omega)
  have k3 := Int.mul_le_mul_of_nonneg_left h1 hu0
  have h2' : 36893488147419103232 - b ≤ c * b := by rw [Int.add_mul] at h2; omega
  have k4 := Int.mul_le_mul_of_nonneg_left h2' hu0
  have k5 : u * b ≤ 9223372036854775807 * b := Int.mul_le_mul_of_nonneg_right (by omega) (by omega)
  rw [Int.mul_assoc, Int.mul_assoc] at k1
  rw [Int.mul_assoc, Int.add_mul, Int.mul_assoc] at k2
  rw [Int.mul_sub] at k4
  generalize u * (c * b) = A at *
  generalize e * b = E at *
  generalize u * b = B at *
  constructor <;> omega
theorem own_red (q b : Int64) (h : Int32) (hb : 4 ≤ b.toInt) : (f6_0 q b h (f9_0 b)).toInt = own_U q % b.toInt := by
  have rb := rng64 b
  have hU := own_Ur q
  obtain ⟨c0, c1, c2⟩ := own_recip b hb
  unfold f6_0
  rw [if_neg (by rw [Int64.lt_iff_toInt_lt, show (4 : Int64).toInt = 4 from rfl]; omega)]
  have hh := own_half q
  generalize f9_0 b = c at *
  generalize ((q.toUInt64 >>> ((1 : Int32) &&& 0x3f).toInt64.toUInt64).toInt64) = u at *
  have mh := own_mulHigh u c (by omega) c0
  obtain ⟨e1, e2⟩ := own_est (own_U q) u.toInt (f11_0 u c).toInt b.toInt c.toInt (by omega) (by omega) (by omega) hb c0 c1 c2 mh
  have e0 : 0 ≤ (f11_0 u c).toInt := by rw [mh]; exact Int.ediv_nonneg (Int.mul_nonneg (by omega) c0) (by decide)
  unfold f6_35 f6_51 f6_65a
  generalize f11_0 u c = x at *
  have s1 := own_Usub q (x * b)
  rw [own_Umul, own_Upos e0, own_Upos (show 0 ≤ b.toInt by omega)] at s1
  have s2 := own_Usub (q - x * b) b
  rw [own_Upos (show 0 ≤ b.toInt by omega), s1] at s2
  have s3 := own_Ui (q - x * b - b)
  have sg := own_sign (q - x * b - b)
  have ex : (q - x * b - b).toInt = own_U q - x.toInt * b.toInt - b.toInt := by
    have n0 : 0 ≤ x.toInt * b.toInt := Int.mul_nonneg e0 (by omega)
    generalize x.toInt * b.toInt = E at *
    omega
  have hz : own_U q % b.toInt = (own_U q - x.toInt * b.toInt) % b.toInt := by
    rw [show own_U q - x.toInt * b.toInt = own_U q + b.toInt * (-x.toInt) from by rw [Int.mul_neg, Int.mul_comm b.toInt]; omega]
    exact (Int.add_mul_emod_self_left _ _ _).symm
  rw [hz]
  generalize q - x * b - b = y at *
  have ad := c_ladd y (b &&& (y >>> ((63 : Int32) &&& 0x3f).toInt64))
  have ra := rng64 (y + (b &&& (y >>> ((63 : Int32) &&& 0x3f).toInt64)))
  by_cases c : y.toInt < 0
  · rw [sg.2 c, Int64.and_comm, own_andm] at ad ra ⊢
    rw [Int.emod_eq_of_lt (by omega) (by omega)]
    generalize x.toInt * b.toInt = E at *
    omega
  · rw [sg.1 (by omega), Int64.and_comm, own_and0] at ad ra ⊢
    rw [show (0 : Int64).toInt = 0 from rfl] at ad
    rw [show own_U q - x.toInt * b.toInt = own_U q - x.toInt * b.toInt - b.toInt + b.toInt from by omega, Int.add_emod_right, Int.emod_eq_of_lt (by omega) (by omega)]
    generalize x.toInt * b.toInt = E at *
    omega
theorem own_same (q b : Int64) (h : Int32) (hb : ¬ (b < (1 : Int64))) : f6_0 q (f1_0 b h).1 (f1_0 b h).2.1 (f1_0 b h).2.2 = f8_0 q b := by
  rw [Int64.lt_iff_toInt_lt, show (1 : Int64).toInt = 1 from rfl] at hb
  apply Int64.toInt_inj.mp
  rw [own_ur q b (by omega)]
  unfold f1_0 f2_0 f2_31
  by_cases c : b < 4
  · simp only [if_pos c]
    unfold f6_0 f6_65b
    rw [if_pos c, own_rem q b (by omega)]
  · simp only [if_neg c]
    rw [Int64.lt_iff_toInt_lt, show (4 : Int64).toInt = 4 from rfl] at c
    exact own_red q b h (by omega)
theorem own_mid (a : Int64) (b : Int32) (c x : Int64) (y : Int32) (hx : ¬ (x < (1 : Int64))) : f0_31 a b c x y = 1 := by
  have h1 : (f1_0 x y).1 = x := by unfold f1_0 f2_0 f2_31; split <;> rfl
  have h2 : (f1_0 x y).2.1 = y := by unfold f1_0 f2_0 f2_31; split <;> rfl
  unfold f0_31
  rw [if_pos (show f4_0 (f1_0 x y).1 (f1_0 x y).2.1 (f1_0 x y).2.2 = x from h1), if_pos (show f5_0 (f1_0 x y).1 (f1_0 x y).2.1 (f1_0 x y).2.2 = y from h2), if_pos (own_same c x y hx)]
theorem own_law (a : Int64) (b : Int32) (c : Int64) : f0_0 a b c = 1 := by
  unfold f0_0 f0_17
  by_cases h : a &&& 9223372036854775807 = 0
  · rw [if_pos h]; split <;> exact own_mid _ _ _ _ _ (by decide)
  · rw [if_neg h]; split <;> exact own_mid _ _ _ _ _ (own_p1 h)
set_option maxRecDepth 65536 in
set_option maxHeartbeats 40000000 in
theorem comes_1 {Post : Tables → Env → Array Value → State → Outcome → State → Prop} (hpost : ∀ tb e args s v u, (limb_1_1.after args s (.returned v) u = true ∧ limb_1_2.after args s (.returned v) u = true ∧ True) → FrameEnd s (.returned v) u (Jvm.fieldLocs frame_1_writes args s ++ Jvm.arrayLocs frame_1_arrays args s ++ Jvm.staticLocs frame_1_statics s) 16 128 → Post tb e args s (.returned v) u) :
    ArmFor flags0 classFile x code maxLocals ret World_1 tables_1 room_1 Calls_1 rest_1 Pre_1 Post := by
  intro l hfl _ _ p e ha hc hk s m args below hf hA hF happ hP
  obtain ⟨hcalls, hrest, hpre⟩ := hP
  obtain ⟨-, -, -, hnamed, -, -, -, hat⟩ := (Spec.applies_iff hf).mp happ
  obtain ⟨hg, hn⟩ := and_e (Cond.before_iff.mp (show (Jvm.Cond.and given_1 narrow_1).before args s = true from hpre))
  obtain ⟨g1, g2⟩ := and_e hg
  obtain ⟨g3, g4⟩ := and_e g2
  obtain ⟨g5, g6⟩ := and_e g4
  obtain ⟨w0, w1, w2, rfl⟩ : ∃ w0 w1 w2 : Value, args = #[w0, w1, w2] := by
    have hs : args.size = 3 := by simpa [Cond.value, given_1] using g1
    obtain ⟨L⟩ := args
    match L, hs with
    | [w0, w1, w2], _ => exact ⟨w0, w1, w2, rfl⟩
  have hw := fun d (hd : d ∈ tables_1) => atoms_spec (ws := Jvm.Cond.code x code maxLocals ret :: tables_1) hat d (List.mem_cons_of_mem _ hd)
  have hfit : Fit s := fun {y c} hc i hi => by
    obtain ⟨ha, rfl⟩ := Array.getElem?_eq_some_iff.mp hc
    have q := List.all_eq_true.mp ((Array.all_eq_true_iff_forall_mem.mp hF) _ (Array.getElem_mem ha)) i (List.mem_range.mpr hi)
    simpa [Array.getElem?_eq_getElem hi] using q
  obtain ⟨i0, ei0⟩ := isL_v g3
  obtain rfl : w0 = (.long i0) := Option.some.inj ei0
  obtain ⟨i1, ei1⟩ := is_v g5
  obtain rfl : w1 = (.int i1) := Option.some.inj ei1
  obtain ⟨i2, ei2⟩ := isL_v g6
  obtain rfl : w2 = (.long i2) := Option.some.inj ei2
  obtain ⟨n, o, h1, h2, h3, v, L, rfl, ⟨hv, hK⟩, hq⟩ := rm0 l s _ hw tables_1 i0 i1 i2 s.heap s.heap.size (Nat.le_refl _) p e ha hc hk s m _ below hf ((Spec.applies_iff_loose hf).mp happ).1 ⟨rfl, State.Warmed39.refl s, rfl⟩ trivial
  rw [R0, own_law] at hv
  subst hv
  refine ⟨n, _, h1, h2, h3, hpost _ _ _ _ _ _ ⟨Cond.after_iff.mpr rfl, Cond.after_iff.mpr (eq_i res_at (Term.int_eval (1)) rfl), trivial⟩ ⟨hq.1, hq.2.1, (hq.2.2.sift fun y hy => ?_).mono (by decide) (by decide)⟩⟩
  exact Or.inr (hK y hy)
theorem main_1_1 : Claimed_1_1 := comes_1 fun _ _ _ _ _ _ h hF => ⟨h.1, hF⟩
theorem main_1_2 : Claimed_1_2 := comes_1 fun _ _ _ _ _ _ h hF => ⟨h.2.1, hF⟩
end Jvm.Pilot.@@N@@
namespace Jvm.Pilot.@@N@@
open Jvm Jvm.ClassFile Sem Op Lib Jvm.Free Jvm.Stand Jvm.Pilot.@@N@@.Jvm.D
/-! MADE BY PROGRAM (witnessworld.py) out of the Statement's table words and the real class files: 15 classes; the members and pool entries that the words name. The judged class is class 1, her method 2. -/
namespace start1
open Jvm.ClassFile
def u (s : String) : CpInfo := .utf8 (stringToUtf16 s)
/-- a pool by its gaps: so many unusable entries, then the entry; so many at the end -/
def gap : Nat → List CpInfo → List CpInfo
  | 0, r => r
  | n + 1, r => .unusable :: gap n r
def poolList (es : List (Nat × CpInfo)) (last : Nat) : List CpInfo := es.foldr (fun e r => gap e.1 (e.2 :: r)) (gap last [])
def pool (es : List (Nat × CpInfo)) (last : Nat) : Array CpInfo := ⟨poolList es last⟩
def fileOf (pool : Array CpInfo) (this : Nat) (attrs : Array Attribute := #[]) (ms : Array MethodInfo := #[]) (fl : Nat := 33) (sup : Nat := 0) (ifs : Array Nat := #[]) (fds : Array FieldInfo := #[]) : ClassFile where
  minorVersion := 0
  majorVersion := 65
  constantPool := pool
  accessFlags := fl
  thisClass := this
  superClass := sup
  interfaces := ifs
  fields := fds
  methods := ms
  attributes := attrs
def plain (name : String) (sup : Option ClassId) : Class where
  name := name
  kind := .ordinary
  loader := none
  accessFlags := 33
  super := sup
  interfaces := #[]
  cf := none
  fields := #[]
  methods := #[]
  instanceTypes := #[]
  staticTypes := #[]
  resolved := #[]
  callSites := []
  init := .initialized
  statics := none
  mirror := none

def pool0 : Array CpInfo := pool [(5, u "<init>"), (0, u "()V"), (1, .class_ 10), (1, u "java/lang/Object")] 113

def k0c0 : Code := { maxStack := 0, maxLocals := 1, code := object_method_1_code, exceptionTable := #[], attributes := #[] }
def k0m0 : Method := { name := "<init>", desc := "()V", sig := { parameters := [], returnType := none }, accessFlags := 1, code := some k0c0 }
/-- java/lang/Object -/
def k0 : Class := { plain "java/lang/Object" none with
  accessFlags := 33
  interfaces := #[]
  cf := some (fileOf pool0 8 #[] #[{ accessFlags := 1, nameIndex := 5, descriptorIndex := 6, attributes := #[] }] 33 0 #[] #[])
  fields := #[]
  methods := #[k0m0]
  instanceTypes := #[]
  staticTypes := #[]
  resolved := Array.replicate 124 none
  statics := none }

def pool1 : Array CpInfo := pool [(2, .class_ 4), (1, u "java/lang/Object"), (0, u "<init>"), (0, u "()V"), (2, .long 9223372036854775808), (1, .long 9223372036854775807), (3, .integer 2147483647), (0, .methodref 17 18), (0, .class_ 19), (0, .nameAndType 20 21), (0, u "com/example/probable_set/probableset/sizing/Shape"), (0, u "of"), (0, u "(JI)Lcom/example/probable_set/probableset/sizing/Shape;"), (0, .methodref 17 23), (0, .nameAndType 24 25), (0, u "bits"), (0, u "()J"), (0, .methodref 17 27), (0, .nameAndType 28 29), (0, u "hashes"), (0, u "()I"), (0, .methodref 17 31), (0, .nameAndType 32 33), (0, u "reduce"), (0, u "(J)J"), (0, .methodref 35 36), (0, .class_ 37), (0, .nameAndType 38 39), (0, u "com/example/probable_set/probableset/sizing/ShapeOfPinLaw"), (0, u "unsignedRem"), (0, u "(JJ)J"), (3, u "law"), (0, u "(JIJ)Z")] 2

def k1m0 : Method := { name := "<init>", desc := "()V", sig := { parameters := [], returnType := none }, accessFlags := 2, code := none }
def k1c1 : Code := { maxStack := 6, maxLocals := 8, code := method_2_code, exceptionTable := #[], attributes := #[] }
def k1m1 : Method := { name := "unsignedRem", desc := "(JJ)J", sig := { parameters := [.long, .long], returnType := some .long }, accessFlags := 10, code := some k1c1 }
def k1c2 : Code := { maxStack := 6, maxLocals := 9, code := code, exceptionTable := #[], attributes := #[] }
def k1m2 : Method := { name := "law", desc := "(JIJ)Z", sig := { parameters := [.long, .int, .long], returnType := some .boolean }, accessFlags := 9, code := some k1c2 }
/-- com/example/probable_set/probableset/sizing/ShapeOfPinLaw -/
def k1 : Class := { plain "com/example/probable_set/probableset/sizing/ShapeOfPinLaw" (some 0) with
  accessFlags := 49
  interfaces := #[]
  cf := some (fileOf pool1 35 #[] #[{ accessFlags := 2, nameIndex := 5, descriptorIndex := 6, attributes := #[] }, { accessFlags := 10, nameIndex := 38, descriptorIndex := 39, attributes := #[] }, { accessFlags := 9, nameIndex := 43, descriptorIndex := 44, attributes := #[] }] 49 2 #[] #[])
  fields := #[]
  methods := #[k1m0, k1m1, k1m2]
  instanceTypes := #[]
  staticTypes := #[]
  resolved := Array.replicate 47 none
  statics := none }

def pool2 : Array CpInfo := pool [(1, .methodref 2 3), (0, .class_ 4), (0, .nameAndType 5 6), (0, u "java/lang/Object"), (0, u "<init>"), (0, u "()V"), (0, .fieldref 8 9), (0, .class_ 10), (0, .nameAndType 11 12), (0, u "com/example/probable_set/probableset/sizing/Shape"), (0, u "bits"), (0, u "J"), (0, .fieldref 8 14), (0, .nameAndType 15 16), (0, u "hashes"), (0, u "I"), (0, .long 4), (1, .methodref 8 20), (0, .nameAndType 21 22), (0, u "reciprocalOf"), (0, u "(J)J"), (0, .fieldref 8 24), (0, .nameAndType 25 12), (0, u "reciprocal"), (12, .methodref 8 39), (0, .nameAndType 5 40), (0, u "(JI)V"), (12, u "LN2"), (0, u "D"), (6, .class_ 63), (1, u "java/lang/Math"), (8, u "(JJ)J"), (0, .methodref 74 75), (0, .class_ 76), (0, .nameAndType 77 72), (0, u "java/lang/Long"), (0, u "remainderUnsigned"), (0, .methodref 61 79), (0, .nameAndType 80 72), (0, u "multiplyHigh"), (11, .long 18446744073709551615), (1, .methodref 74 95), (0, .nameAndType 96 72), (0, u "divideUnsigned"), (0, .long 2), (13, u "FIRST_BITS_PAST_LONG"), (1, u "FEWEST_BITS_MULTIPLIED"), (3, u "of"), (0, u "(JI)Lcom/example/probable_set/probableset/sizing/Shape;"), (2, u "()J"), (0, u "()I"), (0, u "reduce")] 36

def k2c0 : Code := { maxStack := 5, maxLocals := 4, code := prog_20_method_1_code, exceptionTable := #[], attributes := #[] }
def k2m0 : Method := { name := "<init>", desc := "(JI)V", sig := { parameters := [.long, .int], returnType := none }, accessFlags := 2, code := some k2c0 }
def k2c1 : Code := { maxStack := 5, maxLocals := 3, code := prog_20_method_2_code, exceptionTable := #[], attributes := #[] }
def k2m1 : Method := { name := "of", desc := "(JI)Lcom/example/probable_set/probableset/sizing/Shape;", sig := { parameters := [.long, .int], returnType := some (.object "com/example/probable_set/probableset/sizing/Shape") }, accessFlags := 9, code := some k2c1 }
def k2c2 : Code := { maxStack := 2, maxLocals := 1, code := prog_20_method_4_code, exceptionTable := #[], attributes := #[] }
def k2m2 : Method := { name := "bits", desc := "()J", sig := { parameters := [], returnType := some .long }, accessFlags := 1, code := some k2c2 }
def k2c3 : Code := { maxStack := 1, maxLocals := 1, code := prog_20_method_5_code, exceptionTable := #[], attributes := #[] }
def k2m3 : Method := { name := "hashes", desc := "()I", sig := { parameters := [], returnType := some .int }, accessFlags := 1, code := some k2c3 }
def k2c4 : Code := { maxStack := 7, maxLocals := 9, code := prog_20_method_6_code, exceptionTable := #[], attributes := #[] }
def k2m4 : Method := { name := "reduce", desc := "(J)J", sig := { parameters := [.long], returnType := some .long }, accessFlags := 1, code := some k2c4 }
def k2c5 : Code := { maxStack := 6, maxLocals := 6, code := prog_20_method_9_code, exceptionTable := #[], attributes := #[] }
def k2m5 : Method := { name := "reciprocalOf", desc := "(J)J", sig := { parameters := [.long], returnType := some .long }, accessFlags := 10, code := some k2c5 }
/-- com/example/probable_set/probableset/sizing/Shape -/
def k2 : Class := { plain "com/example/probable_set/probableset/sizing/Shape" (some 0) with
  accessFlags := 49
  interfaces := #[]
  cf := some (fileOf pool2 8 #[] #[{ accessFlags := 2, nameIndex := 5, descriptorIndex := 40, attributes := #[] }, { accessFlags := 9, nameIndex := 117, descriptorIndex := 118, attributes := #[] }, { accessFlags := 1, nameIndex := 11, descriptorIndex := 121, attributes := #[] }, { accessFlags := 1, nameIndex := 15, descriptorIndex := 122, attributes := #[] }, { accessFlags := 1, nameIndex := 123, descriptorIndex := 22, attributes := #[] }, { accessFlags := 10, nameIndex := 21, descriptorIndex := 22, attributes := #[] }] 49 2 #[] #[{ accessFlags := 26, nameIndex := 53, descriptorIndex := 54, attributes := #[] }, { accessFlags := 26, nameIndex := 111, descriptorIndex := 54, attributes := #[] }, { accessFlags := 26, nameIndex := 113, descriptorIndex := 12, attributes := #[] }, { accessFlags := 18, nameIndex := 11, descriptorIndex := 12, attributes := #[] }, { accessFlags := 18, nameIndex := 15, descriptorIndex := 16, attributes := #[] }, { accessFlags := 18, nameIndex := 25, descriptorIndex := 12, attributes := #[] }])
  fields := #[{ name := "LN2", type := .double, accessFlags := 26, slot := 0, constantValue := 0 }, { name := "FIRST_BITS_PAST_LONG", type := .double, accessFlags := 26, slot := 1, constantValue := 0 }, { name := "FEWEST_BITS_MULTIPLIED", type := .long, accessFlags := 26, slot := 2, constantValue := 0 }, { name := "bits", type := .long, accessFlags := 18, slot := 0, constantValue := 0 }, { name := "hashes", type := .int, accessFlags := 18, slot := 1, constantValue := 0 }, { name := "reciprocal", type := .long, accessFlags := 18, slot := 2, constantValue := 0 }]
  methods := #[k2m0, k2m1, k2m2, k2m3, k2m4, k2m5]
  instanceTypes := #[.long, .int, .long]
  staticTypes := #[.double, .double, .long]
  resolved := Array.replicate 160 none
  statics := none }

def pool3 : Array CpInfo := pool [(1, .class_ 2), (0, u "java/io/Serializable"), (0, .class_ 4), (0, u "java/lang/Object")] 2

/-- java/io/Serializable -/
def k3 : Class := { plain "java/io/Serializable" (some 0) with
  accessFlags := 1537
  interfaces := #[]
  cf := some (fileOf pool3 1 #[] #[] 1537 3 #[] #[])
  fields := #[]
  methods := #[]
  instanceTypes := #[]
  staticTypes := #[]
  resolved := Array.replicate 7 none
  statics := none }

def pool4 : Array CpInfo := pool [(2, .class_ 4), (1, u "java/lang/Object"), (0, u "<init>"), (0, u "()V"), (1, .class_ 10), (1, u "java/lang/Number"), (2, .class_ 14), (0, u "java/io/Serializable"), (0, u "serialVersionUID"), (0, u "J")] 20

def k4m0 : Method := { name := "<init>", desc := "()V", sig := { parameters := [], returnType := none }, accessFlags := 1, code := none }
/-- java/lang/Number -/
def k4 : Class := { plain "java/lang/Number" (some 0) with
  accessFlags := 1057
  interfaces := #[3]
  cf := some (fileOf pool4 8 #[] #[{ accessFlags := 1, nameIndex := 5, descriptorIndex := 6, attributes := #[] }] 1057 2 #[13] #[{ accessFlags := 26, nameIndex := 15, descriptorIndex := 16, attributes := #[] }])
  fields := #[{ name := "serialVersionUID", type := .long, accessFlags := 26, slot := 0, constantValue := 0 }]
  methods := #[k4m0]
  instanceTypes := #[]
  staticTypes := #[.long]
  resolved := Array.replicate 37 none
  statics := none }

def pool5 : Array CpInfo := pool [(1, .class_ 2), (0, u "java/lang/Comparable"), (0, .class_ 4), (0, u "java/lang/Object")] 7

/-- java/lang/Comparable -/
def k5 : Class := { plain "java/lang/Comparable" (some 0) with
  accessFlags := 1537
  interfaces := #[]
  cf := some (fileOf pool5 1 #[] #[] 1537 3 #[] #[])
  fields := #[]
  methods := #[]
  instanceTypes := #[]
  staticTypes := #[]
  resolved := Array.replicate 12 none
  statics := none }

def pool6 : Array CpInfo := pool [(1, .class_ 2), (0, u "java/lang/constant/Constable"), (0, .class_ 4), (0, u "java/lang/Object")] 6

/-- java/lang/constant/Constable -/
def k6 : Class := { plain "java/lang/constant/Constable" (some 0) with
  accessFlags := 1537
  interfaces := #[]
  cf := some (fileOf pool6 1 #[] #[] 1537 3 #[] #[])
  fields := #[]
  methods := #[]
  instanceTypes := #[]
  staticTypes := #[]
  resolved := Array.replicate 11 none
  statics := none }

def pool7 : Array CpInfo := pool [(1, .class_ 2), (0, u "java/lang/constant/ConstantDesc"), (0, .class_ 4), (0, u "java/lang/Object")] 32

/-- java/lang/constant/ConstantDesc -/
def k7 : Class := { plain "java/lang/constant/ConstantDesc" (some 0) with
  accessFlags := 1537
  interfaces := #[]
  cf := some (fileOf pool7 1 #[] #[] 1537 3 #[] #[])
  fields := #[]
  methods := #[]
  instanceTypes := #[]
  staticTypes := #[]
  resolved := Array.replicate 37 none
  statics := none }

def pool8 : Array CpInfo := pool [(1, .class_ 2), (0, u "java/lang/Long"), (232, .class_ 237), (1, u "java/lang/Long$LongCache"), (33, .class_ 272), (0, u "java/lang/Number"), (2, u "value"), (0, u "J"), (29, .long 18446744073709551615), (26, u "(JJ)J"), (27, u "TYPE"), (0, u "Ljava/lang/Class;"), (0, .class_ 364), (0, u "java/lang/Comparable"), (0, .class_ 366), (0, u "java/lang/constant/Constable"), (0, .class_ 368), (0, u "java/lang/constant/ConstantDesc"), (0, u "MIN_VALUE"), (1, u "MAX_VALUE"), (4, u "SIZE"), (0, u "I"), (1, u "BYTES"), (1, u "serialVersionUID"), (88, u "divideUnsigned"), (2, u "remainderUnsigned")] 50

def k8c0 : Code := { maxStack := 8, maxLocals := 8, code := jdk_35_method_44_code, exceptionTable := #[], attributes := #[] }
def k8m0 : Method := { name := "divideUnsigned", desc := "(JJ)J", sig := { parameters := [.long, .long], returnType := some .long }, accessFlags := 9, code := some k8c0 }
def k8c1 : Code := { maxStack := 8, maxLocals := 8, code := jdk_35_method_45_code, exceptionTable := #[], attributes := #[] }
def k8m1 : Method := { name := "remainderUnsigned", desc := "(JJ)J", sig := { parameters := [.long, .long], returnType := some .long }, accessFlags := 9, code := some k8c1 }
/-- java/lang/Long -/
def k8 : Class := { plain "java/lang/Long" (some 4) with
  accessFlags := 49
  interfaces := #[5, 6, 7]
  cf := some (fileOf pool8 1 #[.nestMembers #[235]] #[{ accessFlags := 9, nameIndex := 470, descriptorIndex := 333, attributes := #[] }, { accessFlags := 9, nameIndex := 473, descriptorIndex := 333, attributes := #[] }] 49 271 #[363, 365, 367] #[{ accessFlags := 25, nameIndex := 369, descriptorIndex := 276, attributes := #[] }, { accessFlags := 25, nameIndex := 371, descriptorIndex := 276, attributes := #[] }, { accessFlags := 25, nameIndex := 361, descriptorIndex := 362, attributes := #[] }, { accessFlags := 18, nameIndex := 275, descriptorIndex := 276, attributes := #[] }, { accessFlags := 25, nameIndex := 376, descriptorIndex := 377, attributes := #[] }, { accessFlags := 25, nameIndex := 379, descriptorIndex := 377, attributes := #[] }, { accessFlags := 26, nameIndex := 381, descriptorIndex := 276, attributes := #[] }])
  fields := #[{ name := "MIN_VALUE", type := .long, accessFlags := 25, slot := 0, constantValue := 0 }, { name := "MAX_VALUE", type := .long, accessFlags := 25, slot := 1, constantValue := 0 }, { name := "TYPE", type := (.object "java/lang/Class"), accessFlags := 25, slot := 2, constantValue := 0 }, { name := "value", type := .long, accessFlags := 18, slot := 0, constantValue := 0 }, { name := "SIZE", type := .int, accessFlags := 25, slot := 3, constantValue := 0 }, { name := "BYTES", type := .int, accessFlags := 25, slot := 4, constantValue := 0 }, { name := "serialVersionUID", type := .long, accessFlags := 26, slot := 5, constantValue := 0 }]
  methods := #[k8m0, k8m1]
  instanceTypes := #[.long]
  staticTypes := #[.long, .long, (.object "java/lang/Class"), .int, .int, .long]
  resolved := Array.replicate 524 none
  statics := none }

def pool9 : Array CpInfo := pool [(1, .class_ 2), (0, u "java/lang/Math"), (1, .class_ 6), (1, u "java/lang/Object"), (0, u "<init>"), (0, u "()V"), (89, .class_ 100), (1, u "java/lang/Math$RandomNumberGeneratorHolder"), (20, u "(JJ)J"), (16, .long 4294967295), (3, u "multiplyHigh"), (29, u "negativeZeroFloatBits"), (0, u "J"), (2, u "negativeZeroDoubleBits"), (68, u "$assertionsDisabled"), (0, u "Z"), (91, u "twoToTheDoubleScaleDown"), (0, u "D"), (4, u "twoToTheDoubleScaleUp"), (9, u "E"), (3, u "PI"), (2, u "TAU"), (2, u "DEGREES_TO_RADIANS"), (0, u "RADIANS_TO_DEGREES")] 94

def k9m0 : Method := { name := "<init>", desc := "()V", sig := { parameters := [], returnType := none }, accessFlags := 2, code := none }
def k9c1 : Code := { maxStack := 6, maxLocals := 20, code := jdk_29_method_45_code, exceptionTable := #[], attributes := #[] }
def k9m1 : Method := { name := "multiplyHigh", desc := "(JJ)J", sig := { parameters := [.long, .long], returnType := some .long }, accessFlags := 9, code := some k9c1 }
/-- java/lang/Math -/
def k9 : Class := { plain "java/lang/Math" (some 0) with
  accessFlags := 49
  interfaces := #[]
  cf := some (fileOf pool9 1 #[.nestMembers #[98]] #[{ accessFlags := 2, nameIndex := 7, descriptorIndex := 8, attributes := #[] }, { accessFlags := 9, nameIndex := 142, descriptorIndex := 121, attributes := #[] }] 49 4 #[] #[{ accessFlags := 25, nameIndex := 354, descriptorIndex := 339, attributes := #[] }, { accessFlags := 25, nameIndex := 358, descriptorIndex := 339, attributes := #[] }, { accessFlags := 25, nameIndex := 361, descriptorIndex := 339, attributes := #[] }, { accessFlags := 26, nameIndex := 364, descriptorIndex := 339, attributes := #[] }, { accessFlags := 26, nameIndex := 365, descriptorIndex := 339, attributes := #[] }, { accessFlags := 26, nameIndex := 172, descriptorIndex := 173, attributes := #[] }, { accessFlags := 26, nameIndex := 176, descriptorIndex := 173, attributes := #[] }, { accessFlags := 8, nameIndex := 344, descriptorIndex := 339, attributes := #[] }, { accessFlags := 8, nameIndex := 338, descriptorIndex := 339, attributes := #[] }, { accessFlags := 4120, nameIndex := 245, descriptorIndex := 246, attributes := #[] }])
  fields := #[{ name := "E", type := .double, accessFlags := 25, slot := 0, constantValue := 0 }, { name := "PI", type := .double, accessFlags := 25, slot := 1, constantValue := 0 }, { name := "TAU", type := .double, accessFlags := 25, slot := 2, constantValue := 0 }, { name := "DEGREES_TO_RADIANS", type := .double, accessFlags := 26, slot := 3, constantValue := 0 }, { name := "RADIANS_TO_DEGREES", type := .double, accessFlags := 26, slot := 4, constantValue := 0 }, { name := "negativeZeroFloatBits", type := .long, accessFlags := 26, slot := 5, constantValue := 0 }, { name := "negativeZeroDoubleBits", type := .long, accessFlags := 26, slot := 6, constantValue := 0 }, { name := "twoToTheDoubleScaleUp", type := .double, accessFlags := 8, slot := 7, constantValue := 0 }, { name := "twoToTheDoubleScaleDown", type := .double, accessFlags := 8, slot := 8, constantValue := 0 }, { name := "$assertionsDisabled", type := .boolean, accessFlags := 4120, slot := 9, constantValue := 0 }]
  methods := #[k9m0, k9m1]
  instanceTypes := #[]
  staticTypes := #[.double, .double, .double, .double, .double, .long, .long, .double, .double, .boolean]
  resolved := Array.replicate 460 none
  statics := none }

def pool10 : Array CpInfo := pool [(1, u "java/lang/Cloneable"), (0, .class_ 1), (0, u "java/lang/Object"), (0, .class_ 3)] 3

/-- java/lang/Cloneable -/
def k10 : Class := { plain "java/lang/Cloneable" (some 0) with
  accessFlags := 1537
  interfaces := #[]
  cf := some (fileOf pool10 2 #[] #[] 1537 4 #[] #[])
  fields := #[]
  methods := #[]
  instanceTypes := #[]
  staticTypes := #[]
  resolved := Array.replicate 8 none
  statics := none }

/-- the primitive byte -/
def k11 : Class := { plain "byte" none with kind := .primitive 'B', accessFlags := 0x411 }
/-- [B -/
def k12 : Class := { plain "[B" (some 0) with kind := .array 11 .byte, interfaces := #[10, 3], accessFlags := 1041 }

/-- the primitive int -/
def k13 : Class := { plain "int" none with kind := .primitive 'I', accessFlags := 0x411 }
/-- [I -/
def k14 : Class := { plain "[I" (some 0) with kind := .array 13 .int, interfaces := #[10, 3], accessFlags := 1041 }

def heap : Heap := #[]
def classes : Array Class := #[k0, k1, k2, k3, k4, k5, k6, k7, k8, k9, k10, k11, k12, k13, k14]
def interned : List (Array UInt16 × Addr) := []
def slotsUsed : Nat := 0
def theMethod : MethodId := ⟨1, 2⟩
def args0 : Array Value := #[.long 5, .int 7, .long 5]
def aboutOver (below : List Frame) : State where
  vm := { classes := classes, interned := interned.toArray }
  heap := heap
  slotsUsed := slotsUsed
  threads := #[{ frames := .invoking theMethod args0 :: below }]
def below0 : List Frame := [.native { method := ⟨0, 0⟩, args := #[] }]
def about1 : State := aboutOver below0
def p0 : Program := .bare "" "" ""
def e0 : Env := launch0.env 0 0 0
theorem w_frames : about1.frames = Frame.invoking theMethod args0 :: below0 := rfl
set_option maxRecDepth 65536 in
theorem w_args : argsFit about1.vm theMethod args0 = true := by decide +kernel
set_option maxRecDepth 65536 in
theorem w_heap : heapFits about1 = true := by decide +kernel
set_option maxRecDepth 65536 in
theorem w_runnable : about1.curStatus? = some .runnable := by decide +kernel
set_option maxRecDepth 65536 in
theorem w_alone : about1.alone = true := by decide +kernel
set_option maxRecDepth 65536 in
theorem w_named : about1.methodNamed? x = some theMethod := by decide +kernel
set_option maxRecDepth 65536 in
theorem w_hears : about1.hears theMethod below0 = true := by decide +kernel
set_option maxRecDepth 65536 in
theorem w_ripe : about1.ripe theMethod args0 below0 = true := by decide +kernel
theorem w_running : about1.status = .running := rfl
set_option maxRecDepth 65536 in
theorem w_room : about1.hasRoom e0.platform room_1 = true :=
  launch0.hasRoom_least _ room_1 (by decide +kernel) (by decide +kernel) (by decide +kernel) (by decide +kernel) (by decide +kernel) (by decide +kernel)
theorem allAtoms_all (ts : List Jvm.Cond) (a : Array Jvm.Value) (st : Jvm.State) : (allAtoms ts).before a st = ts.all (fun c => c.before a st) := by
  induction ts with
  | nil => rfl
  | cons c t ih =>
    show (Jvm.Cond.and c (allAtoms t)).before a st = _
    rw [Jvm.Cond.before_and, ih, List.all_cons]
def words1 : List Jvm.Cond := Jvm.Cond.code x code maxLocals ret :: tables_1
/-- a 'code' word, met by the world's own term for the bytes: nothing is compared byte by byte -/
theorem code_word {y : MethodName} {bytes : ByteArray} {mx : Nat} {rt : Option FieldType} {a : Array Value} {s : State} {m : MethodId} {meth : Method} {c : Code} (h1 : s.methodNamed? y = some m) (h2 : s.vm.method? m = some meth) (h3 : meth.code = some c) (h4 : c.code = bytes)
    (h5 : (c.maxLocals == mx && c.exceptionTable.isEmpty && decide (c.maxStack ≤ mostOperands) && decide (meth.sig.returnType = rt) && !meth.locks && decide (parseMethodDescriptor y.desc = some meth.sig)) = true) : (Jvm.Cond.code y bytes mx rt).before a s = true := by
  simp only [Bool.and_eq_true, beq_iff_eq, Bool.not_eq_true', decide_eq_true_eq] at h5
  obtain ⟨⟨⟨⟨⟨g1, g2⟩, g3⟩, g4⟩, g5⟩, g6⟩ := h5
  simp [Cond.before, Cond.holds, Cond.value, h1, h2, h3, h4, g1, g2, g3, g4, g5, g6]
def isCode : Jvm.Cond → Bool
  | .code _ _ _ _ => true
  | _ => false
theorem all_split {L : List Jvm.Cond} {P : Jvm.Cond → Bool} (h1 : L.all (fun c => isCode c || P c) = true) (h2 : ∀ c ∈ L.filter isCode, P c = true) : L.all P = true := by
  refine List.all_eq_true.mpr fun c hc => ?_
  have h := List.all_eq_true.mp h1 c hc
  rcases Bool.eq_false_or_eq_true (isCode c) with hi | hi
  · exact h2 c (List.mem_filter.mpr ⟨hc, hi⟩)
  · simpa [hi] using h
set_option maxRecDepth 65536 in
theorem w_c0 : (Jvm.Cond.code x code maxLocals ret).before args0 about1 = true := code_word (m := ⟨1, 2⟩) (meth := k1m2) (c := k1c2) (by decide +kernel) rfl rfl rfl (by decide +kernel)
set_option maxRecDepth 65536 in
theorem w_c1 : (Jvm.Cond.code ({ cls := "com/example/probable_set/probableset/sizing/Shape", name := "of", desc := "(JI)Lcom/example/probable_set/probableset/sizing/Shape;" } : Jvm.MethodName) prog_20_method_2_code (3 : Nat) (Option.some (Jvm.ClassFile.FieldType.object "com/example/probable_set/probableset/sizing/Shape"))).before args0 about1 = true := code_word (m := ⟨2, 1⟩) (meth := k2m1) (c := k2c1) (by decide +kernel) rfl rfl rfl (by decide +kernel)
set_option maxRecDepth 65536 in
theorem w_c2 : (Jvm.Cond.code ({ cls := "com/example/probable_set/probableset/sizing/Shape", name := "<init>", desc := "(JI)V" } : Jvm.MethodName) prog_20_method_1_code (4 : Nat) (Option.none : Option Jvm.ClassFile.FieldType)).before args0 about1 = true := code_word (m := ⟨2, 0⟩) (meth := k2m0) (c := k2c0) (by decide +kernel) rfl rfl rfl (by decide +kernel)
set_option maxRecDepth 65536 in
theorem w_c3 : (Jvm.Cond.code ({ cls := "java/lang/Object", name := "<init>", desc := "()V" } : Jvm.MethodName) object_method_1_code (1 : Nat) (Option.none : Option Jvm.ClassFile.FieldType)).before args0 about1 = true := code_word (m := ⟨0, 0⟩) (meth := k0m0) (c := k0c0) (by decide +kernel) rfl rfl rfl (by decide +kernel)
set_option maxRecDepth 65536 in
theorem w_c4 : (Jvm.Cond.code ({ cls := "com/example/probable_set/probableset/sizing/Shape", name := "bits", desc := "()J" } : Jvm.MethodName) prog_20_method_4_code (1 : Nat) (Option.some Jvm.ClassFile.FieldType.long)).before args0 about1 = true := code_word (m := ⟨2, 2⟩) (meth := k2m2) (c := k2c2) (by decide +kernel) rfl rfl rfl (by decide +kernel)
set_option maxRecDepth 65536 in
theorem w_c5 : (Jvm.Cond.code ({ cls := "com/example/probable_set/probableset/sizing/Shape", name := "hashes", desc := "()I" } : Jvm.MethodName) prog_20_method_5_code (1 : Nat) (Option.some Jvm.ClassFile.FieldType.int)).before args0 about1 = true := code_word (m := ⟨2, 3⟩) (meth := k2m3) (c := k2c3) (by decide +kernel) rfl rfl rfl (by decide +kernel)
set_option maxRecDepth 65536 in
theorem w_c6 : (Jvm.Cond.code ({ cls := "com/example/probable_set/probableset/sizing/Shape", name := "reduce", desc := "(J)J" } : Jvm.MethodName) prog_20_method_6_code (9 : Nat) (Option.some Jvm.ClassFile.FieldType.long)).before args0 about1 = true := code_word (m := ⟨2, 4⟩) (meth := k2m4) (c := k2c4) (by decide +kernel) rfl rfl rfl (by decide +kernel)
set_option maxRecDepth 65536 in
theorem w_c7 : (Jvm.Cond.code ({ cls := "java/lang/Long", name := "remainderUnsigned", desc := "(JJ)J" } : Jvm.MethodName) jdk_35_method_45_code (8 : Nat) (Option.some Jvm.ClassFile.FieldType.long)).before args0 about1 = true := code_word (m := ⟨8, 1⟩) (meth := k8m1) (c := k8c1) (by decide +kernel) rfl rfl rfl (by decide +kernel)
set_option maxRecDepth 65536 in
theorem w_c8 : (Jvm.Cond.code ({ cls := "com/example/probable_set/probableset/sizing/ShapeOfPinLaw", name := "unsignedRem", desc := "(JJ)J" } : Jvm.MethodName) method_2_code (8 : Nat) (Option.some Jvm.ClassFile.FieldType.long)).before args0 about1 = true := code_word (m := ⟨1, 1⟩) (meth := k1m1) (c := k1c1) (by decide +kernel) rfl rfl rfl (by decide +kernel)
set_option maxRecDepth 65536 in
theorem w_c9 : (Jvm.Cond.code ({ cls := "com/example/probable_set/probableset/sizing/Shape", name := "reciprocalOf", desc := "(J)J" } : Jvm.MethodName) prog_20_method_9_code (6 : Nat) (Option.some Jvm.ClassFile.FieldType.long)).before args0 about1 = true := code_word (m := ⟨2, 5⟩) (meth := k2m5) (c := k2c5) (by decide +kernel) rfl rfl rfl (by decide +kernel)
set_option maxRecDepth 65536 in
theorem w_c10 : (Jvm.Cond.code ({ cls := "java/lang/Long", name := "divideUnsigned", desc := "(JJ)J" } : Jvm.MethodName) jdk_35_method_44_code (8 : Nat) (Option.some Jvm.ClassFile.FieldType.long)).before args0 about1 = true := code_word (m := ⟨8, 0⟩) (meth := k8m0) (c := k8c0) (by decide +kernel) rfl rfl rfl (by decide +kernel)
set_option maxRecDepth 65536 in
theorem w_c11 : (Jvm.Cond.code ({ cls := "java/lang/Math", name := "multiplyHigh", desc := "(JJ)J" } : Jvm.MethodName) jdk_29_method_45_code (20 : Nat) (Option.some Jvm.ClassFile.FieldType.long)).before args0 about1 = true := code_word (m := ⟨9, 1⟩) (meth := k9m1) (c := k9c1) (by decide +kernel) rfl rfl rfl (by decide +kernel)
def codes1 : List Jvm.Cond := [Jvm.Cond.code x code maxLocals ret, Jvm.Cond.code ({ cls := "com/example/probable_set/probableset/sizing/Shape", name := "of", desc := "(JI)Lcom/example/probable_set/probableset/sizing/Shape;" } : Jvm.MethodName) prog_20_method_2_code (3 : Nat) (Option.some (Jvm.ClassFile.FieldType.object "com/example/probable_set/probableset/sizing/Shape")), Jvm.Cond.code ({ cls := "com/example/probable_set/probableset/sizing/Shape", name := "<init>", desc := "(JI)V" } : Jvm.MethodName) prog_20_method_1_code (4 : Nat) (Option.none : Option Jvm.ClassFile.FieldType), Jvm.Cond.code ({ cls := "java/lang/Object", name := "<init>", desc := "()V" } : Jvm.MethodName) object_method_1_code (1 : Nat) (Option.none : Option Jvm.ClassFile.FieldType), Jvm.Cond.code ({ cls := "com/example/probable_set/probableset/sizing/Shape", name := "bits", desc := "()J" } : Jvm.MethodName) prog_20_method_4_code (1 : Nat) (Option.some Jvm.ClassFile.FieldType.long), Jvm.Cond.code ({ cls := "com/example/probable_set/probableset/sizing/Shape", name := "hashes", desc := "()I" } : Jvm.MethodName) prog_20_method_5_code (1 : Nat) (Option.some Jvm.ClassFile.FieldType.int), Jvm.Cond.code ({ cls := "com/example/probable_set/probableset/sizing/Shape", name := "reduce", desc := "(J)J" } : Jvm.MethodName) prog_20_method_6_code (9 : Nat) (Option.some Jvm.ClassFile.FieldType.long), Jvm.Cond.code ({ cls := "java/lang/Long", name := "remainderUnsigned", desc := "(JJ)J" } : Jvm.MethodName) jdk_35_method_45_code (8 : Nat) (Option.some Jvm.ClassFile.FieldType.long), Jvm.Cond.code ({ cls := "com/example/probable_set/probableset/sizing/ShapeOfPinLaw", name := "unsignedRem", desc := "(JJ)J" } : Jvm.MethodName) method_2_code (8 : Nat) (Option.some Jvm.ClassFile.FieldType.long), Jvm.Cond.code ({ cls := "com/example/probable_set/probableset/sizing/Shape", name := "reciprocalOf", desc := "(J)J" } : Jvm.MethodName) prog_20_method_9_code (6 : Nat) (Option.some Jvm.ClassFile.FieldType.long), Jvm.Cond.code ({ cls := "java/lang/Long", name := "divideUnsigned", desc := "(JJ)J" } : Jvm.MethodName) jdk_35_method_44_code (8 : Nat) (Option.some Jvm.ClassFile.FieldType.long), Jvm.Cond.code ({ cls := "java/lang/Math", name := "multiplyHigh", desc := "(JJ)J" } : Jvm.MethodName) jdk_29_method_45_code (20 : Nat) (Option.some Jvm.ClassFile.FieldType.long)]
set_option maxRecDepth 65536 in
theorem codes_eq : words1.filter isCode = codes1 := rfl
theorem w_codes : ∀ c ∈ words1.filter isCode, c.before args0 about1 = true := by
  rw [codes_eq]
  intro c hc
  simp only [codes1, List.mem_cons, List.not_mem_nil, or_false] at hc
  rcases hc with rfl | rfl | rfl | rfl | rfl | rfl | rfl | rfl | rfl | rfl | rfl | rfl
  · exact w_c0
  · exact w_c1
  · exact w_c2
  · exact w_c3
  · exact w_c4
  · exact w_c5
  · exact w_c6
  · exact w_c7
  · exact w_c8
  · exact w_c9
  · exact w_c10
  · exact w_c11
set_option maxRecDepth 65536 in
theorem w_t1 : (words1.take 24).all (fun c => isCode c || c.before args0 about1) = true := by decide +kernel
set_option maxRecDepth 65536 in
theorem w_t2 : ((words1.drop 24).take 24).all (fun c => isCode c || c.before args0 about1) = true := by decide +kernel
set_option maxRecDepth 65536 in
theorem w_t3 : ((words1.drop 24).drop 24).all (fun c => isCode c || c.before args0 about1) = true := by decide +kernel
theorem w_tables : (allAtoms (Jvm.Cond.code x code maxLocals ret :: tables_1)).before args0 about1 = true := by
  rw [allAtoms_all]
  show words1.all (fun c => c.before args0 about1) = true
  refine all_split ?_ w_codes
  rw [← List.take_append_drop 24 words1, List.all_append, w_t1, ← List.take_append_drop 24 (words1.drop 24), List.all_append, w_t2, w_t3]
  rfl
set_option maxRecDepth 65536 in
theorem w_case : (Jvm.Cond.and given_1 narrow_1).before args0 about1 = true := by decide +kernel
theorem w_applies : (headSpec (Jvm.Cond.code x code maxLocals ret :: tables_1) room_1).applies x e0.platform about1 = true :=
  (Spec.applies_iff w_frames).mpr ⟨w_running, w_runnable, w_alone, w_named, w_hears, w_ripe, w_room, w_tables⟩
theorem atStart : AtStart classFile x code maxLocals ret World_1 tables_1 room_1 Calls_1 rest_1 Pre_1 launch0 p0 e0 about1 theMethod args0 below0 :=
  ⟨lists_1, trivial, launch0.admits_env _ _ _, launch0.least_env, fairChoices_fair.cas, fairChoices_fair.clock, w_frames, w_args, w_heap, w_applies, trivial, trivial, w_case⟩
end start1
theorem witness_1 : WitnessClaimed_1 := ⟨start1.p0, start1.e0, start1.about1, start1.theMethod, start1.args0, start1.below0, start1.atStart⟩
end Jvm.Pilot.@@N@@
