import JvmDerived
import JvmDerived.Pilot.@@N@@Statement
import JvmDerived.Pilot.@@N@@Code
set_option linter.unusedVariables false
set_option linter.unusedSimpArgs false
@@BLOCK:HandJ.lean.txt@@
@@BLOCK:SymMore.lean.txt@@
namespace Jvm.RoadKit
open Sem ClassFile Op Lib Jvm.Stand Jvm.Free Jvm.LawKit
section New
variable {p : Program} {l : Launch} {e : Env} {R : Room} {s : State} {m : MethodId} {args : Array Value} {below : List Frame} {meth : Method} {c : Code} {T : State} {locs : List Loc} {cells slots : Nat}
/-- what a body hands back: the value r, and K of the heap and the places at its end -/
def own_Q (r : Option Value) (K : Heap → List Loc → Prop) (v : Option Value) (h : Heap) (L : List Loc) : Prop := v = r ∧ K h L
/-- nothing is written, nothing is made -/
def own_K0 (h0 : Heap) (h : Heap) (L : List Loc) : Prop := L = [] ∧ h = h0
/-- from F on the run returns r with K -/
def own_Go (p : Program) (e : Env) (below : List Frame) (s : State) (C N : Nat) (r : Option Value) (K : Heap → List Loc → Prop) (F : State) : Prop :=
  ∃ s₂ o, Steps p.tables e below F s₂ ∧ s₂.status = .running ∧ Ended s₂ below o ∧ ∃ v L, o = .returned v ∧ own_Q r K v s₂.heap L ∧ FrameEnd s o s₂ L C N
theorem own_pre {C N : Nat} {r : Option Value} {K : Heap → List Loc → Prop} {F F' : State} (h : ∀ t, Steps p.tables e below F' t → Steps p.tables e below F t) (g : own_Go p e below s C N r K F') : own_Go p e below s C N r K F := by
  obtain ⟨t, o, a, b⟩ := g
  exact ⟨t, o, h t a, b⟩
theorem own_iteI {C N : Nat} {K : Heap → List Loc → Prop} {F : State} {P : Prop} [Decidable P] {a b : Int32} (h1 : P → own_Go p e below s C N (some (.int a)) K F) (h2 : ¬ P → own_Go p e below s C N (some (.int b)) K F) : own_Go p e below s C N (some (.int (if P then a else b))) K F := by
  by_cases q : P
  · rw [if_pos q]; exact h1 q
  · rw [if_neg q]; exact h2 q
theorem own_iteJ {C N : Nat} {K : Heap → List Loc → Prop} {F : State} {P : Prop} [Decidable P] {a b : Int64} (h1 : P → own_Go p e below s C N (some (.long a)) K F) (h2 : ¬ P → own_Go p e below s C N (some (.long b)) K F) : own_Go p e below s C N (some (.long (if P then a else b))) K F := by
  by_cases q : P
  · rw [if_pos q]; exact h1 q
  · rw [if_neg q]; exact h2 q
theorem own_iteR {C N : Nat} {K : Heap → List Loc → Prop} {F : State} {P : Prop} [Decidable P] {a b : Addr} (h1 : P → own_Go p e below s C N (some (.ref a)) K F) (h2 : ¬ P → own_Go p e below s C N (some (.ref b)) K F) : own_Go p e below s C N (some (.ref (if P then a else b))) K F := by
  by_cases q : P
  · rw [if_pos q]; exact h1 q
  · rw [if_neg q]; exact h2 q
theorem own_iteV {C N : Nat} {K : Heap → List Loc → Prop} {F : State} {P : Prop} [Decidable P] {a b : Value} (h1 : P → own_Go p e below s C N (some a) K F) (h2 : ¬ P → own_Go p e below s C N (some b) K F) : own_Go p e below s C N (some (if P then a else b)) K F := by
  by_cases q : P
  · rw [if_pos q]; exact h1 q
  · rw [if_neg q]; exact h2 q
theorem own_ret (X : Stand p l e R s m args below meth c T locs cells slots) (hx : p.tables.exec = Jvm.exec) (hlocks : meth.locks = false) {pc : Nat} {Ls : Array Slot} {w : Value} {t : FieldType} {i : Instr} {rest : List Value} {C N : Nat} {K : Heap → List Loc → Prop} (hret : meth.sig.returnType = some t) (hn : narrow t w = w)
    (hi : (i = .ireturn ∧ (t = .int ∨ t = .boolean ∨ t = .byte ∨ t = .char ∨ t = .short) ∧ ∃ z, w = .int z) ∨ (i = .lreturn ∧ t = .long ∧ ∃ z, w = .long z) ∨ (i = .areturn ∧ t.isReference = true ∧ w.isRef = true))
    (hd : decode c.code pc = .ok (i, 1)) (hK : K T.heap locs) (hC : cells ≤ C) (hN : slots ≤ N) : own_Go p e below s C N (some w) K (T.setTop (mkF m pc Ls (w :: rest))) := by
  obtain ⟨fs, hr, hrun, hended, hW, hsame⟩ := X.leave (v := some w) (fun h => by rw [hret] at h; cases h)
  refine ⟨_, _, retOut X hx hret hn ?_ hd hr, hrun, hended, _, _, rfl, ⟨rfl, hK⟩, ⟨_, rfl⟩, hW, hsame.mono hC hN⟩
  rcases hi with h | h | h
  · exact Or.inl h
  · exact Or.inr (Or.inl h)
  · exact Or.inr (Or.inr (Or.inr (Or.inr h)))
theorem own_retN (X : Stand p l e R s m args below meth c T locs cells slots) (hx : p.tables.exec = Jvm.exec) (hlocks : meth.locks = false) {pc : Nat} {Ls : Array Slot} {z : Int32} {t : FieldType} {rest : List Value} {C N : Nat} {K : Heap → List Loc → Prop} (hret : meth.sig.returnType = some t) (ht : t = .boolean ∨ t = .byte ∨ t = .char ∨ t = .short)
    (hd : decode c.code pc = .ok (.ireturn, 1)) (hK : K T.heap locs) (hC : cells ≤ C) (hN : slots ≤ N) : own_Go p e below s C N (some (.int (nar t z))) K (T.setTop (mkF m pc Ls (.int z :: rest))) := by
  obtain ⟨fs, hr, hrun, hended, hW, hsame⟩ := X.leave (v := some (.int (nar t z))) (fun h => by rw [hret] at h; cases h)
  exact ⟨_, _, retN X hx hret ht hd hr, hrun, hended, _, _, rfl, ⟨rfl, hK⟩, ⟨_, rfl⟩, hW, hsame.mono hC hN⟩
theorem own_retV (X : Stand p l e R s m args below meth c T locs cells slots) (hx : p.tables.exec = Jvm.exec) (hlocks : meth.locks = false) {pc : Nat} {Ls : Array Slot} {C N : Nat} {K : Heap → List Loc → Prop} (hret : meth.sig.returnType = none)
    (hd : decode c.code pc = .ok (.return_, 1)) (hK : K T.heap locs) (hC : cells ≤ C) (hN : slots ≤ N) : own_Go p e below s C N none K (T.setTop (mkF m pc Ls [])) := by
  obtain ⟨fs, hr, hrun, hended, hW, hsame⟩ := X.leave (v := none) (fun _ => rfl)
  exact ⟨_, _, X.returnOut hx hret hd hr, hrun, hended, _, _, rfl, ⟨rfl, hK⟩, ⟨_, rfl⟩, hW, hsame.mono hC hN⟩
theorem own_lremM {g : JFrame} {target : State} (X : Stand p l e R s m args below meth c T locs cells slots) (hx : p.tables.exec = Jvm.exec) (hg : g.method = m) {x y : Int64} {rest : List Value} (hd : decode c.code g.pc = .ok (.lrem, 1)) (hs : g.stack = .long y :: .long x :: rest) (hy : y ≠ 0)
    (hr : Steps p.tables e below (T.setTop { g with pc := g.pc + 1, stack := .long (x % y) :: rest }) target) : Steps p.tables e below (T.setTop g) target :=
  XS.lrem X.here hx hg hd hs hy (by rw [lrem_mod]; exact hr)
theorem own_cat {v : Value} (h : v.isRef = true) : v.category = 1 := by rcases ref_cases h with rfl | ⟨a, rfl⟩ <;> rfl
theorem own_nar (z : Int32) : nar .boolean z = z &&& 1 := rfl
end New
end Jvm.RoadKit
namespace Jvm.RoadKit
open Sem ClassFile Op Lib Jvm.Stand Jvm.Free Jvm.LawKit
section New2
variable {p : Program} {l : Launch} {e : Env} {R : Room} {s : State} {m : MethodId} {args : Array Value} {below : List Frame} {meth : Method} {c : Code} {T : State} {locs : List Loc} {cells slots : Nat}
theorem own_iteT {α : Type} {C N : Nat} (R : α → Option Value) (K : α → Heap → List Loc → Prop) {F : State} {P : Prop} [Decidable P] {a b : α} (h1 : P → own_Go p e below s C N (R a) (K a) F) (h2 : ¬ P → own_Go p e below s C N (R b) (K b) F) : own_Go p e below s C N (R (if P then a else b)) (K (if P then a else b)) F := by
  by_cases q : P
  · rw [if_pos q]; exact h1 q
  · rw [if_neg q]; exact h2 q
theorem own_staKeep {Z : State} {h h' : Heap} {C n d : String} {w : Value} {ws : List Addr} (F : Sta Z h C n d w) (K : Keep h h' ws) (q : ∀ x ∈ ws, ∀ c : Cell, h[x]? = some c → c.vm.isStatics = false) : Sta Z h' C n d w := by
  obtain ⟨cf, i, k, f, st, cell, h1, h2, h3, h4, h5, h6, h7⟩ := F
  exact ⟨cf, i, k, f, st, cell, h1, h2, h3, h4, K.2.1 _ _ h5 (fun hm => by have := q st hm cell h5; rw [h6] at this; cases this), h6, h7⟩
theorem own_nost1 {Z : State} {h : Heap} {a : Addr} {C : String} (E : Exa Z h a C) : ∀ x ∈ [a], ∀ c : Cell, h[x]? = some c → c.vm.isStatics = false := fun x hx c hc => by
  cases List.mem_singleton.mp hx; exact E.nostat c hc
theorem own_locs (X : Stand p l e R s m args below meth c T (locs ++ []) cells slots) : Stand p l e R s m args below meth c T locs cells slots := by rw [List.append_nil] at X; exact X
theorem own_KF {n0 : Nat} {h : Heap} {L : List Loc} (N : Fr n0 L) : (fun (_ : Heap) (L : List Loc) => Fr n0 L) h L := N
end New2
end Jvm.RoadKit
namespace Jvm.RoadKit
open Sem ClassFile Op Lib Jvm.Stand Jvm.Free Jvm.LawKit
section New3
variable {p : Program} {l : Launch} {e : Env} {R : Room} {s : State} {m : MethodId} {args : Array Value} {below : List Frame} {meth : Method} {c : Code} {T : State} {locs : List Loc} {cells slots : Nat} {Z : State} {h h' : Heap} {a b : Addr} {z j : Int32} {ty : FieldType}
/-- an int[] of the length z that holds l -/
def own_Iv (Z : State) (h : Heap) (a : Addr) (z : Int32) (l : List Int32) : Prop := ∃ k, Arv Z h a k .int z (l.map Value.int) (.int 0)
/-- an array of the length z, whatever it holds -/
def own_Ar (Z : State) (h : Heap) (a : Addr) (ty : FieldType) (z : Int32) : Prop := ∃ k vs, Arv Z h a k ty z vs (.int 0) ∧ vs.length = z.toNatClampNeg
theorem own_Iv.ext {l : List Int32} (F : own_Iv Z h a z l) (E : Ext h h') : own_Iv Z h' a z l := by obtain ⟨k, A⟩ := F; exact ⟨k, A.ext E⟩
theorem own_Iv.other {l : List Int32} {sl : Nat} {v : Value} (F : own_Iv Z h a z l) (W : Wr h h' b sl v) (q : a ≠ b) : own_Iv Z h' a z l := by obtain ⟨k, A⟩ := F; exact ⟨k, A.other W q⟩
theorem own_Iv.keep {l : List Int32} {ws : List Addr} (F : own_Iv Z h a z l) (K : Keep h h' ws) (q : a ∉ ws) : own_Iv Z h' a z l := by obtain ⟨k, A⟩ := F; exact ⟨k, A.keep K q⟩
theorem own_Iv.lt {l : List Int32} (F : own_Iv Z h a z l) : a < h.size := by obtain ⟨k, A⟩ := F; exact A.lt
theorem own_Ar.ext (F : own_Ar Z h a ty z) (E : Ext h h') : own_Ar Z h' a ty z := by obtain ⟨k, vs, A, q⟩ := F; exact ⟨k, vs, A.ext E, q⟩
theorem own_Ar.other {sl : Nat} {v : Value} (F : own_Ar Z h a ty z) (W : Wr h h' b sl v) (q : a ≠ b) : own_Ar Z h' a ty z := by obtain ⟨k, vs, A, r⟩ := F; exact ⟨k, vs, A.other W q, r⟩
theorem own_Ar.keep {ws : List Addr} (F : own_Ar Z h a ty z) (K : Keep h h' ws) (q : a ∉ ws) : own_Ar Z h' a ty z := by obtain ⟨k, vs, A, r⟩ := F; exact ⟨k, vs, A.keep K q, r⟩
theorem own_Ar.lt (F : own_Ar Z h a ty z) : a < h.size := by obtain ⟨k, vs, A, q⟩ := F; exact A.lt
theorem own_Iv.ar {l : List Int32} (F : own_Iv Z h a z l) (q : l.length = z.toNatClampNeg) : own_Ar Z h a .int z := by obtain ⟨k, A⟩ := F; exact ⟨k, _, A, by rw [List.length_map]; exact q⟩
theorem own_inZ (h1 : ¬ j < 0) (h2 : j < z) : j.toNatClampNeg < z.toNatClampNeg := by
  rw [Int32.lt_iff_toInt_lt] at h1 h2
  have e0 : (0 : Int32).toInt = 0 := rfl
  simp only [Int32.toNatClampNeg]; omega
theorem own_Ar.set {c : Cell} {k : ClassId} {vs : List Value} {v : Value} (A : Arr Z h a c ty) (q1 : c.cls = k) (S : c.slots.size = z.toNatClampNeg) (q3 : ¬ z < 0) (H : Has c vs (.int 0)) (G : ∀ i, i < c.slots.size → fits ty (vs.getD i (.int 0)) = true) (hl : vs.length = z.toNatClampNeg) (hv : fits ty v = true) (W : Wr h h' a j.toNatClampNeg v) (h1 : ¬ j < 0) (h2 : j < z) : own_Ar Z h' a ty z :=
  ⟨k, _, Arv.set A q1 S q3 H G hv W _ rfl (by rw [hl]; exact own_inZ h1 h2), by rw [List.length_set]; exact hl⟩
theorem own_arNew {k : ClassId} (A : Arr Z h a (newA k ty z) ty) (q : ¬ z < 0) (hd : defaultValue ty = .int 0) : own_Ar Z h a ty z := by
  have := Arv.new A q
  rw [hd] at this
  exact ⟨k, _, this.pad (pad_rep [] (.int 0) z.toNatClampNeg), by simp⟩
theorem own_cp {vd us : List Value} {dp nn : Int32} {k : ClassId} (A : Arv Z h a k ty z (vd.take dp.toNatClampNeg ++ us ++ vd.drop (dp.toNatClampNeg + nn.toNatClampNeg)) (.int 0)) (hl : vd.length = z.toNatClampNeg) (hu : us.length = nn.toNatClampNeg) (h5 : dp.toNatClampNeg + nn.toNatClampNeg ≤ z.toNatClampNeg) : own_Ar Z h a ty z :=
  ⟨k, _, A, by simp only [List.length_append, List.length_take, List.length_drop, hl, hu]; omega⟩
/-- what lies below b is kept -/
def own_Low (b : Addr) (h h' : Heap) : Prop := ∃ ws, Keep h h' ws ∧ ∀ x ∈ ws, b ≤ x
theorem own_Low.size {b : Addr} (K : own_Low b h h') : h.size ≤ h'.size := by obtain ⟨ws, K, -⟩ := K; exact K.1
theorem own_Iv.low {l : List Int32} (F : own_Iv Z h a z l) (K : own_Low b h h') (q : a < b) : own_Iv Z h' a z l := by
  obtain ⟨ws, K, hb⟩ := K; exact F.keep K (fun hm => absurd (hb a hm) (Nat.not_le_of_lt q))
theorem own_neL {x : Addr} (h1 : a < b) (h2 : b < x) : a ≠ x := Nat.ne_of_lt (Nat.lt_trans h1 h2)
theorem own_met {l : Launch} {y : MethodName} {S : Spec} {P : Array Value → State → Prop} {r : Option Value} {K K' : Heap → List Loc → Prop} {C N : Nat} (h : MetFree l y S P (fun _ _ _ _ _ => True) (fun _ U o U' => ∃ v L, o = .returned v ∧ own_Q r K v U'.heap L ∧ FrameEnd U o U' L C N)) (hK : ∀ hp L, K hp L → K' hp L) : MetFree l y S P (fun _ _ _ _ _ => True) (fun _ U o U' => ∃ v L, o = .returned v ∧ own_Q r K' v U'.heap L ∧ FrameEnd U o U' L C N) := by
  intro p e ha hc hk s m args below hf happ hP hT
  obtain ⟨n, o, h1, h2, h3, v, L, rfl, ⟨rfl, hq⟩, hF⟩ := h p e ha hc hk s m args below hf happ hP hT
  exact ⟨n, _, h1, h2, h3, _, L, rfl, ⟨rfl, hK _ _ hq⟩, hF⟩
/-- an int[] of the width w (1 or 4) that holds these words -/
def own_G (Z : State) (h : Heap) (a : Addr) (w l0 l1 l2 l3 : Int32) : Prop := ∃ z l, own_Iv Z h a z l ∧ (w = 1 → z = 1 ∧ l = [l0]) ∧ (w = 4 → z = 4 ∧ l = [l0, l1, l2, l3])
section G
variable {w l0 l1 l2 l3 : Int32}
theorem own_G.ext (F : own_G Z h a w l0 l1 l2 l3) (E : Ext h h') : own_G Z h' a w l0 l1 l2 l3 := by obtain ⟨z, l, A, q⟩ := F; exact ⟨z, l, A.ext E, q⟩
theorem own_G.other {sl : Nat} {v : Value} (F : own_G Z h a w l0 l1 l2 l3) (W : Wr h h' b sl v) (q : a ≠ b) : own_G Z h' a w l0 l1 l2 l3 := by obtain ⟨z, l, A, r⟩ := F; exact ⟨z, l, A.other W q, r⟩
theorem own_G.keep {ws : List Addr} (F : own_G Z h a w l0 l1 l2 l3) (K : Keep h h' ws) (q : a ∉ ws) : own_G Z h' a w l0 l1 l2 l3 := by obtain ⟨z, l, A, r⟩ := F; exact ⟨z, l, A.keep K q, r⟩
theorem own_G.low (F : own_G Z h a w l0 l1 l2 l3) (K : own_Low b h h') (q : a < b) : own_G Z h' a w l0 l1 l2 l3 := by obtain ⟨z, l, A, r⟩ := F; exact ⟨z, l, A.low K q, r⟩
theorem own_G.lt (F : own_G Z h a w l0 l1 l2 l3) : a < h.size := by obtain ⟨z, l, A, r⟩ := F; exact A.lt
theorem own_G.iv1 (F : own_G Z h a 1 l0 l1 l2 l3) : own_Iv Z h a 1 [l0] := by obtain ⟨z, l, A, r, -⟩ := F; obtain ⟨rfl, rfl⟩ := r rfl; exact A
theorem own_G.iv4 (F : own_G Z h a 4 l0 l1 l2 l3) : own_Iv Z h a 4 [l0, l1, l2, l3] := by obtain ⟨z, l, A, -, r⟩ := F; obtain ⟨rfl, rfl⟩ := r rfl; exact A
theorem own_G.of1 (A : own_Iv Z h a 1 [l0]) : own_G Z h a 1 l0 l1 l2 l3 := ⟨_, _, A, fun _ => ⟨rfl, rfl⟩, fun h => absurd h (by decide)⟩
theorem own_G.of4 (A : own_Iv Z h a 4 [l0, l1, l2, l3]) : own_G Z h a 4 l0 l1 l2 l3 := ⟨_, _, A, fun h => absurd h (by decide), fun _ => ⟨rfl, rfl⟩⟩
theorem own_G.ar (F : own_G Z h a w l0 l1 l2 l3) (HD : w = 1 ∨ w = 4) : own_Ar Z h a .int w := by
  rcases HD with rfl | rfl
  · exact F.iv1.ar rfl
  · exact F.iv4.ar rfl
theorem own_gNew {k : ClassId} (A : Arr Z h a (newA k .int w) .int) (HD : w = 1 ∨ w = 4) : own_G Z h a w 0 0 0 0 := by
  rcases HD with rfl | rfl
  · exact own_G.of1 ⟨_, (Arv.new A (by decide)).pad (pad_rep [] (.int 0) 1)⟩
  · exact own_G.of4 ⟨_, (Arv.new A (by decide)).pad (pad_rep [] (.int 0) 4)⟩
end G
theorem own_ArZ (F : own_Ar Z h a ty 0) : own_Ar Z h a ty (0 * z) := by rw [show (0 : Int32) * z = 0 from Int32.zero_mul]; exact F
end New3
end Jvm.RoadKit
namespace Jvm.RoadKit
open Sem ClassFile Op Lib Jvm.Stand Jvm.Free Jvm.LawKit
section New4
variable {Z : State} {h h' h'' : Heap} {a b : Addr} {z : Int32} {l : List Value}
/-- an int[][] of the length z that holds l -/
def own_Rv (Z : State) (h : Heap) (a : Addr) (z : Int32) (l : List Value) : Prop := ∃ k, Arv Z h a k (.array .int) z l .null ∧ OvrA Z k .int "[I"
theorem own_Rv.ext (F : own_Rv Z h a z l) (E : Ext h h') : own_Rv Z h' a z l := by obtain ⟨k, A, o⟩ := F; exact ⟨k, A.ext E, o⟩
theorem own_Rv.other {sl : Nat} {v : Value} (F : own_Rv Z h a z l) (W : Wr h h' b sl v) (q : a ≠ b) : own_Rv Z h' a z l := by obtain ⟨k, A, o⟩ := F; exact ⟨k, A.other W q, o⟩
theorem own_Rv.keep {ws : List Addr} (F : own_Rv Z h a z l) (K : Keep h h' ws) (q : a ∉ ws) : own_Rv Z h' a z l := by obtain ⟨k, A, o⟩ := F; exact ⟨k, A.keep K q, o⟩
theorem own_Rv.low (F : own_Rv Z h a z l) (K : own_Low b h h') (q : a < b) : own_Rv Z h' a z l := by
  obtain ⟨ws, K, hb⟩ := K; exact F.keep K (fun hm => absurd (hb a hm) (Nat.not_le_of_lt q))
theorem own_Rv.lt (F : own_Rv Z h a z l) : a < h.size := by obtain ⟨k, A, -⟩ := F; exact A.lt
theorem own_Low.refl : own_Low b h h := ⟨[], Keep.refl _ _, fun _ q => absurd q (List.not_mem_nil)⟩
theorem own_Low.trans (K : own_Low b h h') (K' : own_Low b h' h'') : own_Low b h h'' := by
  obtain ⟨ws, K, hb⟩ := K
  obtain ⟨ws', K', hb'⟩ := K'
  refine ⟨ws ++ ws', ?_, fun x hx => (List.mem_append.1 hx).elim (hb x) (hb' x)⟩
  have M : Keep h h' (ws ++ ws') := ⟨K.1, fun x c q r => K.2.1 x c q (fun m => r (List.mem_append_left _ m)), K.2.2⟩
  exact M.trans K' (fun x hx => Or.inl (List.mem_append_right _ hx))
end New4
end Jvm.RoadKit
namespace Jvm.Pilot.@@N@@
open Jvm Jvm.ClassFile Sem Op Lib Jvm.Free Jvm.Stand Jvm.LawKit Jvm.RoadKit Bundle Jvm.Pilot.@@N@@.Jvm.D
abbrev cB : String := "com/example/gentle_endpoints/gentleendpoints/RangeTable$Builder"
abbrev cS : String := "com/example/gentle_endpoints/gentleendpoints/RangeTable$Segments"
abbrev dS : String := "Lcom/example/gentle_endpoints/gentleendpoints/RangeTable$Segments;"
abbrev cT : String := "com/example/gentle_endpoints/gentleendpoints/RangeTable"
abbrev cL : String := "com/example/gentle_endpoints/gentleendpoints/BuilderAllocatePinLaw"
abbrev lv (x : Int64) : Jvm.Slot := .val (.long x)
abbrev se : Jvm.Slot := .second
abbrev Qz : Room := { frames := 0, cells := 0, slots := 0, locals := 0 }
abbrev De (c : ByteArray) (i : Nat) (o : Instr) (n : Nat) : Prop := decode c i = .ok (o, n)
abbrev uu : Jvm.Slot := .unset
abbrev HW (aw : Array Value) (Z : State) : Prop := ∀ d ∈ tables_1, d.before aw Z = true
theorem ow {aw : Array Value} {Z : State} (hw : HW aw Z) {d : Jvm.Cond} (i : Nat) (h : tables_1[i]? = some d) : d.before aw Z = true := hw d (List.mem_of_getElem? h)
theorem op {p : Program} {e : Env} {below : List Frame} {s : State} {C N : Nat} {r : Option Value} {K : Heap → List Loc → Prop} {F : State} (T' : State) (g' : JFrame) (h : ∀ t, Steps p.tables e below (T'.setTop g') t → Steps p.tables e below F t) (g : own_Go p e below s C N r K (T'.setTop g')) : own_Go p e below s C N r K F := own_pre h g
/-- a field's place, with its type -/
def LaT (Z : State) (aw : Array Value) (C O n d : String) : Prop := Laid Z aw C O n d ∧ ∃ t, parseFieldDescriptor d = some t
abbrev NS (Z : State) (O n d O' n' d' : String) : Prop := Jvm.RoadKit.slotOf Z O n d ≠ Jvm.RoadKit.slotOf Z O' n' d'
theorem own_sn {Z : State} {aw : Array Value} {C O n d O' n' d' : String} (L : LaT Z aw C O n d) (L' : LaT Z aw C O' n' d') (hn : n ≠ n') : Jvm.RoadKit.slotOf Z O n d ≠ Jvm.RoadKit.slotOf Z O' n' d' := by
  obtain ⟨L, t, q⟩ := L; obtain ⟨L', t', q'⟩ := L'; exact slot_ne L L' hn q q'
variable {p : Program} {l : Launch} {e : Env} {s : State} {m : MethodId} {below : List Frame} {meth : Method} {c : Code} {s₁ : State} {ws : List Jvm.Cond} {Z : State} {aw : Array Value}
abbrev Gj : ByteArray := prog_20_method_9_code
abbrev Gn : ByteArray := prog_20_method_3_code
abbrev Go : ByteArray := prog_18_method_2_code
abbrev Gs : ByteArray := method_6_code
abbrev Ho : ByteArray := prog_20_method_4_code
abbrev Hp : ByteArray := prog_18_method_3_code
abbrev Jc : ByteArray := prog_18_method_1_code
abbrev Jd : ByteArray := method_5_code
abbrev Je : ByteArray := prog_20_method_1_code
abbrev Jf : ByteArray := prog_17_method_6_code
abbrev Jg : ByteArray := prog_20_method_10_code
abbrev Mc : ByteArray := prog_20_method_5_code
abbrev Md : ByteArray := prog_18_method_4_code
abbrev Me : ByteArray := prog_20_method_2_code
abbrev U8 : ByteArray := method_3_code
abbrev U9 : ByteArray := method_4_code
abbrev Ub : ByteArray := prog_20_method_8_code
abbrev Um : ByteArray := jdk_33_method_40_code
abbrev Un : ByteArray := prog_20_method_7_code
abbrev Uu : ByteArray := method_2_code
abbrev Uz : ByteArray := jdk_33_method_41_code
abbrev Wb : ByteArray := jdk_29_method_69_code
theorem own_n0 {x : Int32} (h : 0 ≤ x.toInt) : ¬ x < 0 := by rw [Int32.lt_iff_toInt_lt, show (0 : Int32).toInt = 0 from rfl]; omega
theorem own_nn {x : Int32} (h : 0 ≤ x.toInt) : (x.toNatClampNeg : Int) = x.toInt := by simp only [Int32.toNatClampNeg]; omega
theorem own_m1 {x : Int32} (h : 0 ≤ x.toInt) (h2 : x.toInt ≤ 100) : (x * (1 : Int32)).toInt = x.toInt := by
  have a := c_imul x 1; have r := rng32 (x * 1); rw [show (1 : Int32).toInt = 1 from rfl] at a; omega
theorem own_m2 {x : Int32} (h : 0 ≤ x.toInt) (h2 : x.toInt ≤ 100) : (x * (2 : Int32)).toInt = x.toInt * 2 := by
  have a := c_imul x 2; have r := rng32 (x * 2); rw [show (2 : Int32).toInt = 2 from rfl] at a; omega
theorem own_m4 {x : Int32} (h : 0 ≤ x.toInt) (h2 : x.toInt ≤ 100) : (x * (4 : Int32)).toInt = x.toInt * 4 := by
  have a := c_imul x 4; have r := rng32 (x * 4); rw [show (4 : Int32).toInt = 4 from rfl] at a; omega
theorem own_m0 {x : Int32} (h : 0 ≤ x.toInt) (h2 : x.toInt ≤ 100) : (x * (0 : Int32)).toInt = 0 := by
  have a := c_imul x 0; have r := rng32 (x * 0); rw [show (0 : Int32).toInt = 0 from rfl] at a; omega
theorem own_c1 {x n : Int32} (h : 0 ≤ x.toInt) (h1 : x < n) (h2 : n.toInt ≤ 100) : ¬ (x * (1 : Int32)) < 0 ∧ (x * (1 : Int32)).toNatClampNeg + (1 : Int32).toNatClampNeg ≤ (n * (1 : Int32)).toNatClampNeg := by
  rw [Int32.lt_iff_toInt_lt] at h1
  have a := own_m1 h (by omega); have b := own_m1 (x := n) (by omega) h2
  have a' := own_nn (x := x * 1) (by omega); have b' := own_nn (x := n * 1) (by omega)
  refine ⟨own_n0 (by omega), ?_⟩
  have : (1 : Int32).toNatClampNeg = 1 := rfl
  omega
theorem own_c2 {x n : Int32} (h : 0 ≤ x.toInt) (h1 : x < n) (h2 : n.toInt ≤ 100) : ¬ (x * (2 : Int32)) < 0 ∧ (x * (2 : Int32)).toNatClampNeg + (2 : Int32).toNatClampNeg ≤ (n * (2 : Int32)).toNatClampNeg := by
  rw [Int32.lt_iff_toInt_lt] at h1
  have a := own_m2 h (by omega); have b := own_m2 (x := n) (by omega) h2
  have a' := own_nn (x := x * 2) (by omega); have b' := own_nn (x := n * 2) (by omega)
  refine ⟨own_n0 (by omega), ?_⟩
  have : (2 : Int32).toNatClampNeg = 2 := rfl
  omega
theorem own_c4 {x n : Int32} (h : 0 ≤ x.toInt) (h1 : x < n) (h2 : n.toInt ≤ 100) : ¬ (x * (4 : Int32)) < 0 ∧ (x * (4 : Int32)).toNatClampNeg + (4 : Int32).toNatClampNeg ≤ (n * (4 : Int32)).toNatClampNeg := by
  rw [Int32.lt_iff_toInt_lt] at h1
  have a := own_m4 h (by omega); have b := own_m4 (x := n) (by omega) h2
  have a' := own_nn (x := x * 4) (by omega); have b' := own_nn (x := n * 4) (by omega)
  refine ⟨own_n0 (by omega), ?_⟩
  have : (4 : Int32).toNatClampNeg = 4 := rfl
  omega
/-! body 17 -/
theorem d17_0 : De Um 0 (.iload_n 0) 1 := by decide +kernel
theorem d17_1 : De Um 1 (.iload_n 1) 1 := by decide +kernel
theorem d17_2 : De Um 2 (.if_icmp .ge 7) 3 := by decide +kernel
theorem d17_5 : De Um 5 (.iconst (-1)) 1 := by decide +kernel
theorem d17_6 : De Um 6 (.goto 13) 3 := by decide +kernel
theorem d17_9 : De Um 9 (.iload_n 0) 1 := by decide +kernel
theorem d17_10 : De Um 10 (.iload_n 1) 1 := by decide +kernel
theorem d17_11 : De Um 11 (.if_icmp .ne 7) 3 := by decide +kernel
theorem d17_14 : De Um 14 (.iconst 0) 1 := by decide +kernel
theorem d17_15 : De Um 15 (.goto 4) 3 := by decide +kernel
theorem d17_18 : De Um 18 (.iconst 1) 1 := by decide +kernel
theorem d17_19 : De Um 19 (.ireturn) 1 := by decide +kernel
theorem own_pn0 : plainName "java/lang/Integer" = true := by first | (simp [plainName, overriddenIn]; done) | decide +kernel
def f17_0 (p0 p1 : Int32) : Int32 := (if p0 < p1 then (-1 : Int32) else (if p0 = p1 then (0 : Int32) else (1 : Int32)))
set_option maxRecDepth 65536 in
set_option maxHeartbeats 40000000 in
theorem g17_0 (hw : HW aw Z) {h0 : Heap} (p0 p1 : Int32)
    (Bd : BodyLoose p l (⟨"java/lang/Integer", "compare", "(II)I"⟩ : MethodName) (head1 (Jvm.Cond.code (⟨"java/lang/Integer", "compare", "(II)I"⟩ : MethodName) Um 2 (some .int) :: ws) Qz) Um 2 (some .int) e s m #[(.int p0), (.int p1)] below meth c s₁) (hml : c.maxLocals = 2) (hZ : Z.Warmed39 s.vm) (T0 : State) (X0 : Stand p l e Qz s m #[(.int p0), (.int p1)] below meth c T0 [] 0 0) (e0 : T0.heap = h0) :
    own_Go p e below s Qz.cells Qz.slots (some (.int (f17_0 p0 p1))) (own_K0 h0) (T0.setTop (mkF m 0 #[iv p0, iv p1] [])) := by
  have hx := Bd.exec
  have hby := Bd.bytes
  have hown : s.vm.findClass "java/lang/Integer" = some m.cls := findClass_of_methodNamed Bd.named
  unfold f17_0
  refine op T0 (mkF m 2 #[iv p0, iv p1] [(.int p1), (.int p0)]) (fun _ k => XS.iloadN X0.here hx rfl (hb hby d17_0) rfl (XS.iloadN X0.here hx rfl (hb hby d17_1) rfl k)) ?_
  refine own_iteI (fun hc2 => ?_) (fun hc2 => ?_)
  · skip
    refine op T0 (mkF m 19 #[iv p0, iv p1] [(.int (-1 : Int32))]) (fun _ k => XS.icmpNo X0.here hx rfl (hb hby d17_2) rfl (tlt hc2).2.1 (XS.iconst X0.here hx rfl (hb hby d17_5) (XS.goto X0.here hx rfl (pc0 := 6) (pc' := 19) rfl (hb hby d17_6) (by decide) (by decide) k))) ?_
    exact own_ret X0 hx Bd.notSynchronized Bd.returns rfl (Or.inl ⟨rfl, by simp, _, rfl⟩) (hb hby d17_19) ⟨rfl, e0⟩ (by decide) (by decide)
  · skip
    refine op T0 (mkF m 11 #[iv p0, iv p1] [(.int p1), (.int p0)]) (fun _ k => XS.icmpYes X0.here hx rfl (pc0 := 2) (pc' := 9) rfl (hb hby d17_2) rfl (flt hc2).2.1 (by decide) (by decide) (XS.iloadN X0.here hx rfl (hb hby d17_9) rfl (XS.iloadN X0.here hx rfl (hb hby d17_10) rfl k))) ?_
    refine own_iteI (fun hc11 => ?_) (fun hc11 => ?_)
    · skip
      refine op T0 (mkF m 19 #[iv p0, iv p1] [(.int 0)]) (fun _ k => XS.icmpNo X0.here hx rfl (hb hby d17_11) rfl (teq hc11).2 (XS.iconst X0.here hx rfl (hb hby d17_14) (XS.goto X0.here hx rfl (pc0 := 15) (pc' := 19) rfl (hb hby d17_15) (by decide) (by decide) k))) ?_
      exact own_ret X0 hx Bd.notSynchronized Bd.returns rfl (Or.inl ⟨rfl, by simp, _, rfl⟩) (hb hby d17_19) ⟨rfl, e0⟩ (by decide) (by decide)
    · skip
      refine op T0 (mkF m 19 #[iv p0, iv p1] [(.int 1)]) (fun _ k => XS.icmpYes X0.here hx rfl (pc0 := 11) (pc' := 18) rfl (hb hby d17_11) rfl (feq hc11).2 (by decide) (by decide) (XS.iconst X0.here hx rfl (hb hby d17_18) k)) ?_
      exact own_ret X0 hx Bd.notSynchronized Bd.returns rfl (Or.inl ⟨rfl, by simp, _, rfl⟩) (hb hby d17_19) ⟨rfl, e0⟩ (by decide) (by decide)
theorem ef_17 (m : MethodId) (p0 p1 : Int32) : entryFrame m #[(.int p0), (.int p1)] 2 = mkF m 0 #[iv p0, iv p1] [] := by first | (simp [entryFrame, mkF, argsToLocals, Value.category]; done) | rfl
set_option maxRecDepth 65536 in
set_option maxHeartbeats 40000000 in
theorem rm17 (l : Launch) (Z : State) (aw : Array Value) (hw : HW aw Z) (ws : List Jvm.Cond) (p0 p1 : Int32) (h0 : Heap) :
    MetFree l (⟨"java/lang/Integer", "compare", "(II)I"⟩ : MethodName) (head1 (Jvm.Cond.code (⟨"java/lang/Integer", "compare", "(II)I"⟩ : MethodName) Um 2 (some .int) :: ws) Qz) (fun a U => a = #[(.int p0), (.int p1)] ∧ Z.Warmed39 U.vm ∧ U.heap = h0) (fun _ _ _ _ _ => True) (fun _ U o U' => ∃ v L, o = .returned v ∧ own_Q (some (.int (f17_0 p0 p1))) (own_K0 h0) v U'.heap L ∧ FrameEnd U o U' L Qz.cells Qz.slots) := by
  refine MetFree.of_bodySF (plainFor_of_name own_pn0) hisR ?_
  intro p e s m args below meth c s₁ Bd hml0 hP hK
  obtain ⟨rfl, hZ, hh⟩ := hP
  have hml : c.maxLocals = 2 := hml0
  have e0 : s₁.heap = h0 := by rw [← hh, Bd.state]; rfl
  exact own_pre (fun t k => castTop (ef_17 m p0 p1) k) (g17_0 hw p0 p1 Bd hml hZ s₁ (Stand.of_body Bd) e0)
theorem own_pd0 : parseMethodDescriptor "(II)I" = some ⟨[.int, .int], some .int⟩ := by decide +kernel
/-! body 16 -/
theorem d16_0 : De Uz 0 (.iload_n 0) 1 := by decide +kernel
theorem d16_1 : De Uz 1 (.ldc 127) 2 := by decide +kernel
theorem d16_3 : De Uz 3 (.iadd) 1 := by decide +kernel
theorem d16_4 : De Uz 4 (.iload_n 1) 1 := by decide +kernel
theorem d16_5 : De Uz 5 (.ldc 127) 2 := by decide +kernel
theorem d16_7 : De Uz 7 (.iadd) 1 := by decide +kernel
theorem d16_8 : De Uz 8 (.invokestatic 259) 3 := by decide +kernel
theorem d16_11 : De Uz 11 (.ireturn) 1 := by decide +kernel
def f16_0 (p0 p1 : Int32) : Int32 := (f17_0 (p0 + (-2147483648 : Int32)) (p1 + (-2147483648 : Int32)))
set_option maxRecDepth 65536 in
set_option maxHeartbeats 40000000 in
theorem g16_0 (hw : HW aw Z) {h0 : Heap} (p0 p1 : Int32)
    (Bd : BodyLoose p l (⟨"java/lang/Integer", "compareUnsigned", "(II)I"⟩ : MethodName) (head1 (Jvm.Cond.code (⟨"java/lang/Integer", "compareUnsigned", "(II)I"⟩ : MethodName) Uz 2 (some .int) :: ws) ({ frames := 1, cells := 0, slots := 0, locals := 21 } : Room)) Uz 2 (some .int) e s m #[(.int p0), (.int p1)] below meth c s₁) (hml : c.maxLocals = 2) (hZ : Z.Warmed39 s.vm) (T0 : State) (X0 : Stand p l e ({ frames := 1, cells := 0, slots := 0, locals := 21 } : Room) s m #[(.int p0), (.int p1)] below meth c T0 [] 0 0) (e0 : T0.heap = h0) :
    own_Go p e below s ({ frames := 1, cells := 0, slots := 0, locals := 21 } : Room).cells ({ frames := 1, cells := 0, slots := 0, locals := 21 } : Room).slots (some (.int (f16_0 p0 p1))) (own_K0 h0) (T0.setTop (mkF m 0 #[iv p0, iv p1] [])) := by
  have hx := Bd.exec
  have hby := Bd.bytes
  have hown : s.vm.findClass "java/lang/Integer" = some m.cls := findClass_of_methodNamed Bd.named
  unfold f16_0
  refine op T0 (mkF m 1 #[iv p0, iv p1] [(.int p0)]) (fun _ k => XS.iloadN X0.here hx rfl (hb hby d16_0) rfl k) ?_
  refine op T0 (mkF m 3 #[iv p0, iv p1] [(.int (-2147483648 : Int32)), (.int p0)]) (fun _ k => X0.ldcInt hx hown (mvT hZ (ow hw 113 rfl)) (g := (mkF m 1 #[iv p0, iv p1] [(.int p0)])) rfl (hb hby d16_1) _ k) ?_
  refine op T0 (mkF m 5 #[iv p0, iv p1] [(.int p1), (.int (p0 + (-2147483648 : Int32)))]) (fun _ k => XS.iadd X0.here hx rfl (hb hby d16_3) rfl (XS.iloadN X0.here hx rfl (hb hby d16_4) rfl k)) ?_
  refine op T0 (mkF m 7 #[iv p0, iv p1] [(.int (-2147483648 : Int32)), (.int p1), (.int (p0 + (-2147483648 : Int32)))]) (fun _ k => X0.ldcInt hx hown (mvT hZ (ow hw 113 rfl)) (g := (mkF m 5 #[iv p0, iv p1] [(.int p1), (.int (p0 + (-2147483648 : Int32)))])) rfl (hb hby d16_5) _ k) ?_
  refine op T0 (mkF m 8 #[iv p0, iv p1] [(.int (p1 + (-2147483648 : Int32))), (.int (p0 + (-2147483648 : Int32)))]) (fun _ k => XS.iadd X0.here hx rfl (hb hby d16_7) rfl k) ?_
  obtain ⟨_, _, ⟨T1, L', k', n'⟩, -, X'', ⟨Lc', hQ', l', y', z'⟩, st'⟩ := Jvm.LawKit.callS X0 hx (y := (⟨"java/lang/Integer", "compare", "(II)I"⟩ : MethodName)) hown (mvT hZ (ow hw 114 rfl)) (mvT hZ (ow hw 115 rfl)) (mvT hZ (ow hw 111 rfl)) (mvT hZ (ow hw 116 rfl)) (by decide) (backOf (W := 0) (rm17 l Z aw hw [] (p0 + (-2147483648 : Int32)) (p1 + (-2147483648 : Int32)) h0) hZ (ow hw 116 rfl) (ow hw 111 rfl) (by decide) (by decide)) (g := (mkF m 8 #[iv p0, iv p1] [(.int (p1 + (-2147483648 : Int32))), (.int (p0 + (-2147483648 : Int32)))])) rfl (by rw [hml]; rfl) (argsL := [(.int (p0 + (-2147483648 : Int32))), (.int (p1 + (-2147483648 : Int32)))]) (rest := []) (lenOf own_pd0 rfl) rfl (by show 2 * 0 + _ ≤ _; exact Nat.le_of_eq rfl) (hb hby d16_8) (fun _ _ => ⟨rfl, e0, (by decide : 0 + 0 ≤ _), (by decide : 0 + 0 ≤ _)⟩)
  dsimp only [Pt.U, Pt.locs, Pt.cells, Pt.slots] at X'' l' y' z' st' hQ'
  subst l' y' z'
  obtain ⟨rfl, rfl, e1⟩ := hQ'
  have X1 : Stand p l e ({ frames := 1, cells := 0, slots := 0, locals := 21 } : Room) s m #[(.int p0), (.int p1)] below meth c T1 [] 0 0 := X''
  refine op T1 (mkF m 11 #[iv p0, iv p1] [(.int (f17_0 (p0 + (-2147483648 : Int32)) (p1 + (-2147483648 : Int32))))]) (fun _ k => st' _ k) ?_
  exact own_ret X1 hx Bd.notSynchronized Bd.returns rfl (Or.inl ⟨rfl, by simp, _, rfl⟩) (hb hby d16_11) ⟨rfl, e1⟩ (by decide) (by decide)
theorem ef_16 (m : MethodId) (p0 p1 : Int32) : entryFrame m #[(.int p0), (.int p1)] 2 = mkF m 0 #[iv p0, iv p1] [] := by first | (simp [entryFrame, mkF, argsToLocals, Value.category]; done) | rfl
set_option maxRecDepth 65536 in
set_option maxHeartbeats 40000000 in
theorem rm16 (l : Launch) (Z : State) (aw : Array Value) (hw : HW aw Z) (ws : List Jvm.Cond) (p0 p1 : Int32) (h0 : Heap) :
    MetFree l (⟨"java/lang/Integer", "compareUnsigned", "(II)I"⟩ : MethodName) (head1 (Jvm.Cond.code (⟨"java/lang/Integer", "compareUnsigned", "(II)I"⟩ : MethodName) Uz 2 (some .int) :: ws) ({ frames := 1, cells := 0, slots := 0, locals := 21 } : Room)) (fun a U => a = #[(.int p0), (.int p1)] ∧ Z.Warmed39 U.vm ∧ U.heap = h0) (fun _ _ _ _ _ => True) (fun _ U o U' => ∃ v L, o = .returned v ∧ own_Q (some (.int (f16_0 p0 p1))) (own_K0 h0) v U'.heap L ∧ FrameEnd U o U' L ({ frames := 1, cells := 0, slots := 0, locals := 21 } : Room).cells ({ frames := 1, cells := 0, slots := 0, locals := 21 } : Room).slots) := by
  refine MetFree.of_bodySF (plainFor_of_name own_pn0) hisR ?_
  intro p e s m args below meth c s₁ Bd hml0 hP hK
  obtain ⟨rfl, hZ, hh⟩ := hP
  have hml : c.maxLocals = 2 := hml0
  have e0 : s₁.heap = h0 := by rw [← hh, Bd.state]; rfl
  exact own_pre (fun t k => castTop (ef_16 m p0 p1) k) (g16_0 hw p0 p1 Bd hml hZ s₁ (Stand.of_body Bd) e0)
/-! body 8 -/
theorem d8_0 : De Wb 0 (.iload_n 0) 1 := by decide +kernel
theorem d8_1 : De Wb 1 (.iload_n 1) 1 := by decide +kernel
theorem d8_2 : De Wb 2 (.if_icmp .gt 7) 3 := by decide +kernel
theorem d8_5 : De Wb 5 (.iload_n 0) 1 := by decide +kernel
theorem d8_6 : De Wb 6 (.goto 4) 3 := by decide +kernel
theorem d8_9 : De Wb 9 (.iload_n 1) 1 := by decide +kernel
theorem d8_10 : De Wb 10 (.ireturn) 1 := by decide +kernel
def f8_0 (p0 p1 : Int32) : Int32 := (if p1 < p0 then p1 else p0)
set_option maxRecDepth 65536 in
set_option maxHeartbeats 40000000 in
theorem g8_0 (hw : HW aw Z) {h0 : Heap} (p0 p1 : Int32)
    (Bd : BodyLoose p l (⟨"java/lang/Math", "min", "(II)I"⟩ : MethodName) (head1 (Jvm.Cond.code (⟨"java/lang/Math", "min", "(II)I"⟩ : MethodName) Wb 2 (some .int) :: ws) Qz) Wb 2 (some .int) e s m #[(.int p0), (.int p1)] below meth c s₁) (hml : c.maxLocals = 2) (hZ : Z.Warmed39 s.vm) (T0 : State) (X0 : Stand p l e Qz s m #[(.int p0), (.int p1)] below meth c T0 [] 0 0) (e0 : T0.heap = h0) :
    own_Go p e below s Qz.cells Qz.slots (some (.int (f8_0 p0 p1))) (own_K0 h0) (T0.setTop (mkF m 0 #[iv p0, iv p1] [])) := by
  have hx := Bd.exec
  have hby := Bd.bytes
  have hown : s.vm.findClass "java/lang/Math" = some m.cls := findClass_of_methodNamed Bd.named
  unfold f8_0
  refine op T0 (mkF m 2 #[iv p0, iv p1] [(.int p1), (.int p0)]) (fun _ k => XS.iloadN X0.here hx rfl (hb hby d8_0) rfl (XS.iloadN X0.here hx rfl (hb hby d8_1) rfl k)) ?_
  refine own_iteI (fun hc2 => ?_) (fun hc2 => ?_)
  · skip
    refine op T0 (mkF m 10 #[iv p0, iv p1] [(.int p1)]) (fun _ k => XS.icmpYes X0.here hx rfl (pc0 := 2) (pc' := 9) rfl (hb hby d8_2) rfl (tlt hc2).2.2.1 (by decide) (by decide) (XS.iloadN X0.here hx rfl (hb hby d8_9) rfl k)) ?_
    exact own_ret X0 hx Bd.notSynchronized Bd.returns rfl (Or.inl ⟨rfl, by simp, _, rfl⟩) (hb hby d8_10) ⟨rfl, e0⟩ (by decide) (by decide)
  · skip
    refine op T0 (mkF m 10 #[iv p0, iv p1] [(.int p0)]) (fun _ k => XS.icmpNo X0.here hx rfl (hb hby d8_2) rfl (flt hc2).2.2.1 (XS.iloadN X0.here hx rfl (hb hby d8_5) rfl (XS.goto X0.here hx rfl (pc0 := 6) (pc' := 10) rfl (hb hby d8_6) (by decide) (by decide) k))) ?_
    exact own_ret X0 hx Bd.notSynchronized Bd.returns rfl (Or.inl ⟨rfl, by simp, _, rfl⟩) (hb hby d8_10) ⟨rfl, e0⟩ (by decide) (by decide)
theorem ef_8 (m : MethodId) (p0 p1 : Int32) : entryFrame m #[(.int p0), (.int p1)] 2 = mkF m 0 #[iv p0, iv p1] [] := by first | (simp [entryFrame, mkF, argsToLocals, Value.category]; done) | rfl
set_option maxRecDepth 65536 in
set_option maxHeartbeats 40000000 in
theorem rm8 (l : Launch) (Z : State) (aw : Array Value) (hw : HW aw Z) (ws : List Jvm.Cond) (p0 p1 : Int32) (h0 : Heap) :
    MetFree l (⟨"java/lang/Math", "min", "(II)I"⟩ : MethodName) (head1 (Jvm.Cond.code (⟨"java/lang/Math", "min", "(II)I"⟩ : MethodName) Wb 2 (some .int) :: ws) Qz) (fun a U => a = #[(.int p0), (.int p1)] ∧ Z.Warmed39 U.vm ∧ U.heap = h0) (fun _ _ _ _ _ => True) (fun _ U o U' => ∃ v L, o = .returned v ∧ own_Q (some (.int (f8_0 p0 p1))) (own_K0 h0) v U'.heap L ∧ FrameEnd U o U' L Qz.cells Qz.slots) := by
  refine MetFree.of_bodySF (Jvm.Free.JP.mathPlain rfl (by decide +kernel)) hisR ?_
  intro p e s m args below meth c s₁ Bd hml0 hP hK
  obtain ⟨rfl, hZ, hh⟩ := hP
  have hml : c.maxLocals = 2 := hml0
  have e0 : s₁.heap = h0 := by rw [← hh, Bd.state]; rfl
  exact own_pre (fun t k => castTop (ef_8 m p0 p1) k) (g8_0 hw p0 p1 Bd hml hZ s₁ (Stand.of_body Bd) e0)
abbrev Qcm1 : Room := { frames := 2, cells := 0, slots := 0, locals := 42 }
abbrev y0 : MethodName := ⟨"java/lang/Integer", "compareUnsigned", "(II)I"⟩
/-! body 15, cm1 -/
theorem d15_0 : De Jf 0 (.iconst 0) 1 := by decide +kernel
theorem d15_1 : De Jf 1 (.istore 5) 2 := by decide +kernel
theorem d15_3 : De Jf 3 (.iconst 0) 1 := by decide +kernel
theorem d15_4 : De Jf 4 (.istore 6) 2 := by decide +kernel
theorem d15_6 : De Jf 6 (.iload 6) 2 := by decide +kernel
theorem d15_8 : De Jf 8 (.iload 4) 2 := by decide +kernel
theorem d15_10 : De Jf 10 (.if_icmp .ge 31) 3 := by decide +kernel
theorem d15_13 : De Jf 13 (.iload 5) 2 := by decide +kernel
theorem d15_15 : De Jf 15 (.ifCond .ne 26) 3 := by decide +kernel
theorem d15_18 : De Jf 18 (.aload_n 0) 1 := by decide +kernel
theorem d15_19 : De Jf 19 (.iload_n 1) 1 := by decide +kernel
theorem d15_20 : De Jf 20 (.iload 6) 2 := by decide +kernel
theorem d15_22 : De Jf 22 (.iadd) 1 := by decide +kernel
theorem d15_23 : De Jf 23 (.iaload) 1 := by decide +kernel
theorem d15_24 : De Jf 24 (.aload_n 2) 1 := by decide +kernel
theorem d15_25 : De Jf 25 (.iload_n 3) 1 := by decide +kernel
theorem d15_26 : De Jf 26 (.iload 6) 2 := by decide +kernel
theorem d15_28 : De Jf 28 (.iadd) 1 := by decide +kernel
theorem d15_29 : De Jf 29 (.iaload) 1 := by decide +kernel
theorem d15_30 : De Jf 30 (.invokestatic 59) 3 := by decide +kernel
theorem d15_33 : De Jf 33 (.istore 5) 2 := by decide +kernel
theorem d15_35 : De Jf 35 (.iinc 6 1) 3 := by decide +kernel
theorem d15_38 : De Jf 38 (.goto (-32)) 3 := by decide +kernel
theorem d15_41 : De Jf 41 (.iload 5) 2 := by decide +kernel
theorem d15_43 : De Jf 43 (.ireturn) 1 := by decide +kernel
abbrev y1 : MethodName := ⟨cT, "compare", "([II[III)I"⟩
theorem own_pn1 : plainName cT = true := by first | (simp [plainName, overriddenIn]; done) | decide +kernel
def Rcm1 (t : Int32) : Option Value := some (.int t)
def Kcm1 (Z : State) (l0 r0 : Int32) (a0 a2 : Addr) (h0 : Heap) (n0 : Nat) (t : Int32) (h : Heap) (L : List Loc) : Prop := Fr n0 L ∧ Keep h0 h []
def fcm1_0 (l0 r0 : Int32) : Int32 := (f16_0 l0 r0)
set_option maxRecDepth 65536 in
set_option maxHeartbeats 40000000 in
theorem gcm1_0 (hw : HW aw Z) {h0 : Heap} {n0 : Nat} (l0 r0 : Int32) (a0 a2 : Addr)
    (Bd : BodyLoose p l y1 (head1 (Jvm.Cond.code y1 Jf 7 (some .int) :: ws) Qcm1) Jf 7 (some .int) e s m #[(.ref a0), (.int 0), (.ref a2), (.int 0), (.int 1)] below meth c s₁) (hml : c.maxLocals = 7) (hZ : Z.Warmed39 s.vm) (T0 : State) {locs : List Loc} (X0 : Stand p l e Qcm1 s m #[(.ref a0), (.int 0), (.ref a2), (.int 0), (.int 1)] below meth c T0 locs 0 0) (e0 : T0.heap = h0) (SZ0 : n0 ≤ h0.size) (NF0 : Fr n0 locs) (KP0 : Keep h0 h0 []) (Up : own_Iv Z h0 a0 (1 : Int32) [l0]) (Hi : own_Iv Z h0 a2 (1 : Int32) [r0]) :
    own_Go p e below s Qcm1.cells Qcm1.slots (Rcm1 (fcm1_0 l0 r0)) (Kcm1 Z l0 r0 a0 a2 h0 n0 (fcm1_0 l0 r0)) (T0.setTop (mkF m 0 #[rv a0, iv 0, rv a2, iv 0, iv 1, uu, uu] [])) := by
  have hx := Bd.exec
  have hby := Bd.bytes
  have hown : s.vm.findClass cT = some m.cls := findClass_of_methodNamed Bd.named
  have hnm := (name_of_methodNamed Bd.named Bd.method).1
  unfold fcm1_0
  refine op T0 (mkF m 10 #[rv a0, iv 0, rv a2, iv 0, iv 1, iv 0, iv 0] [(.int 1), (.int 0)]) (fun _ k => XS.iconst X0.here hx rfl (hb hby d15_0) (XS.istore X0.here hx rfl (hb hby d15_1) rfl (l' := #[rv a0, iv 0, rv a2, iv 0, iv 1, iv 0, uu]) rfl (XS.iconst X0.here hx rfl (hb hby d15_3) (XS.istore X0.here hx rfl (hb hby d15_4) rfl (l' := #[rv a0, iv 0, rv a2, iv 0, iv 1, iv 0, iv 0]) rfl (XS.iload X0.here hx rfl (hb hby d15_6) rfl (XS.iload X0.here hx rfl (hb hby d15_8) rfl k)))))) ?_
  have hd1 : (0 : Int32) < (1 : Int32) := by decide
  refine op T0 (mkF m 15 #[rv a0, iv 0, rv a2, iv 0, iv 1, iv 0, iv 0] [(.int 0)]) (fun _ k => XS.icmpNo X0.here hx rfl (hb hby d15_10) rfl (tlt hd1).2.1 (XS.iload X0.here hx rfl (hb hby d15_13) rfl k)) ?_
  have hd2 : (0 : Int32) = (0 : Int32) := by decide
  refine op T0 (mkF m 23 #[rv a0, iv 0, rv a2, iv 0, iv 1, iv 0, iv 0] [(.int 0), (.ref a0)]) (fun _ k => XS.ifNo X0.here hx rfl (hb hby d15_15) rfl ((if0 _ _).trans (teq hd2).2) (XS.aloadN X0.here hx rfl (hb hby d15_18) rfl rfl (XS.iloadN X0.here hx rfl (hb hby d15_19) rfl (XS.iload X0.here hx rfl (hb hby d15_20) rfl (XS.iadd X0.here hx rfl (hb hby d15_22) rfl k))))) ?_
  obtain ⟨k3, cl3, Ar3, q3, S3, N3, H3, G3⟩ := id Up
  have hin3 : ¬ ((0 : Int32) < 0 ∨ cl3.slots.size ≤ ((0 : Int32)).toNatClampNeg) := inb_of S3 ⟨by decide, by decide⟩
  refine op T0 (mkF m 24 #[rv a0, iv 0, rv a2, iv 0, iv 1, iv 0, iv 0] [(.int l0)]) (fun t k => X0.iaload hx (j := (0 : Int32)) (v := (.int l0)) (by rw [e0]; exact Ar3.1) (State.isArrayOf_alike hZ.alike Ar3.2.1) Ar3.2.2 hin3 (H3.at hin3 rfl) (g := (mkF m 23 #[rv a0, iv 0, rv a2, iv 0, iv 1, iv 0, iv 0] [(.int 0), (.ref a0)])) rfl rfl (hb hby d15_23) t k) ?_
  refine op T0 (mkF m 29 #[rv a0, iv 0, rv a2, iv 0, iv 1, iv 0, iv 0] [(.int 0), (.ref a2), (.int l0)]) (fun _ k => XS.aloadN X0.here hx rfl (hb hby d15_24) rfl rfl (XS.iloadN X0.here hx rfl (hb hby d15_25) rfl (XS.iload X0.here hx rfl (hb hby d15_26) rfl (XS.iadd X0.here hx rfl (hb hby d15_28) rfl k)))) ?_
  obtain ⟨k4, cl4, Ar4, q4, S4, N4, H4, G4⟩ := id Hi
  have hin4 : ¬ ((0 : Int32) < 0 ∨ cl4.slots.size ≤ ((0 : Int32)).toNatClampNeg) := inb_of S4 ⟨by decide, by decide⟩
  refine op T0 (mkF m 30 #[rv a0, iv 0, rv a2, iv 0, iv 1, iv 0, iv 0] [(.int r0), (.int l0)]) (fun t k => X0.iaload hx (j := (0 : Int32)) (v := (.int r0)) (by rw [e0]; exact Ar4.1) (State.isArrayOf_alike hZ.alike Ar4.2.1) Ar4.2.2 hin4 (H4.at hin4 rfl) (g := (mkF m 29 #[rv a0, iv 0, rv a2, iv 0, iv 1, iv 0, iv 0] [(.int 0), (.ref a2), (.int l0)])) rfl rfl (hb hby d15_29) t k) ?_
  obtain ⟨_, _, ⟨T5, L5, k5, n5⟩, -, X5', ⟨Lc5, hQ5, l5, y5, z5⟩, st'⟩ := Jvm.LawKit.callS X0 hx (y := y0) hown (mvT hZ (ow hw 109 rfl)) (mvT hZ (ow hw 110 rfl)) (mvT hZ (ow hw 111 rfl)) (mvT hZ (ow hw 112 rfl)) (by decide) (backOf (W := 0) (rm16 l Z aw hw [] l0 r0 h0) hZ (ow hw 112 rfl) (ow hw 111 rfl) (by decide) (by decide)) (g := (mkF m 30 #[rv a0, iv 0, rv a2, iv 0, iv 1, iv 0, iv 0] [(.int r0), (.int l0)])) rfl (by rw [hml]; rfl) (argsL := [(.int l0), (.int r0)]) (rest := []) (lenOf own_pd0 rfl) rfl (by show 2 * 0 + _ ≤ _; exact Nat.le_of_eq rfl) (hb hby d15_30) (fun _ _ => ⟨rfl, e0, (by decide : 0 + 0 ≤ _), (by decide : 0 + 0 ≤ _)⟩)
  dsimp only [Pt.U, Pt.locs, Pt.cells, Pt.slots] at X5' l5 y5 z5 st' hQ5
  subst l5 y5 z5
  obtain ⟨rfl, rfl, e5⟩ := hQ5
  have X5 : Stand p l e Qcm1 s m #[(.ref a0), (.int 0), (.ref a2), (.int 0), (.int 1)] below meth c T5 _ 0 0 := own_locs X5'
  refine op T5 (mkF m 10 #[rv a0, iv 0, rv a2, iv 0, iv 1, iv (f16_0 l0 r0), iv 1] [(.int 1), (.int 1)]) (fun _ k => st' _ (XS.istore X5.here hx rfl (hb hby d15_33) rfl (l' := #[rv a0, iv 0, rv a2, iv 0, iv 1, iv (f16_0 l0 r0), iv 0]) rfl (XS.iinc X5.here hx rfl (hb hby d15_35) rfl (l' := #[rv a0, iv 0, rv a2, iv 0, iv 1, iv (f16_0 l0 r0), iv 1]) rfl (XS.goto X5.here hx rfl (pc0 := 38) (pc' := 6) rfl (hb hby d15_38) (by decide) (by decide) (XS.iload X5.here hx rfl (hb hby d15_6) rfl (XS.iload X5.here hx rfl (hb hby d15_8) rfl k)))))) ?_
  have hd6 : ¬ ((1 : Int32) < (1 : Int32)) := by decide
  refine op T5 (mkF m 43 #[rv a0, iv 0, rv a2, iv 0, iv 1, iv (f16_0 l0 r0), iv 1] [(.int (f16_0 l0 r0))]) (fun _ k => XS.icmpYes X5.here hx rfl (pc0 := 10) (pc' := 41) rfl (hb hby d15_10) rfl (flt hd6).2.1 (by decide) (by decide) (XS.iload X5.here hx rfl (hb hby d15_41) rfl k)) ?_
  exact own_ret (w := (.int (f16_0 l0 r0))) X5 hx Bd.notSynchronized Bd.returns rfl (Or.inl ⟨rfl, by simp, _, rfl⟩) (hb hby d15_43) (by rw [e5]; exact ⟨NF0, KP0⟩) (by decide) (by decide)
theorem ef_cm1 (m : MethodId) (a0 a2 : Addr) : entryFrame m #[(.ref a0), (.int 0), (.ref a2), (.int 0), (.int 1)] 7 = mkF m 0 #[rv a0, iv 0, rv a2, iv 0, iv 1, uu, uu] [] := by first | (simp [entryFrame, mkF, argsToLocals, Value.category]; done) | rfl
set_option maxRecDepth 65536 in
set_option maxHeartbeats 40000000 in
theorem rmcm1 (l : Launch) (Z : State) (aw : Array Value) (hw : HW aw Z) (ws : List Jvm.Cond) (l0 r0 : Int32) (a0 a2 : Addr) (h0 : Heap) (n0 : Nat) (SZ0 : n0 ≤ h0.size) (Up : own_Iv Z h0 a0 (1 : Int32) [l0]) (Hi : own_Iv Z h0 a2 (1 : Int32) [r0]) :
    MetFree l y1 (head1 (Jvm.Cond.code y1 Jf 7 (some .int) :: ws) Qcm1) (fun a U => a = #[(.ref a0), (.int 0), (.ref a2), (.int 0), (.int 1)] ∧ Z.Warmed39 U.vm ∧ U.heap = h0) (fun _ _ _ _ _ => True) (fun _ U o U' => ∃ v L, o = .returned v ∧ own_Q (Rcm1 (fcm1_0 l0 r0)) (Kcm1 Z l0 r0 a0 a2 h0 n0 (fcm1_0 l0 r0)) v U'.heap L ∧ FrameEnd U o U' L Qcm1.cells Qcm1.slots) := by
  refine MetFree.of_bodySF (plainFor_of_name own_pn1) hisR ?_
  intro p e s m args below meth c s₁ Bd hml0 hP hK
  obtain ⟨rfl, hZ, hh⟩ := hP
  have hml : c.maxLocals = 7 := hml0
  have e0 : s₁.heap = h0 := by rw [← hh, Bd.state]; rfl
  exact own_pre (fun t k => castTop (ef_cm1 m a0 a2) k) (gcm1_0 hw l0 r0 a0 a2 Bd hml hZ s₁ (Stand.of_body Bd) e0 SZ0 (Fr.nil n0) (Keep.refl _ _) Up Hi)
abbrev Qht1a : Room := { frames := 0, cells := 0, slots := 0, locals := 0 }
/-! body 14, ht1a -/
theorem d14_0 : De Jg 0 (.iconst 0) 1 := by decide +kernel
theorem d14_1 : De Jg 1 (.istore_n 3) 1 := by decide +kernel
theorem d14_2 : De Jg 2 (.aload_n 0) 1 := by decide +kernel
theorem d14_3 : De Jg 3 (.getfield 35) 3 := by decide +kernel
theorem d14_6 : De Jg 6 (.istore 4) 2 := by decide +kernel
theorem d14_8 : De Jg 8 (.iload 4) 2 := by decide +kernel
theorem d14_10 : De Jg 10 (.aload_n 0) 1 := by decide +kernel
theorem d14_11 : De Jg 11 (.getfield 25) 3 := by decide +kernel
theorem d14_14 : De Jg 14 (.if_icmp .ge 28) 3 := by decide +kernel
theorem d14_17 : De Jg 17 (.iload_n 3) 1 := by decide +kernel
theorem d14_18 : De Jg 18 (.ifCond .ne 24) 3 := by decide +kernel
theorem d14_21 : De Jg 21 (.aload_n 1) 1 := by decide +kernel
theorem d14_22 : De Jg 22 (.iload_n 2) 1 := by decide +kernel
theorem d14_23 : De Jg 23 (.iload 4) 2 := by decide +kernel
theorem d14_25 : De Jg 25 (.iadd) 1 := by decide +kernel
theorem d14_26 : De Jg 26 (.iaload) 1 := by decide +kernel
theorem d14_27 : De Jg 27 (.ifCond .eq 7) 3 := by decide +kernel
theorem d14_30 : De Jg 30 (.iconst 1) 1 := by decide +kernel
theorem d14_31 : De Jg 31 (.goto 4) 3 := by decide +kernel
theorem d14_34 : De Jg 34 (.iconst 0) 1 := by decide +kernel
theorem d14_35 : De Jg 35 (.istore_n 3) 1 := by decide +kernel
theorem d14_36 : De Jg 36 (.iinc 4 1) 3 := by decide +kernel
theorem d14_39 : De Jg 39 (.goto (-31)) 3 := by decide +kernel
theorem d14_42 : De Jg 42 (.iload_n 3) 1 := by decide +kernel
theorem d14_43 : De Jg 43 (.ireturn) 1 := by decide +kernel
abbrev y2 : MethodName := ⟨cS, "hasTail", "([II)Z"⟩
theorem own_pn2 : plainName cS = true := by first | (simp [plainName, overriddenIn]; done) | decide +kernel
def Rht1a (t : Int32) : Option Value := some (.int t)
def Kht1a (Z : State) (l0 : Int32) (a0 a1 : Addr) (h0 : Heap) (n0 : Nat) (t : Int32) (h : Heap) (L : List Loc) : Prop := Fr n0 L ∧ Keep h0 h []
def fht1a_0 (l0 : Int32) : Int32 := (0 : Int32)
set_option maxRecDepth 65536 in
set_option maxHeartbeats 40000000 in
theorem ght1a_0 (hw : HW aw Z) {h0 : Heap} {n0 : Nat} (l0 : Int32) (a0 a1 : Addr)
    (Bd : BodyLoose p l y2 (head1 (Jvm.Cond.code y2 Jg 5 (some .boolean) :: ws) Qht1a) Jg 5 (some .boolean) e s m #[(.ref a0), (.ref a1), (.int 0)] below meth c s₁) (hml : c.maxLocals = 5) (hZ : Z.Warmed39 s.vm) (T0 : State) {locs : List Loc} (X0 : Stand p l e Qht1a s m #[(.ref a0), (.ref a1), (.int 0)] below meth c T0 locs 0 0) (e0 : T0.heap = h0) (SZ0 : n0 ≤ h0.size) (NF0 : Fr n0 locs) (KP0 : Keep h0 h0 []) (Ga : Exa Z h0 a0 cS) (Gb : Fld Z h0 a0 cS "width" "I" (.int 1)) (Gr : Fld Z h0 a0 cS "head" "I" (.int 1)) (Gp : own_Iv Z h0 a1 (1 : Int32) [l0]) :
    own_Go p e below s Qht1a.cells Qht1a.slots (Rht1a (fht1a_0 l0)) (Kht1a Z l0 a0 a1 h0 n0 (fht1a_0 l0)) (T0.setTop (mkF m 0 #[rv a0, rv a1, iv 0, uu, uu] [])) := by
  have hx := Bd.exec
  have hby := Bd.bytes
  have hown : s.vm.findClass cS = some m.cls := findClass_of_methodNamed Bd.named
  have hnm := (name_of_methodNamed Bd.named Bd.method).1
  unfold fht1a_0
  refine op T0 (mkF m 3 #[rv a0, rv a1, iv 0, iv 0, uu] [(.ref a0)]) (fun _ k => XS.iconst X0.here hx rfl (hb hby d14_0) (XS.istoreN X0.here hx rfl (hb hby d14_1) rfl (l' := #[rv a0, rv a1, iv 0, iv 0, uu]) rfl (XS.aloadN X0.here hx rfl (hb hby d14_2) rfl rfl k))) ?_
  obtain ⟨T1, X1, e1, st'⟩ := getF X0 hx hZ hown (host := "") (Or.inl (ow hw 61 rfl)) Via.refl e0 Gr (g := (mkF m 3 #[rv a0, rv a1, iv 0, iv 0, uu] [(.ref a0)])) rfl rfl (hb hby d14_3)
  refine op T1 (mkF m 11 #[rv a0, rv a1, iv 0, iv 0, iv 1] [(.ref a0), (.int 1)]) (fun _ k => st' _ (XS.istore X1.here hx rfl (hb hby d14_6) rfl (l' := #[rv a0, rv a1, iv 0, iv 0, iv 1]) rfl (XS.iload X1.here hx rfl (hb hby d14_8) rfl (XS.aloadN X1.here hx rfl (hb hby d14_10) rfl rfl k)))) ?_
  obtain ⟨T2, X2, e2, st'⟩ := getF X1 hx hZ hown (host := "") (Or.inl (ow hw 55 rfl)) Via.refl e1 Gb (g := (mkF m 11 #[rv a0, rv a1, iv 0, iv 0, iv 1] [(.ref a0), (.int 1)])) rfl rfl (hb hby d14_11)
  refine op T2 (mkF m 14 #[rv a0, rv a1, iv 0, iv 0, iv 1] [(.int 1), (.int 1)]) (fun _ k => st' _ k) ?_
  have hd3 : ¬ ((1 : Int32) < (1 : Int32)) := by decide
  refine op T2 (mkF m 43 #[rv a0, rv a1, iv 0, iv 0, iv 1] [(.int 0)]) (fun _ k => XS.icmpYes X2.here hx rfl (pc0 := 14) (pc' := 42) rfl (hb hby d14_14) rfl (flt hd3).2.1 (by decide) (by decide) (XS.iloadN X2.here hx rfl (hb hby d14_42) rfl k)) ?_
  exact own_ret (w := (.int 0)) X2 hx Bd.notSynchronized Bd.returns rfl (Or.inl ⟨rfl, by simp, _, rfl⟩) (hb hby d14_43) (by rw [e2]; exact ⟨NF0, KP0⟩) (by decide) (by decide)
theorem ef_ht1a (m : MethodId) (a0 a1 : Addr) : entryFrame m #[(.ref a0), (.ref a1), (.int 0)] 5 = mkF m 0 #[rv a0, rv a1, iv 0, uu, uu] [] := by first | (simp [entryFrame, mkF, argsToLocals, Value.category]; done) | rfl
set_option maxRecDepth 65536 in
set_option maxHeartbeats 40000000 in
theorem rmht1a (l : Launch) (Z : State) (aw : Array Value) (hw : HW aw Z) (ws : List Jvm.Cond) (l0 : Int32) (a0 a1 : Addr) (h0 : Heap) (n0 : Nat) (SZ0 : n0 ≤ h0.size) (Ga : Exa Z h0 a0 cS) (Gb : Fld Z h0 a0 cS "width" "I" (.int 1)) (Gr : Fld Z h0 a0 cS "head" "I" (.int 1)) (Gp : own_Iv Z h0 a1 (1 : Int32) [l0]) :
    MetFree l y2 (head1 (Jvm.Cond.code y2 Jg 5 (some .boolean) :: ws) Qht1a) (fun a U => a = #[(.ref a0), (.ref a1), (.int 0)] ∧ Z.Warmed39 U.vm ∧ U.heap = h0) (fun _ _ _ _ _ => True) (fun _ U o U' => ∃ v L, o = .returned v ∧ own_Q (Rht1a (fht1a_0 l0)) (Kht1a Z l0 a0 a1 h0 n0 (fht1a_0 l0)) v U'.heap L ∧ FrameEnd U o U' L Qht1a.cells Qht1a.slots) := by
  refine MetFree.of_bodySF (plainFor_of_name own_pn2) hisR ?_
  intro p e s m args below meth c s₁ Bd hml0 hP hK
  obtain ⟨rfl, hZ, hh⟩ := hP
  have hml : c.maxLocals = 5 := hml0
  have e0 : s₁.heap = h0 := by rw [← hh, Bd.state]; rfl
  exact own_pre (fun t k => castTop (ef_ht1a m a0 a1) k) (ght1a_0 hw l0 a0 a1 Bd hml hZ s₁ (Stand.of_body Bd) e0 SZ0 (Fr.nil n0) (Keep.refl _ _) Ga Gb Gr Gp)
abbrev Qpu1a : Room := { frames := 1, cells := 0, slots := 0, locals := 48 }
theorem own_pd1 : parseMethodDescriptor "([II)Z" = some ⟨[(.array .int), .int], some .boolean⟩ := by decide +kernel
theorem la0 (hw : HW aw Z) : LaT Z aw cS cS "starts" "[I" := ⟨(Or.inl (ow hw 48 rfl)), (.array .int), by decide⟩
theorem la1 (hw : HW aw Z) : LaT Z aw cS cS "size" "I" := ⟨(Or.inl (ow hw 92 rfl)), .int, by decide⟩
theorem sn0 (hw : HW aw Z) : NS Z cS "starts" "[I" cS "size" "I" := own_sn (la0 hw) (la1 hw) (by decide)
theorem la2 (hw : HW aw Z) : LaT Z aw cS cS "tailed" "[I" := ⟨(Or.inl (ow hw 50 rfl)), (.array .int), by decide⟩
theorem sn1 (hw : HW aw Z) : NS Z cS "tailed" "[I" cS "size" "I" := own_sn (la2 hw) (la1 hw) (by decide)
theorem la3 (hw : HW aw Z) : LaT Z aw cS cS "tails" "[I" := ⟨(Or.inl (ow hw 52 rfl)), (.array .int), by decide⟩
theorem sn2 (hw : HW aw Z) : NS Z cS "tails" "[I" cS "size" "I" := own_sn (la3 hw) (la1 hw) (by decide)
theorem la4 (hw : HW aw Z) : LaT Z aw cS cS "countries" "[C" := ⟨(Or.inl (ow hw 54 rfl)), (.array .char), by decide⟩
theorem sn3 (hw : HW aw Z) : NS Z cS "countries" "[C" cS "size" "I" := own_sn (la4 hw) (la1 hw) (by decide)
theorem la5 (hw : HW aw Z) : LaT Z aw cS cS "width" "I" := ⟨(Or.inr (ow hw 56 rfl)), .int, by decide⟩
theorem sn4 (hw : HW aw Z) : NS Z cS "width" "I" cS "size" "I" := own_sn (la5 hw) (la1 hw) (by decide)
theorem la6 (hw : HW aw Z) : LaT Z aw cS cS "head" "I" := ⟨(Or.inr (ow hw 62 rfl)), .int, by decide⟩
theorem sn5 (hw : HW aw Z) : NS Z cS "head" "I" cS "size" "I" := own_sn (la6 hw) (la1 hw) (by decide)
theorem la7 (hw : HW aw Z) : LaT Z aw cS cS "after" "[I" := ⟨(Or.inr (ow hw 64 rfl)), (.array .int), by decide⟩
theorem sn6 (hw : HW aw Z) : NS Z cS "after" "[I" cS "size" "I" := own_sn (la7 hw) (la1 hw) (by decide)
theorem la8 (hw : HW aw Z) : LaT Z aw cS cS "ranges" "I" := ⟨(Or.inl (ow hw 81 rfl)), .int, by decide⟩
theorem sn7 (hw : HW aw Z) : NS Z cS "ranges" "I" cS "size" "I" := own_sn (la8 hw) (la1 hw) (by decide)
theorem la9 (hw : HW aw Z) : LaT Z aw cS cS "tailedSize" "I" := ⟨(Or.inl (ow hw 143 rfl)), .int, by decide⟩
theorem sn8 (hw : HW aw Z) : NS Z cS "tailedSize" "I" cS "size" "I" := own_sn (la9 hw) (la1 hw) (by decide)
theorem la10 (hw : HW aw Z) : LaT Z aw cS cS "full" "Z" := ⟨(Or.inl (ow hw 102 rfl)), .boolean, by decide⟩
theorem sn9 (hw : HW aw Z) : NS Z cS "full" "Z" cS "size" "I" := own_sn (la10 hw) (la1 hw) (by decide)
/-! body 13, pu1a -/
theorem d13_0 : De Gj 0 (.aload_n 0) 1 := by decide +kernel
theorem d13_1 : De Gj 1 (.getfield 63) 3 := by decide +kernel
theorem d13_4 : De Gj 4 (.aload_n 0) 1 := by decide +kernel
theorem d13_5 : De Gj 5 (.getfield 21) 3 := by decide +kernel
theorem d13_8 : De Gj 8 (.arraylength) 1 := by decide +kernel
theorem d13_9 : De Gj 9 (.if_icmp .ge 35) 3 := by decide +kernel
theorem d13_12 : De Gj 12 (.aload_n 1) 1 := by decide +kernel
theorem d13_13 : De Gj 13 (.iload_n 2) 1 := by decide +kernel
theorem d13_14 : De Gj 14 (.aload_n 0) 1 := by decide +kernel
theorem d13_15 : De Gj 15 (.getfield 9) 3 := by decide +kernel
theorem d13_18 : De Gj 18 (.aload_n 0) 1 := by decide +kernel
theorem d13_19 : De Gj 19 (.getfield 63) 3 := by decide +kernel
theorem d13_22 : De Gj 22 (.aload_n 0) 1 := by decide +kernel
theorem d13_23 : De Gj 23 (.getfield 35) 3 := by decide +kernel
theorem d13_26 : De Gj 26 (.imul) 1 := by decide +kernel
theorem d13_27 : De Gj 27 (.aload_n 0) 1 := by decide +kernel
theorem d13_28 : De Gj 28 (.getfield 35) 3 := by decide +kernel
theorem d13_31 : De Gj 31 (.invokestatic 57) 3 := by decide +kernel
theorem d13_34 : De Gj 34 (.aload_n 0) 1 := by decide +kernel
theorem d13_35 : De Gj 35 (.getfield 21) 3 := by decide +kernel
theorem d13_38 : De Gj 38 (.aload_n 0) 1 := by decide +kernel
theorem d13_39 : De Gj 39 (.getfield 63) 3 := by decide +kernel
theorem d13_42 : De Gj 42 (.iload_n 3) 1 := by decide +kernel
theorem d13_43 : De Gj 43 (.castore) 1 := by decide +kernel
theorem d13_44 : De Gj 44 (.aload_n 0) 1 := by decide +kernel
theorem d13_45 : De Gj 45 (.aload_n 1) 1 := by decide +kernel
theorem d13_46 : De Gj 46 (.iload_n 2) 1 := by decide +kernel
theorem d13_47 : De Gj 47 (.invokevirtual 79) 3 := by decide +kernel
theorem d13_50 : De Gj 50 (.ifCond .eq 75) 3 := by decide +kernel
theorem d13_125 : De Gj 125 (.aload_n 0) 1 := by decide +kernel
theorem d13_126 : De Gj 126 (.dup) 1 := by decide +kernel
theorem d13_127 : De Gj 127 (.getfield 63) 3 := by decide +kernel
theorem d13_130 : De Gj 130 (.iconst 1) 1 := by decide +kernel
theorem d13_131 : De Gj 131 (.iadd) 1 := by decide +kernel
theorem d13_132 : De Gj 132 (.putfield 63) 3 := by decide +kernel
theorem d13_135 : De Gj 135 (.return_) 1 := by decide +kernel
abbrev y3 : MethodName := ⟨cS, "put", "([IIC)V"⟩
def Rpu1a (t : Int32 × Int32) : Option Value := none
def Kpu1a (Z : State) (p3 sz rng tsz ful nC nT l0 : Int32) (a0 a1 sS sT sL sC sA : Addr) (h0 : Heap) (n0 : Nat) (t : Int32 × Int32) (h : Heap) (L : List Loc) : Prop := Fr n0 L ∧ Keep h0 h [a0, sS, sT, sL, sC] ∧ Exa Z h a0 cS ∧ Fld Z h a0 cS "starts" "[I" (.ref sS) ∧ Fld Z h a0 cS "tailed" "[I" (.ref sT) ∧ Fld Z h a0 cS "tails" "[I" (.ref sL) ∧ Fld Z h a0 cS "countries" "[C" (.ref sC) ∧ Fld Z h a0 cS "width" "I" (.int 1) ∧ Fld Z h a0 cS "head" "I" (.int 1) ∧ Fld Z h a0 cS "after" "[I" (.ref sA) ∧ Fld Z h a0 cS "size" "I" (.int t.1) ∧ Fld Z h a0 cS "ranges" "I" (.int rng) ∧ Fld Z h a0 cS "tailedSize" "I" (.int t.2) ∧ Fld Z h a0 cS "full" "Z" (.int ful) ∧ own_Ar Z h sS .int (nC * (1 : Int32)) ∧ own_Ar Z h sT .int nT ∧ own_Ar Z h sL .int (nT * (0 : Int32)) ∧ own_Ar Z h sC .char nC
def fpu1a_125 (p3 sz rng tsz ful nC nT l0 : Int32) : Int32 × Int32 := ((sz + (1 : Int32)), tsz)
set_option maxRecDepth 65536 in
set_option maxHeartbeats 40000000 in
theorem gpu1a_125 (hw : HW aw Z) {h0 : Heap} {n0 : Nat} (p3 sz rng tsz ful nC nT l0 : Int32) (a0 a1 sS sT sL sC sA : Addr) (Gd : a0 ≠ sS) (Hb : sS ≠ sT) (Hc : sS ≠ sL) (Ha : sS ≠ sC) (Gz : a1 ≠ sS) (Ge : a0 ≠ sC) (Hd : sT ≠ sC) (He : sL ≠ sC) (H0 : a1 ≠ sC) (Gh : a0 ≠ sT) (Gi : a0 ≠ sL) (Gu : a0 ≠ a1) (HS : 0 ≤ sz.toInt) (HC : nC.toInt ≤ 100) (HT : 0 ≤ tsz.toInt) (HN : nT.toInt ≤ 100)
    (Bd : BodyLoose p l y3 (head1 (Jvm.Cond.code y3 Gj 4 none :: ws) Qpu1a) Gj 4 none e s m #[(.ref a0), (.ref a1), (.int 0), (.int p3)] below meth c s₁) (hml : c.maxLocals = 4) (hZ : Z.Warmed39 s.vm) (G0 : n0 ≤ a0) (Hg : n0 ≤ sS) (Hj : n0 ≤ sT) (Hk : n0 ≤ sL) (Hh : n0 ≤ sC) (T0 : State) {locs : List Loc} (X0 : Stand p l e Qpu1a s m #[(.ref a0), (.ref a1), (.int 0), (.int p3)] below meth c T0 locs 0 0) {h : Heap} (e0 : T0.heap = h) (SZ0 : n0 ≤ h.size) (NF0 : Fr n0 locs) (KP0 : Keep h0 h [a0, sS, sT, sL, sC]) (Ga : Exa Z h a0 cS) (Gk : Fld Z h a0 cS "starts" "[I" (.ref sS)) (Hm : Fld Z h a0 cS "tailed" "[I" (.ref sT)) (Hq : Fld Z h a0 cS "tails" "[I" (.ref sL)) (Gg : Fld Z h a0 cS "countries" "[C" (.ref sC)) (Gb : Fld Z h a0 cS "width" "I" (.int 1)) (Gr : Fld Z h a0 cS "head" "I" (.int 1)) (Gw : Fld Z h a0 cS "after" "[I" (.ref sA)) (Gc : Fld Z h a0 cS "size" "I" (.int sz)) (Gq : Fld Z h a0 cS "ranges" "I" (.int rng)) (Hf : Fld Z h a0 cS "tailedSize" "I" (.int tsz)) (Gt : Fld Z h a0 cS "full" "Z" (.int ful)) (Gx : own_Ar Z h sT .int nT) (Gy : own_Ar Z h sL .int (nT * (0 : Int32))) (Gv : own_Ar Z h sC .char nC) (Gp : own_Iv Z h a1 (1 : Int32) [l0]) (H6 : own_Ar Z h sS .int (nC * (1 : Int32))) :
    own_Go p e below s Qpu1a.cells Qpu1a.slots (Rpu1a (fpu1a_125 p3 sz rng tsz ful nC nT l0)) (Kpu1a Z p3 sz rng tsz ful nC nT l0 a0 a1 sS sT sL sC sA h0 n0 (fpu1a_125 p3 sz rng tsz ful nC nT l0)) (T0.setTop (mkF m 125 #[rv a0, rv a1, iv 0, iv p3] [])) := by
  have hx := Bd.exec
  have hby := Bd.bytes
  have hown : s.vm.findClass cS = some m.cls := findClass_of_methodNamed Bd.named
  have hnm := (name_of_methodNamed Bd.named Bd.method).1
  unfold fpu1a_125
  refine op T0 (mkF m 127 #[rv a0, rv a1, iv 0, iv p3] [(.ref a0), (.ref a0)]) (fun _ k => XS.aloadN X0.here hx rfl (hb hby d13_125) rfl rfl (XS.dup X0.here hx rfl (hb hby d13_126) rfl rfl k)) ?_
  obtain ⟨T1, X1, e1, st'⟩ := getF X0 hx hZ hown (host := "") (Or.inl (ow hw 91 rfl)) Via.refl e0 Gc (g := (mkF m 127 #[rv a0, rv a1, iv 0, iv p3] [(.ref a0), (.ref a0)])) rfl rfl (hb hby d13_127)
  refine op T1 (mkF m 132 #[rv a0, rv a1, iv 0, iv p3] [(.int (sz + (1 : Int32))), (.ref a0)]) (fun _ k => st' _ (XS.iconst X1.here hx rfl (hb hby d13_130) (XS.iadd X1.here hx rfl (hb hby d13_131) rfl k))) ?_
  obtain ⟨T2, h2, X2, e2, W2, st'⟩ := putF X1 hx hZ hown (host := "") (Or.inl (ow hw 91 rfl)) Via.refl e1 Gc Ga (Or.inl (ow hw 92 rfl)) (ow hw 41 rfl) (ty := .int) (by decide) rfl rfl (g := (mkF m 132 #[rv a0, rv a1, iv 0, iv p3] [(.int (sz + (1 : Int32))), (.ref a0)])) rfl rfl (hb hby d13_132)
  have f3 := Gc.same W2
  have f4 := Ga.wr W2
  have f5 := Gk.other W2 (Or.inr (sn0 hw))
  have f6 := Hm.other W2 (Or.inr (sn1 hw))
  have f7 := Hq.other W2 (Or.inr (sn2 hw))
  have f8 := Gg.other W2 (Or.inr (sn3 hw))
  have f9 := Gb.other W2 (Or.inr (sn4 hw))
  have f10 := Gr.other W2 (Or.inr (sn5 hw))
  have f11 := Gw.other W2 (Or.inr (sn6 hw))
  have f12 := Gq.other W2 (Or.inr (sn7 hw))
  have f13 := Hf.other W2 (Or.inr (sn8 hw))
  have f14 := Gt.other W2 (Or.inr (sn9 hw))
  have f15 := Gx.other W2 (Ne.symm Gh)
  have f16 := Gy.other W2 (Ne.symm Gi)
  have f17 := Gv.other W2 (Ne.symm Ge)
  have f18 := Gp.other W2 (Ne.symm Gu)
  have f19 := H6.other W2 (Ne.symm Gd)
  have NF2 := Fr.snoc X2 NF0 G0
  have SZ2 : n0 ≤ h2.size := (Nat.le_trans SZ0 (Keep.of_wr W2).1)
  have KP2 : Keep h0 h2 [a0, sS, sT, sL, sC] := KP0.wr W2 (Or.inl (List.mem_of_getElem? (i := 0) rfl))
  refine op T2 (mkF m 135 #[rv a0, rv a1, iv 0, iv p3] []) (fun _ k => st' _ k) ?_
  exact own_retV X2 hx Bd.notSynchronized Bd.returns (hb hby d13_135) (by rw [e2]; exact ⟨NF2, KP2, f4, f5, f6, f7, f8, f9, f10, f11, f3, f12, f13, f14, f19, f15, f16, f17⟩) (by decide) (by decide)
def fpu1a_44 (p3 sz rng tsz ful nC nT l0 : Int32) : Int32 × Int32 := (fpu1a_125 p3 sz rng tsz ful nC nT l0)
set_option maxRecDepth 65536 in
set_option maxHeartbeats 40000000 in
theorem gpu1a_44 (hw : HW aw Z) {h0 : Heap} {n0 : Nat} (p3 sz rng tsz ful nC nT l0 : Int32) (a0 a1 sS sT sL sC sA : Addr) (Gd : a0 ≠ sS) (Hb : sS ≠ sT) (Hc : sS ≠ sL) (Ha : sS ≠ sC) (Gz : a1 ≠ sS) (Ge : a0 ≠ sC) (Hd : sT ≠ sC) (He : sL ≠ sC) (H0 : a1 ≠ sC) (Gh : a0 ≠ sT) (Gi : a0 ≠ sL) (Gu : a0 ≠ a1) (HS : 0 ≤ sz.toInt) (HC : nC.toInt ≤ 100) (HT : 0 ≤ tsz.toInt) (HN : nT.toInt ≤ 100)
    (Bd : BodyLoose p l y3 (head1 (Jvm.Cond.code y3 Gj 4 none :: ws) Qpu1a) Gj 4 none e s m #[(.ref a0), (.ref a1), (.int 0), (.int p3)] below meth c s₁) (hml : c.maxLocals = 4) (hZ : Z.Warmed39 s.vm) (G0 : n0 ≤ a0) (Hg : n0 ≤ sS) (Hj : n0 ≤ sT) (Hk : n0 ≤ sL) (Hh : n0 ≤ sC) (T0 : State) {locs : List Loc} (X0 : Stand p l e Qpu1a s m #[(.ref a0), (.ref a1), (.int 0), (.int p3)] below meth c T0 locs 0 0) {h : Heap} (e0 : T0.heap = h) (SZ0 : n0 ≤ h.size) (NF0 : Fr n0 locs) (KP0 : Keep h0 h [a0, sS, sT, sL, sC]) (Ga : Exa Z h a0 cS) (Gk : Fld Z h a0 cS "starts" "[I" (.ref sS)) (Hm : Fld Z h a0 cS "tailed" "[I" (.ref sT)) (Hq : Fld Z h a0 cS "tails" "[I" (.ref sL)) (Gg : Fld Z h a0 cS "countries" "[C" (.ref sC)) (Gb : Fld Z h a0 cS "width" "I" (.int 1)) (Gr : Fld Z h a0 cS "head" "I" (.int 1)) (Gw : Fld Z h a0 cS "after" "[I" (.ref sA)) (Gc : Fld Z h a0 cS "size" "I" (.int sz)) (Gq : Fld Z h a0 cS "ranges" "I" (.int rng)) (Hf : Fld Z h a0 cS "tailedSize" "I" (.int tsz)) (Gt : Fld Z h a0 cS "full" "Z" (.int ful)) (Gx : own_Ar Z h sT .int nT) (Gy : own_Ar Z h sL .int (nT * (0 : Int32))) (Gv : own_Ar Z h sC .char nC) (Gp : own_Iv Z h a1 (1 : Int32) [l0]) (H6 : own_Ar Z h sS .int (nC * (1 : Int32))) :
    own_Go p e below s Qpu1a.cells Qpu1a.slots (Rpu1a (fpu1a_44 p3 sz rng tsz ful nC nT l0)) (Kpu1a Z p3 sz rng tsz ful nC nT l0 a0 a1 sS sT sL sC sA h0 n0 (fpu1a_44 p3 sz rng tsz ful nC nT l0)) (T0.setTop (mkF m 44 #[rv a0, rv a1, iv 0, iv p3] [])) := by
  have hx := Bd.exec
  have hby := Bd.bytes
  have hown : s.vm.findClass cS = some m.cls := findClass_of_methodNamed Bd.named
  have hnm := (name_of_methodNamed Bd.named Bd.method).1
  unfold fpu1a_44
  refine op T0 (mkF m 47 #[rv a0, rv a1, iv 0, iv p3] [(.int 0), (.ref a1), (.ref a0)]) (fun _ k => XS.aloadN X0.here hx rfl (hb hby d13_44) rfl rfl (XS.aloadN X0.here hx rfl (hb hby d13_45) rfl rfl (XS.iloadN X0.here hx rfl (hb hby d13_46) rfl k))) ?_
  obtain ⟨cq1, q1, q1'⟩ := Ga.cell
  obtain ⟨_, _, ⟨T1, L1, k1, n1⟩, -, X1', ⟨Lc1, hQ1, l1, y1, z1⟩, st'⟩ := X0.privateBack hx (y := y2) hown (mvT hZ (ow hw 93 rfl)) (mvT hZ (ow hw 94 rfl)) (mvT hZ (Jvm.Kit.selects_private (by decide) (ow hw 41 rfl) (ow hw 95 rfl) (ow hw 94 rfl))) (Cond.privateMethod_at (mvP hZ (ow hw 95 rfl) (args := #[]))) (mvT hZ (ow hw 96 rfl)) (by decide) (backOf (W := 0) (rmht1a l Z aw hw [] l0 a0 a1 h n0 SZ0 Ga Gb Gr Gp) hZ (ow hw 96 rfl) (ow hw 42 rfl) (by decide) (by decide)) (g := (mkF m 47 #[rv a0, rv a1, iv 0, iv p3] [(.int 0), (.ref a1), (.ref a0)])) rfl (by rw [hml]; rfl) (Steps.refl _) (a := a0) (by rw [e0]; exact q1) q1' (argsL := [(.ref a1), (.int 0)]) (rest := []) (lenOf own_pd1 rfl) rfl (by show 2 * 0 + _ ≤ _; exact Nat.le_of_eq rfl) (hb hby d13_47) (fun _ _ => ⟨rfl, e0, (by decide : 0 + 0 ≤ _), (by decide : 0 + 0 ≤ _)⟩)
  dsimp only [Pt.U, Pt.locs, Pt.cells, Pt.slots] at X1' l1 y1 z1 st' hQ1
  subst l1 y1 z1
  obtain ⟨rfl, NFq1, KPq1⟩ := hQ1
  have X1 : Stand p l e Qpu1a s m #[(.ref a0), (.ref a1), (.int 0), (.int p3)] below meth c T1 _ 0 0 := X1'
  have NF1 := Fr.app NF0 NFq1
  have SZ1 : n0 ≤ T1.heap.size := Nat.le_trans SZ0 KPq1.1
  have KP1 : Keep h0 T1.heap [a0, sS, sT, sL, sC] := KP0.trans KPq1 all0
  have f2 := Ga.keep KPq1
  have f3 := Gk.keep KPq1 nin0
  have f4 := Hm.keep KPq1 nin0
  have f5 := Hq.keep KPq1 nin0
  have f6 := Gg.keep KPq1 nin0
  have f7 := Gb.keep KPq1 nin0
  have f8 := Gr.keep KPq1 nin0
  have f9 := Gw.keep KPq1 nin0
  have f10 := Gc.keep KPq1 nin0
  have f11 := Gq.keep KPq1 nin0
  have f12 := Hf.keep KPq1 nin0
  have f13 := Gt.keep KPq1 nin0
  have f14 := Gx.keep KPq1 nin0
  have f15 := Gy.keep KPq1 nin0
  have f16 := Gv.keep KPq1 nin0
  have f17 := Gp.keep KPq1 nin0
  have f18 := H6.keep KPq1 nin0
  refine op T1 (mkF m 50 #[rv a0, rv a1, iv 0, iv p3] [(.int (fht1a_0 l0))]) (fun _ k => st'.trans k) ?_
  have hc50 : (fht1a_0 l0) = (0 : Int32) := (rfl : fht1a_0 _ = (0 : Int32))
  refine op T1 (mkF m 125 #[rv a0, rv a1, iv 0, iv p3] []) (fun _ k => XS.ifYes X1.here hx rfl (pc0 := 50) (pc' := 125) rfl (hb hby d13_50) rfl ((if0 _ _).trans (teq hc50).1) (by decide) (by decide) k) ?_
  exact gpu1a_125 hw p3 sz rng tsz ful nC nT l0 a0 a1 sS sT sL sC sA Gd Hb Hc Ha Gz Ge Hd He H0 Gh Gi Gu HS HC HT HN Bd hml hZ G0 Hg Hj Hk Hh T1 X1 (rfl : T1.heap = T1.heap) SZ1 NF1 KP1 f2 f3 f4 f5 f6 f7 f8 f9 f10 f11 f12 f13 f14 f15 f16 f17 f18
def fpu1a_0 (p3 sz rng tsz ful nC nT l0 : Int32) : Int32 × Int32 := (if sz < nC then (fpu1a_44 p3 sz rng tsz ful nC nT l0) else (fpu1a_44 p3 sz rng tsz ful nC nT l0))
set_option maxRecDepth 65536 in
set_option maxHeartbeats 40000000 in
theorem gpu1a_0 (hw : HW aw Z) {h0 : Heap} {n0 : Nat} (p3 sz rng tsz ful nC nT l0 : Int32) (a0 a1 sS sT sL sC sA : Addr) (Gd : a0 ≠ sS) (Hb : sS ≠ sT) (Hc : sS ≠ sL) (Ha : sS ≠ sC) (Gz : a1 ≠ sS) (Ge : a0 ≠ sC) (Hd : sT ≠ sC) (He : sL ≠ sC) (H0 : a1 ≠ sC) (Gh : a0 ≠ sT) (Gi : a0 ≠ sL) (Gu : a0 ≠ a1) (HS : 0 ≤ sz.toInt) (HC : nC.toInt ≤ 100) (HT : 0 ≤ tsz.toInt) (HN : nT.toInt ≤ 100)
    (Bd : BodyLoose p l y3 (head1 (Jvm.Cond.code y3 Gj 4 none :: ws) Qpu1a) Gj 4 none e s m #[(.ref a0), (.ref a1), (.int 0), (.int p3)] below meth c s₁) (hml : c.maxLocals = 4) (hZ : Z.Warmed39 s.vm) (G0 : n0 ≤ a0) (Hg : n0 ≤ sS) (Hj : n0 ≤ sT) (Hk : n0 ≤ sL) (Hh : n0 ≤ sC) (T0 : State) {locs : List Loc} (X0 : Stand p l e Qpu1a s m #[(.ref a0), (.ref a1), (.int 0), (.int p3)] below meth c T0 locs 0 0) (e0 : T0.heap = h0) (SZ0 : n0 ≤ h0.size) (NF0 : Fr n0 locs) (KP0 : Keep h0 h0 [a0, sS, sT, sL, sC]) (Ga : Exa Z h0 a0 cS) (Gk : Fld Z h0 a0 cS "starts" "[I" (.ref sS)) (Hm : Fld Z h0 a0 cS "tailed" "[I" (.ref sT)) (Hq : Fld Z h0 a0 cS "tails" "[I" (.ref sL)) (Gg : Fld Z h0 a0 cS "countries" "[C" (.ref sC)) (Gb : Fld Z h0 a0 cS "width" "I" (.int 1)) (Gr : Fld Z h0 a0 cS "head" "I" (.int 1)) (Gw : Fld Z h0 a0 cS "after" "[I" (.ref sA)) (Gc : Fld Z h0 a0 cS "size" "I" (.int sz)) (Gq : Fld Z h0 a0 cS "ranges" "I" (.int rng)) (Hf : Fld Z h0 a0 cS "tailedSize" "I" (.int tsz)) (Gt : Fld Z h0 a0 cS "full" "Z" (.int ful)) (H6 : own_Ar Z h0 sS .int (nC * (1 : Int32))) (Gx : own_Ar Z h0 sT .int nT) (Gy : own_Ar Z h0 sL .int (nT * (0 : Int32))) (Gv : own_Ar Z h0 sC .char nC) (Gp : own_Iv Z h0 a1 (1 : Int32) [l0]) :
    own_Go p e below s Qpu1a.cells Qpu1a.slots (Rpu1a (fpu1a_0 p3 sz rng tsz ful nC nT l0)) (Kpu1a Z p3 sz rng tsz ful nC nT l0 a0 a1 sS sT sL sC sA h0 n0 (fpu1a_0 p3 sz rng tsz ful nC nT l0)) (T0.setTop (mkF m 0 #[rv a0, rv a1, iv 0, iv p3] [])) := by
  have hx := Bd.exec
  have hby := Bd.bytes
  have hown : s.vm.findClass cS = some m.cls := findClass_of_methodNamed Bd.named
  have hnm := (name_of_methodNamed Bd.named Bd.method).1
  unfold fpu1a_0
  refine op T0 (mkF m 1 #[rv a0, rv a1, iv 0, iv p3] [(.ref a0)]) (fun _ k => XS.aloadN X0.here hx rfl (hb hby d13_0) rfl rfl k) ?_
  obtain ⟨T1, X1, e1, st'⟩ := getF X0 hx hZ hown (host := "") (Or.inl (ow hw 91 rfl)) Via.refl e0 Gc (g := (mkF m 1 #[rv a0, rv a1, iv 0, iv p3] [(.ref a0)])) rfl rfl (hb hby d13_1)
  refine op T1 (mkF m 5 #[rv a0, rv a1, iv 0, iv p3] [(.ref a0), (.int sz)]) (fun _ k => st' _ (XS.aloadN X1.here hx rfl (hb hby d13_4) rfl rfl k)) ?_
  obtain ⟨T2, X2, e2, st'⟩ := getF X1 hx hZ hown (host := "") (Or.inl (ow hw 53 rfl)) Via.refl e1 Gg (g := (mkF m 5 #[rv a0, rv a1, iv 0, iv p3] [(.ref a0), (.int sz)])) rfl rfl (hb hby d13_5)
  refine op T2 (mkF m 8 #[rv a0, rv a1, iv 0, iv p3] [(.ref sC), (.int sz)]) (fun _ k => st' _ k) ?_
  obtain ⟨k3, vs3, ⟨cl3, Ar3, q3, S3, N3, H3, G3⟩, hl3⟩ := id Gv
  refine op T2 (mkF m 9 #[rv a0, rv a1, iv 0, iv p3] [(.int nC), (.int sz)]) (fun t k => X2.arraylength hx (by rw [e2]; exact Ar3.1) (State.isArrayOf_alike hZ.alike Ar3.2.1) (g := (mkF m 8 #[rv a0, rv a1, iv 0, iv p3] [(.ref sC), (.int sz)])) rfl rfl (hb hby d13_8) t (by rw [len_of S3 N3]; exact k)) ?_
  refine own_iteT Rpu1a (Kpu1a Z p3 sz rng tsz ful nC nT l0 a0 a1 sS sT sL sC sA h0 n0) (fun hc9 => ?_) (fun hc9 => ?_)
  · skip
    refine op T2 (mkF m 15 #[rv a0, rv a1, iv 0, iv p3] [(.ref a0), (.int 0), (.ref a1)]) (fun _ k => XS.icmpNo X2.here hx rfl (hb hby d13_9) rfl (tlt hc9).2.1 (XS.aloadN X2.here hx rfl (hb hby d13_12) rfl rfl (XS.iloadN X2.here hx rfl (hb hby d13_13) rfl (XS.aloadN X2.here hx rfl (hb hby d13_14) rfl rfl k)))) ?_
    obtain ⟨T4, X4, e4, st'⟩ := getF X2 hx hZ hown (host := "") (Or.inl (ow hw 47 rfl)) Via.refl e2 Gk (g := (mkF m 15 #[rv a0, rv a1, iv 0, iv p3] [(.ref a0), (.int 0), (.ref a1)])) rfl rfl (hb hby d13_15)
    refine op T4 (mkF m 19 #[rv a0, rv a1, iv 0, iv p3] [(.ref a0), (.ref sS), (.int 0), (.ref a1)]) (fun _ k => st' _ (XS.aloadN X4.here hx rfl (hb hby d13_18) rfl rfl k)) ?_
    obtain ⟨T5, X5, e5, st'⟩ := getF X4 hx hZ hown (host := "") (Or.inl (ow hw 91 rfl)) Via.refl e4 Gc (g := (mkF m 19 #[rv a0, rv a1, iv 0, iv p3] [(.ref a0), (.ref sS), (.int 0), (.ref a1)])) rfl rfl (hb hby d13_19)
    refine op T5 (mkF m 23 #[rv a0, rv a1, iv 0, iv p3] [(.ref a0), (.int sz), (.ref sS), (.int 0), (.ref a1)]) (fun _ k => st' _ (XS.aloadN X5.here hx rfl (hb hby d13_22) rfl rfl k)) ?_
    obtain ⟨T6, X6, e6, st'⟩ := getF X5 hx hZ hown (host := "") (Or.inl (ow hw 61 rfl)) Via.refl e5 Gr (g := (mkF m 23 #[rv a0, rv a1, iv 0, iv p3] [(.ref a0), (.int sz), (.ref sS), (.int 0), (.ref a1)])) rfl rfl (hb hby d13_23)
    refine op T6 (mkF m 28 #[rv a0, rv a1, iv 0, iv p3] [(.ref a0), (.int (sz * (1 : Int32))), (.ref sS), (.int 0), (.ref a1)]) (fun _ k => st' _ (XS.imul X6.here hx rfl (hb hby d13_26) rfl (XS.aloadN X6.here hx rfl (hb hby d13_27) rfl rfl k))) ?_
    obtain ⟨T7, X7, e7, st'⟩ := getF X6 hx hZ hown (host := "") (Or.inl (ow hw 61 rfl)) Via.refl e6 Gr (g := (mkF m 28 #[rv a0, rv a1, iv 0, iv p3] [(.ref a0), (.int (sz * (1 : Int32))), (.ref sS), (.int 0), (.ref a1)])) rfl rfl (hb hby d13_28)
    refine op T7 (mkF m 31 #[rv a0, rv a1, iv 0, iv p3] [(.int 1), (.int (sz * (1 : Int32))), (.ref sS), (.int 0), (.ref a1)]) (fun _ k => st' _ k) ?_
    obtain ⟨ks8, As8⟩ := id Gp
    obtain ⟨kd8, vd8, Ad8, hd8⟩ := id H6
    obtain ⟨T8, h8, L8, X8, e8, NF8, KPq8, B8, st'⟩ := cpA X7 hx hZ hown (ow hw 97 rfl) (ow hw 100 rfl) (ow hw 98 rfl) (ow hw 99 rfl) e7 As8 Ad8 (Or.inl ⟨rfl, rfl⟩) (sp := (0 : Int32)) (dp := (sz * (1 : Int32))) (nn := (1 : Int32)) (by decide) (own_c1 HS hc9 HC).1 (by decide) (by decide) (own_c1 HS hc9 HC).2 rfl (by rw [hd8]; exact (own_c1 HS hc9 HC).2) NF0 Hg (g := (mkF m 31 #[rv a0, rv a1, iv 0, iv p3] [(.int 1), (.int (sz * (1 : Int32))), (.ref sS), (.int 0), (.ref a1)])) rfl (by rw [hml]; rfl) rfl (hb hby d13_31) (by decide) (W := 0) (by show 2 * 0 + _ ≤ _; exact Nat.le_of_eq rfl) (by decide)
    have f9 : own_Ar Z h8 sS .int (nC * (1 : Int32)) := own_cp B8 hd8 (by rw [List.length_map, List.length_range]) (own_c1 HS hc9 HC).2
    have SZ8 : n0 ≤ h8.size := Nat.le_trans SZ0 KPq8.1
    have KP8 : Keep h0 h8 [a0, sS, sT, sL, sC] := KP0.trans KPq8 (allS (Or.inl (List.mem_of_getElem? (i := 1) rfl)) all0)
    have f10 := Ga.keep KPq8
    have f11 := Gk.keep KPq8 (ninS Gd nin0)
    have f12 := Hm.keep KPq8 (ninS Gd nin0)
    have f13 := Hq.keep KPq8 (ninS Gd nin0)
    have f14 := Gg.keep KPq8 (ninS Gd nin0)
    have f15 := Gb.keep KPq8 (ninS Gd nin0)
    have f16 := Gr.keep KPq8 (ninS Gd nin0)
    have f17 := Gw.keep KPq8 (ninS Gd nin0)
    have f18 := Gc.keep KPq8 (ninS Gd nin0)
    have f19 := Gq.keep KPq8 (ninS Gd nin0)
    have f20 := Hf.keep KPq8 (ninS Gd nin0)
    have f21 := Gt.keep KPq8 (ninS Gd nin0)
    have f22 := Gx.keep KPq8 (ninS (Ne.symm Hb) nin0)
    have f23 := Gy.keep KPq8 (ninS (Ne.symm Hc) nin0)
    have f24 := Gv.keep KPq8 (ninS (Ne.symm Ha) nin0)
    have f25 := Gp.keep KPq8 (ninS Gz nin0)
    refine op T8 (mkF m 35 #[rv a0, rv a1, iv 0, iv p3] [(.ref a0)]) (fun _ k => st' _ (XS.aloadN X8.here hx rfl (hb hby d13_34) rfl rfl k)) ?_
    obtain ⟨T26, X26, e26, st'⟩ := getF X8 hx hZ hown (host := "") (Or.inl (ow hw 53 rfl)) Via.refl e8 f14 (g := (mkF m 35 #[rv a0, rv a1, iv 0, iv p3] [(.ref a0)])) rfl rfl (hb hby d13_35)
    refine op T26 (mkF m 39 #[rv a0, rv a1, iv 0, iv p3] [(.ref a0), (.ref sC)]) (fun _ k => st' _ (XS.aloadN X26.here hx rfl (hb hby d13_38) rfl rfl k)) ?_
    obtain ⟨T27, X27, e27, st'⟩ := getF X26 hx hZ hown (host := "") (Or.inl (ow hw 91 rfl)) Via.refl e26 f18 (g := (mkF m 39 #[rv a0, rv a1, iv 0, iv p3] [(.ref a0), (.ref sC)])) rfl rfl (hb hby d13_39)
    refine op T27 (mkF m 43 #[rv a0, rv a1, iv 0, iv p3] [(.int p3), (.int sz), (.ref sC)]) (fun _ k => st' _ (XS.iloadN X27.here hx rfl (hb hby d13_42) rfl k)) ?_
    obtain ⟨k28, vs28, ⟨cl28, Ar28, q28, S28, N28, H28, G28⟩, hl28⟩ := id f24
    have hin28 : ¬ (sz < 0 ∨ cl28.slots.size ≤ (sz).toNatClampNeg) := inb_of S28 ⟨(own_n0 HS), hc9⟩
    obtain ⟨T28, h28, X28, e28, W28, st'⟩ := stC X27 hx hZ e27 Ar28 (j := sz) hin28 (g := (mkF m 43 #[rv a0, rv a1, iv 0, iv p3] [(.int p3), (.int sz), (.ref sC)])) rfl rfl (hb hby d13_43)
    have f29 : own_Ar Z h28 sC .char nC := own_Ar.set Ar28 q28 S28 N28 H28 G28 hl28 (fits_nar_char _) W28 (own_n0 HS) hc9
    have f30 := f10.wr W28
    have f31 := f11.other W28 (Or.inl Ge)
    have f32 := f12.other W28 (Or.inl Ge)
    have f33 := f13.other W28 (Or.inl Ge)
    have f34 := f14.other W28 (Or.inl Ge)
    have f35 := f15.other W28 (Or.inl Ge)
    have f36 := f16.other W28 (Or.inl Ge)
    have f37 := f17.other W28 (Or.inl Ge)
    have f38 := f18.other W28 (Or.inl Ge)
    have f39 := f19.other W28 (Or.inl Ge)
    have f40 := f20.other W28 (Or.inl Ge)
    have f41 := f21.other W28 (Or.inl Ge)
    have f42 := f22.other W28 Hd
    have f43 := f23.other W28 He
    have f44 := f25.other W28 H0
    have f45 := f9.other W28 Ha
    have NF28 := Fr.snoc X28 NF8 Hh
    have SZ28 : n0 ≤ h28.size := (Nat.le_trans SZ8 (Keep.of_wr W28).1)
    have KP28 : Keep h0 h28 [a0, sS, sT, sL, sC] := KP8.wr W28 (Or.inl (List.mem_of_getElem? (i := 4) rfl))
    refine op T28 (mkF m 44 #[rv a0, rv a1, iv 0, iv p3] []) (fun _ k => st' _ k) ?_
    exact gpu1a_44 hw p3 sz rng tsz ful nC nT l0 a0 a1 sS sT sL sC sA Gd Hb Hc Ha Gz Ge Hd He H0 Gh Gi Gu HS HC HT HN Bd hml hZ G0 Hg Hj Hk Hh T28 X28 e28 SZ28 NF28 KP28 f30 f31 f32 f33 f34 f35 f36 f37 f38 f39 f40 f41 f42 f43 f29 f44 f45
  · skip
    refine op T2 (mkF m 44 #[rv a0, rv a1, iv 0, iv p3] []) (fun _ k => XS.icmpYes X2.here hx rfl (pc0 := 9) (pc' := 44) rfl (hb hby d13_9) rfl (flt hc9).2.1 (by decide) (by decide) k) ?_
    exact gpu1a_44 hw p3 sz rng tsz ful nC nT l0 a0 a1 sS sT sL sC sA Gd Hb Hc Ha Gz Ge Hd He H0 Gh Gi Gu HS HC HT HN Bd hml hZ G0 Hg Hj Hk Hh T2 X2 e2 SZ0 NF0 KP0 Ga Gk Hm Hq Gg Gb Gr Gw Gc Gq Hf Gt Gx Gy Gv Gp H6
theorem ef_pu1a (m : MethodId) (a0 a1 : Addr) (p3 : Int32) : entryFrame m #[(.ref a0), (.ref a1), (.int 0), (.int p3)] 4 = mkF m 0 #[rv a0, rv a1, iv 0, iv p3] [] := by first | (simp [entryFrame, mkF, argsToLocals, Value.category]; done) | rfl
set_option maxRecDepth 65536 in
set_option maxHeartbeats 40000000 in
theorem rmpu1a (l : Launch) (Z : State) (aw : Array Value) (hw : HW aw Z) (ws : List Jvm.Cond) (p3 sz rng tsz ful nC nT l0 : Int32) (a0 a1 sS sT sL sC sA : Addr) (h0 : Heap) (n0 : Nat) (SZ0 : n0 ≤ h0.size) (Ga : Exa Z h0 a0 cS) (Gk : Fld Z h0 a0 cS "starts" "[I" (.ref sS)) (Hm : Fld Z h0 a0 cS "tailed" "[I" (.ref sT)) (Hq : Fld Z h0 a0 cS "tails" "[I" (.ref sL)) (Gg : Fld Z h0 a0 cS "countries" "[C" (.ref sC)) (Gb : Fld Z h0 a0 cS "width" "I" (.int 1)) (Gr : Fld Z h0 a0 cS "head" "I" (.int 1)) (Gw : Fld Z h0 a0 cS "after" "[I" (.ref sA)) (Gc : Fld Z h0 a0 cS "size" "I" (.int sz)) (Gq : Fld Z h0 a0 cS "ranges" "I" (.int rng)) (Hf : Fld Z h0 a0 cS "tailedSize" "I" (.int tsz)) (Gt : Fld Z h0 a0 cS "full" "Z" (.int ful)) (H6 : own_Ar Z h0 sS .int (nC * (1 : Int32))) (Gx : own_Ar Z h0 sT .int nT) (Gy : own_Ar Z h0 sL .int (nT * (0 : Int32))) (Gv : own_Ar Z h0 sC .char nC) (Gp : own_Iv Z h0 a1 (1 : Int32) [l0]) (Gd : a0 ≠ sS) (Hb : sS ≠ sT) (Hc : sS ≠ sL) (Ha : sS ≠ sC) (Gz : a1 ≠ sS) (Ge : a0 ≠ sC) (Hd : sT ≠ sC) (He : sL ≠ sC) (H0 : a1 ≠ sC) (Gh : a0 ≠ sT) (Gi : a0 ≠ sL) (Gu : a0 ≠ a1) (HS : 0 ≤ sz.toInt) (HC : nC.toInt ≤ 100) (HT : 0 ≤ tsz.toInt) (HN : nT.toInt ≤ 100) (G0 : n0 ≤ a0) (Hg : n0 ≤ sS) (Hj : n0 ≤ sT) (Hk : n0 ≤ sL) (Hh : n0 ≤ sC) :
    MetFree l y3 (head1 (Jvm.Cond.code y3 Gj 4 none :: ws) Qpu1a) (fun a U => a = #[(.ref a0), (.ref a1), (.int 0), (.int p3)] ∧ Z.Warmed39 U.vm ∧ U.heap = h0) (fun _ _ _ _ _ => True) (fun _ U o U' => ∃ v L, o = .returned v ∧ own_Q (Rpu1a (fpu1a_0 p3 sz rng tsz ful nC nT l0)) (Kpu1a Z p3 sz rng tsz ful nC nT l0 a0 a1 sS sT sL sC sA h0 n0 (fpu1a_0 p3 sz rng tsz ful nC nT l0)) v U'.heap L ∧ FrameEnd U o U' L Qpu1a.cells Qpu1a.slots) := by
  refine MetFree.of_bodySF (plainFor_of_name own_pn2) hisR ?_
  intro p e s m args below meth c s₁ Bd hml0 hP hK
  obtain ⟨rfl, hZ, hh⟩ := hP
  have hml : c.maxLocals = 4 := hml0
  have e0 : s₁.heap = h0 := by rw [← hh, Bd.state]; rfl
  exact own_pre (fun t k => castTop (ef_pu1a m a0 a1 p3) k) (gpu1a_0 hw p3 sz rng tsz ful nC nT l0 a0 a1 sS sT sL sC sA Gd Hb Hc Ha Gz Ge Hd He H0 Gh Gi Gu HS HC HT HN Bd hml hZ G0 Hg Hj Hk Hh s₁ (Stand.of_body Bd) e0 SZ0 (Fr.nil n0) (Keep.refl _ _) Ga Gk Hm Hq Gg Gb Gr Gw Gc Gq Hf Gt H6 Gx Gy Gv Gp)
abbrev Qcm4 : Room := { frames := 2, cells := 0, slots := 0, locals := 42 }
/-! body 15, cm4 -/
def Rcm4 (t : Int32) : Option Value := some (.int t)
def Kcm4 (Z : State) (l0 l1 l2 l3 r0 r1 r2 r3 : Int32) (a0 a2 : Addr) (h0 : Heap) (n0 : Nat) (t : Int32) (h : Heap) (L : List Loc) : Prop := Fr n0 L ∧ Keep h0 h []
def fcm4_0 (l0 l1 l2 l3 r0 r1 r2 r3 : Int32) : Int32 := (if (f16_0 l0 r0) = (0 : Int32) then (if (f16_0 l1 r1) = (0 : Int32) then (if (f16_0 l2 r2) = (0 : Int32) then (f16_0 l3 r3) else (f16_0 l2 r2)) else (f16_0 l1 r1)) else (f16_0 l0 r0))
set_option maxRecDepth 65536 in
set_option maxHeartbeats 40000000 in
theorem gcm4_0 (hw : HW aw Z) {h0 : Heap} {n0 : Nat} (l0 l1 l2 l3 r0 r1 r2 r3 : Int32) (a0 a2 : Addr)
    (Bd : BodyLoose p l y1 (head1 (Jvm.Cond.code y1 Jf 7 (some .int) :: ws) Qcm4) Jf 7 (some .int) e s m #[(.ref a0), (.int 0), (.ref a2), (.int 0), (.int 4)] below meth c s₁) (hml : c.maxLocals = 7) (hZ : Z.Warmed39 s.vm) (T0 : State) {locs : List Loc} (X0 : Stand p l e Qcm4 s m #[(.ref a0), (.int 0), (.ref a2), (.int 0), (.int 4)] below meth c T0 locs 0 0) (e0 : T0.heap = h0) (SZ0 : n0 ≤ h0.size) (NF0 : Fr n0 locs) (KP0 : Keep h0 h0 []) (Up : own_Iv Z h0 a0 (4 : Int32) [l0, l1, l2, l3]) (Hi : own_Iv Z h0 a2 (4 : Int32) [r0, r1, r2, r3]) :
    own_Go p e below s Qcm4.cells Qcm4.slots (Rcm4 (fcm4_0 l0 l1 l2 l3 r0 r1 r2 r3)) (Kcm4 Z l0 l1 l2 l3 r0 r1 r2 r3 a0 a2 h0 n0 (fcm4_0 l0 l1 l2 l3 r0 r1 r2 r3)) (T0.setTop (mkF m 0 #[rv a0, iv 0, rv a2, iv 0, iv 4, uu, uu] [])) := by
  have hx := Bd.exec
  have hby := Bd.bytes
  have hown : s.vm.findClass cT = some m.cls := findClass_of_methodNamed Bd.named
  have hnm := (name_of_methodNamed Bd.named Bd.method).1
  unfold fcm4_0
  refine op T0 (mkF m 10 #[rv a0, iv 0, rv a2, iv 0, iv 4, iv 0, iv 0] [(.int 4), (.int 0)]) (fun _ k => XS.iconst X0.here hx rfl (hb hby d15_0) (XS.istore X0.here hx rfl (hb hby d15_1) rfl (l' := #[rv a0, iv 0, rv a2, iv 0, iv 4, iv 0, uu]) rfl (XS.iconst X0.here hx rfl (hb hby d15_3) (XS.istore X0.here hx rfl (hb hby d15_4) rfl (l' := #[rv a0, iv 0, rv a2, iv 0, iv 4, iv 0, iv 0]) rfl (XS.iload X0.here hx rfl (hb hby d15_6) rfl (XS.iload X0.here hx rfl (hb hby d15_8) rfl k)))))) ?_
  have hd1 : (0 : Int32) < (4 : Int32) := by decide
  refine op T0 (mkF m 15 #[rv a0, iv 0, rv a2, iv 0, iv 4, iv 0, iv 0] [(.int 0)]) (fun _ k => XS.icmpNo X0.here hx rfl (hb hby d15_10) rfl (tlt hd1).2.1 (XS.iload X0.here hx rfl (hb hby d15_13) rfl k)) ?_
  have hd2 : (0 : Int32) = (0 : Int32) := by decide
  refine op T0 (mkF m 23 #[rv a0, iv 0, rv a2, iv 0, iv 4, iv 0, iv 0] [(.int 0), (.ref a0)]) (fun _ k => XS.ifNo X0.here hx rfl (hb hby d15_15) rfl ((if0 _ _).trans (teq hd2).2) (XS.aloadN X0.here hx rfl (hb hby d15_18) rfl rfl (XS.iloadN X0.here hx rfl (hb hby d15_19) rfl (XS.iload X0.here hx rfl (hb hby d15_20) rfl (XS.iadd X0.here hx rfl (hb hby d15_22) rfl k))))) ?_
  obtain ⟨k3, cl3, Ar3, q3, S3, N3, H3, G3⟩ := id Up
  have hin3 : ¬ ((0 : Int32) < 0 ∨ cl3.slots.size ≤ ((0 : Int32)).toNatClampNeg) := inb_of S3 ⟨by decide, by decide⟩
  refine op T0 (mkF m 24 #[rv a0, iv 0, rv a2, iv 0, iv 4, iv 0, iv 0] [(.int l0)]) (fun t k => X0.iaload hx (j := (0 : Int32)) (v := (.int l0)) (by rw [e0]; exact Ar3.1) (State.isArrayOf_alike hZ.alike Ar3.2.1) Ar3.2.2 hin3 (H3.at hin3 rfl) (g := (mkF m 23 #[rv a0, iv 0, rv a2, iv 0, iv 4, iv 0, iv 0] [(.int 0), (.ref a0)])) rfl rfl (hb hby d15_23) t k) ?_
  refine op T0 (mkF m 29 #[rv a0, iv 0, rv a2, iv 0, iv 4, iv 0, iv 0] [(.int 0), (.ref a2), (.int l0)]) (fun _ k => XS.aloadN X0.here hx rfl (hb hby d15_24) rfl rfl (XS.iloadN X0.here hx rfl (hb hby d15_25) rfl (XS.iload X0.here hx rfl (hb hby d15_26) rfl (XS.iadd X0.here hx rfl (hb hby d15_28) rfl k)))) ?_
  obtain ⟨k4, cl4, Ar4, q4, S4, N4, H4, G4⟩ := id Hi
  have hin4 : ¬ ((0 : Int32) < 0 ∨ cl4.slots.size ≤ ((0 : Int32)).toNatClampNeg) := inb_of S4 ⟨by decide, by decide⟩
  refine op T0 (mkF m 30 #[rv a0, iv 0, rv a2, iv 0, iv 4, iv 0, iv 0] [(.int r0), (.int l0)]) (fun t k => X0.iaload hx (j := (0 : Int32)) (v := (.int r0)) (by rw [e0]; exact Ar4.1) (State.isArrayOf_alike hZ.alike Ar4.2.1) Ar4.2.2 hin4 (H4.at hin4 rfl) (g := (mkF m 29 #[rv a0, iv 0, rv a2, iv 0, iv 4, iv 0, iv 0] [(.int 0), (.ref a2), (.int l0)])) rfl rfl (hb hby d15_29) t k) ?_
  obtain ⟨_, _, ⟨T5, L5, k5, n5⟩, -, X5', ⟨Lc5, hQ5, l5, y5, z5⟩, st'⟩ := Jvm.LawKit.callS X0 hx (y := y0) hown (mvT hZ (ow hw 109 rfl)) (mvT hZ (ow hw 110 rfl)) (mvT hZ (ow hw 111 rfl)) (mvT hZ (ow hw 112 rfl)) (by decide) (backOf (W := 0) (rm16 l Z aw hw [] l0 r0 h0) hZ (ow hw 112 rfl) (ow hw 111 rfl) (by decide) (by decide)) (g := (mkF m 30 #[rv a0, iv 0, rv a2, iv 0, iv 4, iv 0, iv 0] [(.int r0), (.int l0)])) rfl (by rw [hml]; rfl) (argsL := [(.int l0), (.int r0)]) (rest := []) (lenOf own_pd0 rfl) rfl (by show 2 * 0 + _ ≤ _; exact Nat.le_of_eq rfl) (hb hby d15_30) (fun _ _ => ⟨rfl, e0, (by decide : 0 + 0 ≤ _), (by decide : 0 + 0 ≤ _)⟩)
  dsimp only [Pt.U, Pt.locs, Pt.cells, Pt.slots] at X5' l5 y5 z5 st' hQ5
  subst l5 y5 z5
  obtain ⟨rfl, rfl, e5⟩ := hQ5
  have X5 : Stand p l e Qcm4 s m #[(.ref a0), (.int 0), (.ref a2), (.int 0), (.int 4)] below meth c T5 _ 0 0 := own_locs X5'
  refine op T5 (mkF m 10 #[rv a0, iv 0, rv a2, iv 0, iv 4, iv (f16_0 l0 r0), iv 1] [(.int 4), (.int 1)]) (fun _ k => st' _ (XS.istore X5.here hx rfl (hb hby d15_33) rfl (l' := #[rv a0, iv 0, rv a2, iv 0, iv 4, iv (f16_0 l0 r0), iv 0]) rfl (XS.iinc X5.here hx rfl (hb hby d15_35) rfl (l' := #[rv a0, iv 0, rv a2, iv 0, iv 4, iv (f16_0 l0 r0), iv 1]) rfl (XS.goto X5.here hx rfl (pc0 := 38) (pc' := 6) rfl (hb hby d15_38) (by decide) (by decide) (XS.iload X5.here hx rfl (hb hby d15_6) rfl (XS.iload X5.here hx rfl (hb hby d15_8) rfl k)))))) ?_
  have hd6 : (1 : Int32) < (4 : Int32) := by decide
  refine op T5 (mkF m 15 #[rv a0, iv 0, rv a2, iv 0, iv 4, iv (f16_0 l0 r0), iv 1] [(.int (f16_0 l0 r0))]) (fun _ k => XS.icmpNo X5.here hx rfl (hb hby d15_10) rfl (tlt hd6).2.1 (XS.iload X5.here hx rfl (hb hby d15_13) rfl k)) ?_
  refine own_iteT Rcm4 (Kcm4 Z l0 l1 l2 l3 r0 r1 r2 r3 a0 a2 h0 n0) (fun hc15 => ?_) (fun hc15 => ?_)
  · skip
    refine op T5 (mkF m 23 #[rv a0, iv 0, rv a2, iv 0, iv 4, iv (f16_0 l0 r0), iv 1] [(.int 1), (.ref a0)]) (fun _ k => XS.ifNo X5.here hx rfl (hb hby d15_15) rfl ((if0 _ _).trans (teq hc15).2) (XS.aloadN X5.here hx rfl (hb hby d15_18) rfl rfl (XS.iloadN X5.here hx rfl (hb hby d15_19) rfl (XS.iload X5.here hx rfl (hb hby d15_20) rfl (XS.iadd X5.here hx rfl (hb hby d15_22) rfl k))))) ?_
    obtain ⟨k7, cl7, Ar7, q7, S7, N7, H7, G7⟩ := id Up
    have hin7 : ¬ ((1 : Int32) < 0 ∨ cl7.slots.size ≤ ((1 : Int32)).toNatClampNeg) := inb_of S7 ⟨by decide, by decide⟩
    refine op T5 (mkF m 24 #[rv a0, iv 0, rv a2, iv 0, iv 4, iv (f16_0 l0 r0), iv 1] [(.int l1)]) (fun t k => X5.iaload hx (j := (1 : Int32)) (v := (.int l1)) (by rw [e5]; exact Ar7.1) (State.isArrayOf_alike hZ.alike Ar7.2.1) Ar7.2.2 hin7 (H7.at hin7 rfl) (g := (mkF m 23 #[rv a0, iv 0, rv a2, iv 0, iv 4, iv (f16_0 l0 r0), iv 1] [(.int 1), (.ref a0)])) rfl rfl (hb hby d15_23) t k) ?_
    refine op T5 (mkF m 29 #[rv a0, iv 0, rv a2, iv 0, iv 4, iv (f16_0 l0 r0), iv 1] [(.int 1), (.ref a2), (.int l1)]) (fun _ k => XS.aloadN X5.here hx rfl (hb hby d15_24) rfl rfl (XS.iloadN X5.here hx rfl (hb hby d15_25) rfl (XS.iload X5.here hx rfl (hb hby d15_26) rfl (XS.iadd X5.here hx rfl (hb hby d15_28) rfl k)))) ?_
    obtain ⟨k8, cl8, Ar8, q8, S8, N8, H8, G8⟩ := id Hi
    have hin8 : ¬ ((1 : Int32) < 0 ∨ cl8.slots.size ≤ ((1 : Int32)).toNatClampNeg) := inb_of S8 ⟨by decide, by decide⟩
    refine op T5 (mkF m 30 #[rv a0, iv 0, rv a2, iv 0, iv 4, iv (f16_0 l0 r0), iv 1] [(.int r1), (.int l1)]) (fun t k => X5.iaload hx (j := (1 : Int32)) (v := (.int r1)) (by rw [e5]; exact Ar8.1) (State.isArrayOf_alike hZ.alike Ar8.2.1) Ar8.2.2 hin8 (H8.at hin8 rfl) (g := (mkF m 29 #[rv a0, iv 0, rv a2, iv 0, iv 4, iv (f16_0 l0 r0), iv 1] [(.int 1), (.ref a2), (.int l1)])) rfl rfl (hb hby d15_29) t k) ?_
    obtain ⟨_, _, ⟨T9, L9, k9, n9⟩, -, X9', ⟨Lc9, hQ9, l9, y9, z9⟩, st'⟩ := Jvm.LawKit.callS X5 hx (y := y0) hown (mvT hZ (ow hw 109 rfl)) (mvT hZ (ow hw 110 rfl)) (mvT hZ (ow hw 111 rfl)) (mvT hZ (ow hw 112 rfl)) (by decide) (backOf (W := 0) (rm16 l Z aw hw [] l1 r1 h0) hZ (ow hw 112 rfl) (ow hw 111 rfl) (by decide) (by decide)) (g := (mkF m 30 #[rv a0, iv 0, rv a2, iv 0, iv 4, iv (f16_0 l0 r0), iv 1] [(.int r1), (.int l1)])) rfl (by rw [hml]; rfl) (argsL := [(.int l1), (.int r1)]) (rest := []) (lenOf own_pd0 rfl) rfl (by show 2 * 0 + _ ≤ _; exact Nat.le_of_eq rfl) (hb hby d15_30) (fun _ _ => ⟨rfl, e5, (by decide : 0 + 0 ≤ _), (by decide : 0 + 0 ≤ _)⟩)
    dsimp only [Pt.U, Pt.locs, Pt.cells, Pt.slots] at X9' l9 y9 z9 st' hQ9
    subst l9 y9 z9
    obtain ⟨rfl, rfl, e9⟩ := hQ9
    have X9 : Stand p l e Qcm4 s m #[(.ref a0), (.int 0), (.ref a2), (.int 0), (.int 4)] below meth c T9 _ 0 0 := own_locs X9'
    refine op T9 (mkF m 10 #[rv a0, iv 0, rv a2, iv 0, iv 4, iv (f16_0 l1 r1), iv 2] [(.int 4), (.int 2)]) (fun _ k => st' _ (XS.istore X9.here hx rfl (hb hby d15_33) rfl (l' := #[rv a0, iv 0, rv a2, iv 0, iv 4, iv (f16_0 l1 r1), iv 1]) rfl (XS.iinc X9.here hx rfl (hb hby d15_35) rfl (l' := #[rv a0, iv 0, rv a2, iv 0, iv 4, iv (f16_0 l1 r1), iv 2]) rfl (XS.goto X9.here hx rfl (pc0 := 38) (pc' := 6) rfl (hb hby d15_38) (by decide) (by decide) (XS.iload X9.here hx rfl (hb hby d15_6) rfl (XS.iload X9.here hx rfl (hb hby d15_8) rfl k)))))) ?_
    have hd10 : (2 : Int32) < (4 : Int32) := by decide
    refine op T9 (mkF m 15 #[rv a0, iv 0, rv a2, iv 0, iv 4, iv (f16_0 l1 r1), iv 2] [(.int (f16_0 l1 r1))]) (fun _ k => XS.icmpNo X9.here hx rfl (hb hby d15_10) rfl (tlt hd10).2.1 (XS.iload X9.here hx rfl (hb hby d15_13) rfl k)) ?_
    refine own_iteT Rcm4 (Kcm4 Z l0 l1 l2 l3 r0 r1 r2 r3 a0 a2 h0 n0) (fun hc15 => ?_) (fun hc15 => ?_)
    · skip
      refine op T9 (mkF m 23 #[rv a0, iv 0, rv a2, iv 0, iv 4, iv (f16_0 l1 r1), iv 2] [(.int 2), (.ref a0)]) (fun _ k => XS.ifNo X9.here hx rfl (hb hby d15_15) rfl ((if0 _ _).trans (teq hc15).2) (XS.aloadN X9.here hx rfl (hb hby d15_18) rfl rfl (XS.iloadN X9.here hx rfl (hb hby d15_19) rfl (XS.iload X9.here hx rfl (hb hby d15_20) rfl (XS.iadd X9.here hx rfl (hb hby d15_22) rfl k))))) ?_
      obtain ⟨k11, cl11, Ar11, q11, S11, N11, H11, G11⟩ := id Up
      have hin11 : ¬ ((2 : Int32) < 0 ∨ cl11.slots.size ≤ ((2 : Int32)).toNatClampNeg) := inb_of S11 ⟨by decide, by decide⟩
      refine op T9 (mkF m 24 #[rv a0, iv 0, rv a2, iv 0, iv 4, iv (f16_0 l1 r1), iv 2] [(.int l2)]) (fun t k => X9.iaload hx (j := (2 : Int32)) (v := (.int l2)) (by rw [e9]; exact Ar11.1) (State.isArrayOf_alike hZ.alike Ar11.2.1) Ar11.2.2 hin11 (H11.at hin11 rfl) (g := (mkF m 23 #[rv a0, iv 0, rv a2, iv 0, iv 4, iv (f16_0 l1 r1), iv 2] [(.int 2), (.ref a0)])) rfl rfl (hb hby d15_23) t k) ?_
      refine op T9 (mkF m 29 #[rv a0, iv 0, rv a2, iv 0, iv 4, iv (f16_0 l1 r1), iv 2] [(.int 2), (.ref a2), (.int l2)]) (fun _ k => XS.aloadN X9.here hx rfl (hb hby d15_24) rfl rfl (XS.iloadN X9.here hx rfl (hb hby d15_25) rfl (XS.iload X9.here hx rfl (hb hby d15_26) rfl (XS.iadd X9.here hx rfl (hb hby d15_28) rfl k)))) ?_
      obtain ⟨k12, cl12, Ar12, q12, S12, N12, H12, G12⟩ := id Hi
      have hin12 : ¬ ((2 : Int32) < 0 ∨ cl12.slots.size ≤ ((2 : Int32)).toNatClampNeg) := inb_of S12 ⟨by decide, by decide⟩
      refine op T9 (mkF m 30 #[rv a0, iv 0, rv a2, iv 0, iv 4, iv (f16_0 l1 r1), iv 2] [(.int r2), (.int l2)]) (fun t k => X9.iaload hx (j := (2 : Int32)) (v := (.int r2)) (by rw [e9]; exact Ar12.1) (State.isArrayOf_alike hZ.alike Ar12.2.1) Ar12.2.2 hin12 (H12.at hin12 rfl) (g := (mkF m 29 #[rv a0, iv 0, rv a2, iv 0, iv 4, iv (f16_0 l1 r1), iv 2] [(.int 2), (.ref a2), (.int l2)])) rfl rfl (hb hby d15_29) t k) ?_
      obtain ⟨_, _, ⟨T13, L13, k13, n13⟩, -, X13', ⟨Lc13, hQ13, l13, y13, z13⟩, st'⟩ := Jvm.LawKit.callS X9 hx (y := y0) hown (mvT hZ (ow hw 109 rfl)) (mvT hZ (ow hw 110 rfl)) (mvT hZ (ow hw 111 rfl)) (mvT hZ (ow hw 112 rfl)) (by decide) (backOf (W := 0) (rm16 l Z aw hw [] l2 r2 h0) hZ (ow hw 112 rfl) (ow hw 111 rfl) (by decide) (by decide)) (g := (mkF m 30 #[rv a0, iv 0, rv a2, iv 0, iv 4, iv (f16_0 l1 r1), iv 2] [(.int r2), (.int l2)])) rfl (by rw [hml]; rfl) (argsL := [(.int l2), (.int r2)]) (rest := []) (lenOf own_pd0 rfl) rfl (by show 2 * 0 + _ ≤ _; exact Nat.le_of_eq rfl) (hb hby d15_30) (fun _ _ => ⟨rfl, e9, (by decide : 0 + 0 ≤ _), (by decide : 0 + 0 ≤ _)⟩)
      dsimp only [Pt.U, Pt.locs, Pt.cells, Pt.slots] at X13' l13 y13 z13 st' hQ13
      subst l13 y13 z13
      obtain ⟨rfl, rfl, e13⟩ := hQ13
      have X13 : Stand p l e Qcm4 s m #[(.ref a0), (.int 0), (.ref a2), (.int 0), (.int 4)] below meth c T13 _ 0 0 := own_locs X13'
      refine op T13 (mkF m 10 #[rv a0, iv 0, rv a2, iv 0, iv 4, iv (f16_0 l2 r2), iv 3] [(.int 4), (.int 3)]) (fun _ k => st' _ (XS.istore X13.here hx rfl (hb hby d15_33) rfl (l' := #[rv a0, iv 0, rv a2, iv 0, iv 4, iv (f16_0 l2 r2), iv 2]) rfl (XS.iinc X13.here hx rfl (hb hby d15_35) rfl (l' := #[rv a0, iv 0, rv a2, iv 0, iv 4, iv (f16_0 l2 r2), iv 3]) rfl (XS.goto X13.here hx rfl (pc0 := 38) (pc' := 6) rfl (hb hby d15_38) (by decide) (by decide) (XS.iload X13.here hx rfl (hb hby d15_6) rfl (XS.iload X13.here hx rfl (hb hby d15_8) rfl k)))))) ?_
      have hd14 : (3 : Int32) < (4 : Int32) := by decide
      refine op T13 (mkF m 15 #[rv a0, iv 0, rv a2, iv 0, iv 4, iv (f16_0 l2 r2), iv 3] [(.int (f16_0 l2 r2))]) (fun _ k => XS.icmpNo X13.here hx rfl (hb hby d15_10) rfl (tlt hd14).2.1 (XS.iload X13.here hx rfl (hb hby d15_13) rfl k)) ?_
      refine own_iteT Rcm4 (Kcm4 Z l0 l1 l2 l3 r0 r1 r2 r3 a0 a2 h0 n0) (fun hc15 => ?_) (fun hc15 => ?_)
      · skip
        refine op T13 (mkF m 23 #[rv a0, iv 0, rv a2, iv 0, iv 4, iv (f16_0 l2 r2), iv 3] [(.int 3), (.ref a0)]) (fun _ k => XS.ifNo X13.here hx rfl (hb hby d15_15) rfl ((if0 _ _).trans (teq hc15).2) (XS.aloadN X13.here hx rfl (hb hby d15_18) rfl rfl (XS.iloadN X13.here hx rfl (hb hby d15_19) rfl (XS.iload X13.here hx rfl (hb hby d15_20) rfl (XS.iadd X13.here hx rfl (hb hby d15_22) rfl k))))) ?_
        obtain ⟨k15, cl15, Ar15, q15, S15, N15, H15, G15⟩ := id Up
        have hin15 : ¬ ((3 : Int32) < 0 ∨ cl15.slots.size ≤ ((3 : Int32)).toNatClampNeg) := inb_of S15 ⟨by decide, by decide⟩
        refine op T13 (mkF m 24 #[rv a0, iv 0, rv a2, iv 0, iv 4, iv (f16_0 l2 r2), iv 3] [(.int l3)]) (fun t k => X13.iaload hx (j := (3 : Int32)) (v := (.int l3)) (by rw [e13]; exact Ar15.1) (State.isArrayOf_alike hZ.alike Ar15.2.1) Ar15.2.2 hin15 (H15.at hin15 rfl) (g := (mkF m 23 #[rv a0, iv 0, rv a2, iv 0, iv 4, iv (f16_0 l2 r2), iv 3] [(.int 3), (.ref a0)])) rfl rfl (hb hby d15_23) t k) ?_
        refine op T13 (mkF m 29 #[rv a0, iv 0, rv a2, iv 0, iv 4, iv (f16_0 l2 r2), iv 3] [(.int 3), (.ref a2), (.int l3)]) (fun _ k => XS.aloadN X13.here hx rfl (hb hby d15_24) rfl rfl (XS.iloadN X13.here hx rfl (hb hby d15_25) rfl (XS.iload X13.here hx rfl (hb hby d15_26) rfl (XS.iadd X13.here hx rfl (hb hby d15_28) rfl k)))) ?_
        obtain ⟨k16, cl16, Ar16, q16, S16, N16, H16, G16⟩ := id Hi
        have hin16 : ¬ ((3 : Int32) < 0 ∨ cl16.slots.size ≤ ((3 : Int32)).toNatClampNeg) := inb_of S16 ⟨by decide, by decide⟩
        refine op T13 (mkF m 30 #[rv a0, iv 0, rv a2, iv 0, iv 4, iv (f16_0 l2 r2), iv 3] [(.int r3), (.int l3)]) (fun t k => X13.iaload hx (j := (3 : Int32)) (v := (.int r3)) (by rw [e13]; exact Ar16.1) (State.isArrayOf_alike hZ.alike Ar16.2.1) Ar16.2.2 hin16 (H16.at hin16 rfl) (g := (mkF m 29 #[rv a0, iv 0, rv a2, iv 0, iv 4, iv (f16_0 l2 r2), iv 3] [(.int 3), (.ref a2), (.int l3)])) rfl rfl (hb hby d15_29) t k) ?_
        obtain ⟨_, _, ⟨T17, L17, k17, n17⟩, -, X17', ⟨Lc17, hQ17, l17, y17, z17⟩, st'⟩ := Jvm.LawKit.callS X13 hx (y := y0) hown (mvT hZ (ow hw 109 rfl)) (mvT hZ (ow hw 110 rfl)) (mvT hZ (ow hw 111 rfl)) (mvT hZ (ow hw 112 rfl)) (by decide) (backOf (W := 0) (rm16 l Z aw hw [] l3 r3 h0) hZ (ow hw 112 rfl) (ow hw 111 rfl) (by decide) (by decide)) (g := (mkF m 30 #[rv a0, iv 0, rv a2, iv 0, iv 4, iv (f16_0 l2 r2), iv 3] [(.int r3), (.int l3)])) rfl (by rw [hml]; rfl) (argsL := [(.int l3), (.int r3)]) (rest := []) (lenOf own_pd0 rfl) rfl (by show 2 * 0 + _ ≤ _; exact Nat.le_of_eq rfl) (hb hby d15_30) (fun _ _ => ⟨rfl, e13, (by decide : 0 + 0 ≤ _), (by decide : 0 + 0 ≤ _)⟩)
        dsimp only [Pt.U, Pt.locs, Pt.cells, Pt.slots] at X17' l17 y17 z17 st' hQ17
        subst l17 y17 z17
        obtain ⟨rfl, rfl, e17⟩ := hQ17
        have X17 : Stand p l e Qcm4 s m #[(.ref a0), (.int 0), (.ref a2), (.int 0), (.int 4)] below meth c T17 _ 0 0 := own_locs X17'
        refine op T17 (mkF m 10 #[rv a0, iv 0, rv a2, iv 0, iv 4, iv (f16_0 l3 r3), iv 4] [(.int 4), (.int 4)]) (fun _ k => st' _ (XS.istore X17.here hx rfl (hb hby d15_33) rfl (l' := #[rv a0, iv 0, rv a2, iv 0, iv 4, iv (f16_0 l3 r3), iv 3]) rfl (XS.iinc X17.here hx rfl (hb hby d15_35) rfl (l' := #[rv a0, iv 0, rv a2, iv 0, iv 4, iv (f16_0 l3 r3), iv 4]) rfl (XS.goto X17.here hx rfl (pc0 := 38) (pc' := 6) rfl (hb hby d15_38) (by decide) (by decide) (XS.iload X17.here hx rfl (hb hby d15_6) rfl (XS.iload X17.here hx rfl (hb hby d15_8) rfl k)))))) ?_
        have hd18 : ¬ ((4 : Int32) < (4 : Int32)) := by decide
        refine op T17 (mkF m 43 #[rv a0, iv 0, rv a2, iv 0, iv 4, iv (f16_0 l3 r3), iv 4] [(.int (f16_0 l3 r3))]) (fun _ k => XS.icmpYes X17.here hx rfl (pc0 := 10) (pc' := 41) rfl (hb hby d15_10) rfl (flt hd18).2.1 (by decide) (by decide) (XS.iload X17.here hx rfl (hb hby d15_41) rfl k)) ?_
        exact own_ret (w := (.int (f16_0 l3 r3))) X17 hx Bd.notSynchronized Bd.returns rfl (Or.inl ⟨rfl, by simp, _, rfl⟩) (hb hby d15_43) (by rw [e17]; exact ⟨NF0, KP0⟩) (by decide) (by decide)
      · skip
        refine op T13 (mkF m 43 #[rv a0, iv 0, rv a2, iv 0, iv 4, iv (f16_0 l2 r2), iv 3] [(.int (f16_0 l2 r2))]) (fun _ k => XS.ifYes X13.here hx rfl (pc0 := 15) (pc' := 41) rfl (hb hby d15_15) rfl ((if0 _ _).trans (feq hc15).2) (by decide) (by decide) (XS.iload X13.here hx rfl (hb hby d15_41) rfl k)) ?_
        exact own_ret (w := (.int (f16_0 l2 r2))) X13 hx Bd.notSynchronized Bd.returns rfl (Or.inl ⟨rfl, by simp, _, rfl⟩) (hb hby d15_43) (by rw [e13]; exact ⟨NF0, KP0⟩) (by decide) (by decide)
    · skip
      refine op T9 (mkF m 43 #[rv a0, iv 0, rv a2, iv 0, iv 4, iv (f16_0 l1 r1), iv 2] [(.int (f16_0 l1 r1))]) (fun _ k => XS.ifYes X9.here hx rfl (pc0 := 15) (pc' := 41) rfl (hb hby d15_15) rfl ((if0 _ _).trans (feq hc15).2) (by decide) (by decide) (XS.iload X9.here hx rfl (hb hby d15_41) rfl k)) ?_
      exact own_ret (w := (.int (f16_0 l1 r1))) X9 hx Bd.notSynchronized Bd.returns rfl (Or.inl ⟨rfl, by simp, _, rfl⟩) (hb hby d15_43) (by rw [e9]; exact ⟨NF0, KP0⟩) (by decide) (by decide)
  · skip
    refine op T5 (mkF m 43 #[rv a0, iv 0, rv a2, iv 0, iv 4, iv (f16_0 l0 r0), iv 1] [(.int (f16_0 l0 r0))]) (fun _ k => XS.ifYes X5.here hx rfl (pc0 := 15) (pc' := 41) rfl (hb hby d15_15) rfl ((if0 _ _).trans (feq hc15).2) (by decide) (by decide) (XS.iload X5.here hx rfl (hb hby d15_41) rfl k)) ?_
    exact own_ret (w := (.int (f16_0 l0 r0))) X5 hx Bd.notSynchronized Bd.returns rfl (Or.inl ⟨rfl, by simp, _, rfl⟩) (hb hby d15_43) (by rw [e5]; exact ⟨NF0, KP0⟩) (by decide) (by decide)
theorem ef_cm4 (m : MethodId) (a0 a2 : Addr) : entryFrame m #[(.ref a0), (.int 0), (.ref a2), (.int 0), (.int 4)] 7 = mkF m 0 #[rv a0, iv 0, rv a2, iv 0, iv 4, uu, uu] [] := by first | (simp [entryFrame, mkF, argsToLocals, Value.category]; done) | rfl
set_option maxRecDepth 65536 in
set_option maxHeartbeats 40000000 in
theorem rmcm4 (l : Launch) (Z : State) (aw : Array Value) (hw : HW aw Z) (ws : List Jvm.Cond) (l0 l1 l2 l3 r0 r1 r2 r3 : Int32) (a0 a2 : Addr) (h0 : Heap) (n0 : Nat) (SZ0 : n0 ≤ h0.size) (Up : own_Iv Z h0 a0 (4 : Int32) [l0, l1, l2, l3]) (Hi : own_Iv Z h0 a2 (4 : Int32) [r0, r1, r2, r3]) :
    MetFree l y1 (head1 (Jvm.Cond.code y1 Jf 7 (some .int) :: ws) Qcm4) (fun a U => a = #[(.ref a0), (.int 0), (.ref a2), (.int 0), (.int 4)] ∧ Z.Warmed39 U.vm ∧ U.heap = h0) (fun _ _ _ _ _ => True) (fun _ U o U' => ∃ v L, o = .returned v ∧ own_Q (Rcm4 (fcm4_0 l0 l1 l2 l3 r0 r1 r2 r3)) (Kcm4 Z l0 l1 l2 l3 r0 r1 r2 r3 a0 a2 h0 n0 (fcm4_0 l0 l1 l2 l3 r0 r1 r2 r3)) v U'.heap L ∧ FrameEnd U o U' L Qcm4.cells Qcm4.slots) := by
  refine MetFree.of_bodySF (plainFor_of_name own_pn1) hisR ?_
  intro p e s m args below meth c s₁ Bd hml0 hP hK
  obtain ⟨rfl, hZ, hh⟩ := hP
  have hml : c.maxLocals = 7 := hml0
  have e0 : s₁.heap = h0 := by rw [← hh, Bd.state]; rfl
  exact own_pre (fun t k => castTop (ef_cm4 m a0 a2) k) (gcm4_0 hw l0 l1 l2 l3 r0 r1 r2 r3 a0 a2 Bd hml hZ s₁ (Stand.of_body Bd) e0 SZ0 (Fr.nil n0) (Keep.refl _ _) Up Hi)
abbrev Qht4a : Room := { frames := 0, cells := 0, slots := 0, locals := 0 }
/-! body 14, ht4a -/
def Rht4a (t : Int32) : Option Value := some (.int t)
def Kht4a (Z : State) (l0 l1 l2 l3 : Int32) (a0 a1 : Addr) (h0 : Heap) (n0 : Nat) (t : Int32) (h : Heap) (L : List Loc) : Prop := Fr n0 L ∧ Keep h0 h []
def fht4a_0 (l0 l1 l2 l3 : Int32) : Int32 := (if l2 = (0 : Int32) then (if l3 = (0 : Int32) then (0 : Int32) else (1 : Int32)) else (1 : Int32))
set_option maxRecDepth 65536 in
set_option maxHeartbeats 40000000 in
theorem ght4a_0 (hw : HW aw Z) {h0 : Heap} {n0 : Nat} (l0 l1 l2 l3 : Int32) (a0 a1 : Addr)
    (Bd : BodyLoose p l y2 (head1 (Jvm.Cond.code y2 Jg 5 (some .boolean) :: ws) Qht4a) Jg 5 (some .boolean) e s m #[(.ref a0), (.ref a1), (.int 0)] below meth c s₁) (hml : c.maxLocals = 5) (hZ : Z.Warmed39 s.vm) (T0 : State) {locs : List Loc} (X0 : Stand p l e Qht4a s m #[(.ref a0), (.ref a1), (.int 0)] below meth c T0 locs 0 0) (e0 : T0.heap = h0) (SZ0 : n0 ≤ h0.size) (NF0 : Fr n0 locs) (KP0 : Keep h0 h0 []) (Ga : Exa Z h0 a0 cS) (Gb : Fld Z h0 a0 cS "width" "I" (.int 4)) (Gr : Fld Z h0 a0 cS "head" "I" (.int 2)) (Gp : own_Iv Z h0 a1 (4 : Int32) [l0, l1, l2, l3]) :
    own_Go p e below s Qht4a.cells Qht4a.slots (Rht4a (fht4a_0 l0 l1 l2 l3)) (Kht4a Z l0 l1 l2 l3 a0 a1 h0 n0 (fht4a_0 l0 l1 l2 l3)) (T0.setTop (mkF m 0 #[rv a0, rv a1, iv 0, uu, uu] [])) := by
  have hx := Bd.exec
  have hby := Bd.bytes
  have hown : s.vm.findClass cS = some m.cls := findClass_of_methodNamed Bd.named
  have hnm := (name_of_methodNamed Bd.named Bd.method).1
  unfold fht4a_0
  refine op T0 (mkF m 3 #[rv a0, rv a1, iv 0, iv 0, uu] [(.ref a0)]) (fun _ k => XS.iconst X0.here hx rfl (hb hby d14_0) (XS.istoreN X0.here hx rfl (hb hby d14_1) rfl (l' := #[rv a0, rv a1, iv 0, iv 0, uu]) rfl (XS.aloadN X0.here hx rfl (hb hby d14_2) rfl rfl k))) ?_
  obtain ⟨T1, X1, e1, st'⟩ := getF X0 hx hZ hown (host := "") (Or.inl (ow hw 61 rfl)) Via.refl e0 Gr (g := (mkF m 3 #[rv a0, rv a1, iv 0, iv 0, uu] [(.ref a0)])) rfl rfl (hb hby d14_3)
  refine op T1 (mkF m 11 #[rv a0, rv a1, iv 0, iv 0, iv 2] [(.ref a0), (.int 2)]) (fun _ k => st' _ (XS.istore X1.here hx rfl (hb hby d14_6) rfl (l' := #[rv a0, rv a1, iv 0, iv 0, iv 2]) rfl (XS.iload X1.here hx rfl (hb hby d14_8) rfl (XS.aloadN X1.here hx rfl (hb hby d14_10) rfl rfl k)))) ?_
  obtain ⟨T2, X2, e2, st'⟩ := getF X1 hx hZ hown (host := "") (Or.inl (ow hw 55 rfl)) Via.refl e1 Gb (g := (mkF m 11 #[rv a0, rv a1, iv 0, iv 0, iv 2] [(.ref a0), (.int 2)])) rfl rfl (hb hby d14_11)
  refine op T2 (mkF m 14 #[rv a0, rv a1, iv 0, iv 0, iv 2] [(.int 4), (.int 2)]) (fun _ k => st' _ k) ?_
  have hd3 : (2 : Int32) < (4 : Int32) := by decide
  refine op T2 (mkF m 18 #[rv a0, rv a1, iv 0, iv 0, iv 2] [(.int 0)]) (fun _ k => XS.icmpNo X2.here hx rfl (hb hby d14_14) rfl (tlt hd3).2.1 (XS.iloadN X2.here hx rfl (hb hby d14_17) rfl k)) ?_
  have hd4 : (0 : Int32) = (0 : Int32) := by decide
  refine op T2 (mkF m 26 #[rv a0, rv a1, iv 0, iv 0, iv 2] [(.int 2), (.ref a1)]) (fun _ k => XS.ifNo X2.here hx rfl (hb hby d14_18) rfl ((if0 _ _).trans (teq hd4).2) (XS.aloadN X2.here hx rfl (hb hby d14_21) rfl rfl (XS.iloadN X2.here hx rfl (hb hby d14_22) rfl (XS.iload X2.here hx rfl (hb hby d14_23) rfl (XS.iadd X2.here hx rfl (hb hby d14_25) rfl k))))) ?_
  obtain ⟨k5, cl5, Ar5, q5, S5, N5, H5, G5⟩ := id Gp
  have hin5 : ¬ ((2 : Int32) < 0 ∨ cl5.slots.size ≤ ((2 : Int32)).toNatClampNeg) := inb_of S5 ⟨by decide, by decide⟩
  refine op T2 (mkF m 27 #[rv a0, rv a1, iv 0, iv 0, iv 2] [(.int l2)]) (fun t k => X2.iaload hx (j := (2 : Int32)) (v := (.int l2)) (by rw [e2]; exact Ar5.1) (State.isArrayOf_alike hZ.alike Ar5.2.1) Ar5.2.2 hin5 (H5.at hin5 rfl) (g := (mkF m 26 #[rv a0, rv a1, iv 0, iv 0, iv 2] [(.int 2), (.ref a1)])) rfl rfl (hb hby d14_26) t k) ?_
  refine own_iteT Rht4a (Kht4a Z l0 l1 l2 l3 a0 a1 h0 n0) (fun hc27 => ?_) (fun hc27 => ?_)
  · skip
    refine op T2 (mkF m 11 #[rv a0, rv a1, iv 0, iv 0, iv 3] [(.ref a0), (.int 3)]) (fun _ k => XS.ifYes X2.here hx rfl (pc0 := 27) (pc' := 34) rfl (hb hby d14_27) rfl ((if0 _ _).trans (teq hc27).1) (by decide) (by decide) (XS.iconst X2.here hx rfl (hb hby d14_34) (XS.istoreN X2.here hx rfl (hb hby d14_35) rfl (l' := #[rv a0, rv a1, iv 0, iv 0, iv 2]) rfl (XS.iinc X2.here hx rfl (hb hby d14_36) rfl (l' := #[rv a0, rv a1, iv 0, iv 0, iv 3]) rfl (XS.goto X2.here hx rfl (pc0 := 39) (pc' := 8) rfl (hb hby d14_39) (by decide) (by decide) (XS.iload X2.here hx rfl (hb hby d14_8) rfl (XS.aloadN X2.here hx rfl (hb hby d14_10) rfl rfl k))))))) ?_
    obtain ⟨T6, X6, e6, st'⟩ := getF X2 hx hZ hown (host := "") (Or.inl (ow hw 55 rfl)) Via.refl e2 Gb (g := (mkF m 11 #[rv a0, rv a1, iv 0, iv 0, iv 3] [(.ref a0), (.int 3)])) rfl rfl (hb hby d14_11)
    refine op T6 (mkF m 14 #[rv a0, rv a1, iv 0, iv 0, iv 3] [(.int 4), (.int 3)]) (fun _ k => st' _ k) ?_
    have hd7 : (3 : Int32) < (4 : Int32) := by decide
    refine op T6 (mkF m 18 #[rv a0, rv a1, iv 0, iv 0, iv 3] [(.int 0)]) (fun _ k => XS.icmpNo X6.here hx rfl (hb hby d14_14) rfl (tlt hd7).2.1 (XS.iloadN X6.here hx rfl (hb hby d14_17) rfl k)) ?_
    have hd8 : (0 : Int32) = (0 : Int32) := by decide
    refine op T6 (mkF m 26 #[rv a0, rv a1, iv 0, iv 0, iv 3] [(.int 3), (.ref a1)]) (fun _ k => XS.ifNo X6.here hx rfl (hb hby d14_18) rfl ((if0 _ _).trans (teq hd8).2) (XS.aloadN X6.here hx rfl (hb hby d14_21) rfl rfl (XS.iloadN X6.here hx rfl (hb hby d14_22) rfl (XS.iload X6.here hx rfl (hb hby d14_23) rfl (XS.iadd X6.here hx rfl (hb hby d14_25) rfl k))))) ?_
    obtain ⟨k9, cl9, Ar9, q9, S9, N9, H9, G9⟩ := id Gp
    have hin9 : ¬ ((3 : Int32) < 0 ∨ cl9.slots.size ≤ ((3 : Int32)).toNatClampNeg) := inb_of S9 ⟨by decide, by decide⟩
    refine op T6 (mkF m 27 #[rv a0, rv a1, iv 0, iv 0, iv 3] [(.int l3)]) (fun t k => X6.iaload hx (j := (3 : Int32)) (v := (.int l3)) (by rw [e6]; exact Ar9.1) (State.isArrayOf_alike hZ.alike Ar9.2.1) Ar9.2.2 hin9 (H9.at hin9 rfl) (g := (mkF m 26 #[rv a0, rv a1, iv 0, iv 0, iv 3] [(.int 3), (.ref a1)])) rfl rfl (hb hby d14_26) t k) ?_
    refine own_iteT Rht4a (Kht4a Z l0 l1 l2 l3 a0 a1 h0 n0) (fun hc27 => ?_) (fun hc27 => ?_)
    · skip
      refine op T6 (mkF m 11 #[rv a0, rv a1, iv 0, iv 0, iv 4] [(.ref a0), (.int 4)]) (fun _ k => XS.ifYes X6.here hx rfl (pc0 := 27) (pc' := 34) rfl (hb hby d14_27) rfl ((if0 _ _).trans (teq hc27).1) (by decide) (by decide) (XS.iconst X6.here hx rfl (hb hby d14_34) (XS.istoreN X6.here hx rfl (hb hby d14_35) rfl (l' := #[rv a0, rv a1, iv 0, iv 0, iv 3]) rfl (XS.iinc X6.here hx rfl (hb hby d14_36) rfl (l' := #[rv a0, rv a1, iv 0, iv 0, iv 4]) rfl (XS.goto X6.here hx rfl (pc0 := 39) (pc' := 8) rfl (hb hby d14_39) (by decide) (by decide) (XS.iload X6.here hx rfl (hb hby d14_8) rfl (XS.aloadN X6.here hx rfl (hb hby d14_10) rfl rfl k))))))) ?_
      obtain ⟨T10, X10, e10, st'⟩ := getF X6 hx hZ hown (host := "") (Or.inl (ow hw 55 rfl)) Via.refl e6 Gb (g := (mkF m 11 #[rv a0, rv a1, iv 0, iv 0, iv 4] [(.ref a0), (.int 4)])) rfl rfl (hb hby d14_11)
      refine op T10 (mkF m 14 #[rv a0, rv a1, iv 0, iv 0, iv 4] [(.int 4), (.int 4)]) (fun _ k => st' _ k) ?_
      have hd11 : ¬ ((4 : Int32) < (4 : Int32)) := by decide
      refine op T10 (mkF m 43 #[rv a0, rv a1, iv 0, iv 0, iv 4] [(.int 0)]) (fun _ k => XS.icmpYes X10.here hx rfl (pc0 := 14) (pc' := 42) rfl (hb hby d14_14) rfl (flt hd11).2.1 (by decide) (by decide) (XS.iloadN X10.here hx rfl (hb hby d14_42) rfl k)) ?_
      exact own_ret (w := (.int 0)) X10 hx Bd.notSynchronized Bd.returns rfl (Or.inl ⟨rfl, by simp, _, rfl⟩) (hb hby d14_43) (by rw [e10]; exact ⟨NF0, KP0⟩) (by decide) (by decide)
    · skip
      refine op T6 (mkF m 11 #[rv a0, rv a1, iv 0, iv 1, iv 4] [(.ref a0), (.int 4)]) (fun _ k => XS.ifNo X6.here hx rfl (hb hby d14_27) rfl ((if0 _ _).trans (feq hc27).1) (XS.iconst X6.here hx rfl (hb hby d14_30) (XS.goto X6.here hx rfl (pc0 := 31) (pc' := 35) rfl (hb hby d14_31) (by decide) (by decide) (XS.istoreN X6.here hx rfl (hb hby d14_35) rfl (l' := #[rv a0, rv a1, iv 0, iv 1, iv 3]) rfl (XS.iinc X6.here hx rfl (hb hby d14_36) rfl (l' := #[rv a0, rv a1, iv 0, iv 1, iv 4]) rfl (XS.goto X6.here hx rfl (pc0 := 39) (pc' := 8) rfl (hb hby d14_39) (by decide) (by decide) (XS.iload X6.here hx rfl (hb hby d14_8) rfl (XS.aloadN X6.here hx rfl (hb hby d14_10) rfl rfl k)))))))) ?_
      obtain ⟨T12, X12, e12, st'⟩ := getF X6 hx hZ hown (host := "") (Or.inl (ow hw 55 rfl)) Via.refl e6 Gb (g := (mkF m 11 #[rv a0, rv a1, iv 0, iv 1, iv 4] [(.ref a0), (.int 4)])) rfl rfl (hb hby d14_11)
      refine op T12 (mkF m 14 #[rv a0, rv a1, iv 0, iv 1, iv 4] [(.int 4), (.int 4)]) (fun _ k => st' _ k) ?_
      have hd13 : ¬ ((4 : Int32) < (4 : Int32)) := by decide
      refine op T12 (mkF m 43 #[rv a0, rv a1, iv 0, iv 1, iv 4] [(.int 1)]) (fun _ k => XS.icmpYes X12.here hx rfl (pc0 := 14) (pc' := 42) rfl (hb hby d14_14) rfl (flt hd13).2.1 (by decide) (by decide) (XS.iloadN X12.here hx rfl (hb hby d14_42) rfl k)) ?_
      exact own_ret (w := (.int 1)) X12 hx Bd.notSynchronized Bd.returns rfl (Or.inl ⟨rfl, by simp, _, rfl⟩) (hb hby d14_43) (by rw [e12]; exact ⟨NF0, KP0⟩) (by decide) (by decide)
  · skip
    refine op T2 (mkF m 11 #[rv a0, rv a1, iv 0, iv 1, iv 3] [(.ref a0), (.int 3)]) (fun _ k => XS.ifNo X2.here hx rfl (hb hby d14_27) rfl ((if0 _ _).trans (feq hc27).1) (XS.iconst X2.here hx rfl (hb hby d14_30) (XS.goto X2.here hx rfl (pc0 := 31) (pc' := 35) rfl (hb hby d14_31) (by decide) (by decide) (XS.istoreN X2.here hx rfl (hb hby d14_35) rfl (l' := #[rv a0, rv a1, iv 0, iv 1, iv 2]) rfl (XS.iinc X2.here hx rfl (hb hby d14_36) rfl (l' := #[rv a0, rv a1, iv 0, iv 1, iv 3]) rfl (XS.goto X2.here hx rfl (pc0 := 39) (pc' := 8) rfl (hb hby d14_39) (by decide) (by decide) (XS.iload X2.here hx rfl (hb hby d14_8) rfl (XS.aloadN X2.here hx rfl (hb hby d14_10) rfl rfl k)))))))) ?_
    obtain ⟨T14, X14, e14, st'⟩ := getF X2 hx hZ hown (host := "") (Or.inl (ow hw 55 rfl)) Via.refl e2 Gb (g := (mkF m 11 #[rv a0, rv a1, iv 0, iv 1, iv 3] [(.ref a0), (.int 3)])) rfl rfl (hb hby d14_11)
    refine op T14 (mkF m 14 #[rv a0, rv a1, iv 0, iv 1, iv 3] [(.int 4), (.int 3)]) (fun _ k => st' _ k) ?_
    have hd15 : (3 : Int32) < (4 : Int32) := by decide
    refine op T14 (mkF m 18 #[rv a0, rv a1, iv 0, iv 1, iv 3] [(.int 1)]) (fun _ k => XS.icmpNo X14.here hx rfl (hb hby d14_14) rfl (tlt hd15).2.1 (XS.iloadN X14.here hx rfl (hb hby d14_17) rfl k)) ?_
    have hd16 : ¬ ((1 : Int32) = (0 : Int32)) := by decide
    refine op T14 (mkF m 43 #[rv a0, rv a1, iv 0, iv 1, iv 3] [(.int 1)]) (fun _ k => XS.ifYes X14.here hx rfl (pc0 := 18) (pc' := 42) rfl (hb hby d14_18) rfl ((if0 _ _).trans (feq hd16).2) (by decide) (by decide) (XS.iloadN X14.here hx rfl (hb hby d14_42) rfl k)) ?_
    exact own_ret (w := (.int 1)) X14 hx Bd.notSynchronized Bd.returns rfl (Or.inl ⟨rfl, by simp, _, rfl⟩) (hb hby d14_43) (by rw [e14]; exact ⟨NF0, KP0⟩) (by decide) (by decide)
theorem ef_ht4a (m : MethodId) (a0 a1 : Addr) : entryFrame m #[(.ref a0), (.ref a1), (.int 0)] 5 = mkF m 0 #[rv a0, rv a1, iv 0, uu, uu] [] := by first | (simp [entryFrame, mkF, argsToLocals, Value.category]; done) | rfl
set_option maxRecDepth 65536 in
set_option maxHeartbeats 40000000 in
theorem rmht4a (l : Launch) (Z : State) (aw : Array Value) (hw : HW aw Z) (ws : List Jvm.Cond) (l0 l1 l2 l3 : Int32) (a0 a1 : Addr) (h0 : Heap) (n0 : Nat) (SZ0 : n0 ≤ h0.size) (Ga : Exa Z h0 a0 cS) (Gb : Fld Z h0 a0 cS "width" "I" (.int 4)) (Gr : Fld Z h0 a0 cS "head" "I" (.int 2)) (Gp : own_Iv Z h0 a1 (4 : Int32) [l0, l1, l2, l3]) :
    MetFree l y2 (head1 (Jvm.Cond.code y2 Jg 5 (some .boolean) :: ws) Qht4a) (fun a U => a = #[(.ref a0), (.ref a1), (.int 0)] ∧ Z.Warmed39 U.vm ∧ U.heap = h0) (fun _ _ _ _ _ => True) (fun _ U o U' => ∃ v L, o = .returned v ∧ own_Q (Rht4a (fht4a_0 l0 l1 l2 l3)) (Kht4a Z l0 l1 l2 l3 a0 a1 h0 n0 (fht4a_0 l0 l1 l2 l3)) v U'.heap L ∧ FrameEnd U o U' L Qht4a.cells Qht4a.slots) := by
  refine MetFree.of_bodySF (plainFor_of_name own_pn2) hisR ?_
  intro p e s m args below meth c s₁ Bd hml0 hP hK
  obtain ⟨rfl, hZ, hh⟩ := hP
  have hml : c.maxLocals = 5 := hml0
  have e0 : s₁.heap = h0 := by rw [← hh, Bd.state]; rfl
  exact own_pre (fun t k => castTop (ef_ht4a m a0 a1) k) (ght4a_0 hw l0 l1 l2 l3 a0 a1 Bd hml hZ s₁ (Stand.of_body Bd) e0 SZ0 (Fr.nil n0) (Keep.refl _ _) Ga Gb Gr Gp)
abbrev Qpu4a : Room := { frames := 1, cells := 0, slots := 0, locals := 48 }
theorem sn10 (hw : HW aw Z) : NS Z cS "starts" "[I" cS "tailedSize" "I" := own_sn (la0 hw) (la9 hw) (by decide)
theorem sn11 (hw : HW aw Z) : NS Z cS "tailed" "[I" cS "tailedSize" "I" := own_sn (la2 hw) (la9 hw) (by decide)
theorem sn12 (hw : HW aw Z) : NS Z cS "tails" "[I" cS "tailedSize" "I" := own_sn (la3 hw) (la9 hw) (by decide)
theorem sn13 (hw : HW aw Z) : NS Z cS "countries" "[C" cS "tailedSize" "I" := own_sn (la4 hw) (la9 hw) (by decide)
theorem sn14 (hw : HW aw Z) : NS Z cS "width" "I" cS "tailedSize" "I" := own_sn (la5 hw) (la9 hw) (by decide)
theorem sn15 (hw : HW aw Z) : NS Z cS "head" "I" cS "tailedSize" "I" := own_sn (la6 hw) (la9 hw) (by decide)
theorem sn16 (hw : HW aw Z) : NS Z cS "after" "[I" cS "tailedSize" "I" := own_sn (la7 hw) (la9 hw) (by decide)
theorem sn17 (hw : HW aw Z) : NS Z cS "size" "I" cS "tailedSize" "I" := own_sn (la1 hw) (la9 hw) (by decide)
theorem sn18 (hw : HW aw Z) : NS Z cS "ranges" "I" cS "tailedSize" "I" := own_sn (la8 hw) (la9 hw) (by decide)
theorem sn19 (hw : HW aw Z) : NS Z cS "full" "Z" cS "tailedSize" "I" := own_sn (la10 hw) (la9 hw) (by decide)
/-! body 13, pu4a -/
theorem d13_53 : De Gj 53 (.aload_n 0) 1 := by decide +kernel
theorem d13_54 : De Gj 54 (.getfield 70) 3 := by decide +kernel
theorem d13_57 : De Gj 57 (.aload_n 0) 1 := by decide +kernel
theorem d13_58 : De Gj 58 (.getfield 15) 3 := by decide +kernel
theorem d13_61 : De Gj 61 (.arraylength) 1 := by decide +kernel
theorem d13_62 : De Gj 62 (.if_icmp .ge 53) 3 := by decide +kernel
theorem d13_65 : De Gj 65 (.aload_n 0) 1 := by decide +kernel
theorem d13_66 : De Gj 66 (.getfield 15) 3 := by decide +kernel
theorem d13_69 : De Gj 69 (.aload_n 0) 1 := by decide +kernel
theorem d13_70 : De Gj 70 (.getfield 70) 3 := by decide +kernel
theorem d13_73 : De Gj 73 (.aload_n 0) 1 := by decide +kernel
theorem d13_74 : De Gj 74 (.getfield 63) 3 := by decide +kernel
theorem d13_77 : De Gj 77 (.iastore) 1 := by decide +kernel
theorem d13_78 : De Gj 78 (.aload_n 1) 1 := by decide +kernel
theorem d13_79 : De Gj 79 (.iload_n 2) 1 := by decide +kernel
theorem d13_80 : De Gj 80 (.aload_n 0) 1 := by decide +kernel
theorem d13_81 : De Gj 81 (.getfield 35) 3 := by decide +kernel
theorem d13_84 : De Gj 84 (.iadd) 1 := by decide +kernel
theorem d13_85 : De Gj 85 (.aload_n 0) 1 := by decide +kernel
theorem d13_86 : De Gj 86 (.getfield 18) 3 := by decide +kernel
theorem d13_89 : De Gj 89 (.aload_n 0) 1 := by decide +kernel
theorem d13_90 : De Gj 90 (.getfield 70) 3 := by decide +kernel
theorem d13_93 : De Gj 93 (.aload_n 0) 1 := by decide +kernel
theorem d13_94 : De Gj 94 (.getfield 25) 3 := by decide +kernel
theorem d13_97 : De Gj 97 (.aload_n 0) 1 := by decide +kernel
theorem d13_98 : De Gj 98 (.getfield 35) 3 := by decide +kernel
theorem d13_101 : De Gj 101 (.isub) 1 := by decide +kernel
theorem d13_102 : De Gj 102 (.imul) 1 := by decide +kernel
theorem d13_103 : De Gj 103 (.aload_n 0) 1 := by decide +kernel
theorem d13_104 : De Gj 104 (.getfield 25) 3 := by decide +kernel
theorem d13_107 : De Gj 107 (.aload_n 0) 1 := by decide +kernel
theorem d13_108 : De Gj 108 (.getfield 35) 3 := by decide +kernel
theorem d13_111 : De Gj 111 (.isub) 1 := by decide +kernel
theorem d13_112 : De Gj 112 (.invokestatic 57) 3 := by decide +kernel
theorem d13_115 : De Gj 115 (.aload_n 0) 1 := by decide +kernel
theorem d13_116 : De Gj 116 (.dup) 1 := by decide +kernel
theorem d13_117 : De Gj 117 (.getfield 70) 3 := by decide +kernel
theorem d13_120 : De Gj 120 (.iconst 1) 1 := by decide +kernel
theorem d13_121 : De Gj 121 (.iadd) 1 := by decide +kernel
theorem d13_122 : De Gj 122 (.putfield 70) 3 := by decide +kernel
def Rpu4a (t : Int32 × Int32) : Option Value := none
def Kpu4a (Z : State) (p3 sz rng tsz ful nC nT l0 l1 l2 l3 : Int32) (a0 a1 sS sT sL sC sA : Addr) (h0 : Heap) (n0 : Nat) (t : Int32 × Int32) (h : Heap) (L : List Loc) : Prop := Fr n0 L ∧ Keep h0 h [a0, sS, sT, sL, sC] ∧ Exa Z h a0 cS ∧ Fld Z h a0 cS "starts" "[I" (.ref sS) ∧ Fld Z h a0 cS "tailed" "[I" (.ref sT) ∧ Fld Z h a0 cS "tails" "[I" (.ref sL) ∧ Fld Z h a0 cS "countries" "[C" (.ref sC) ∧ Fld Z h a0 cS "width" "I" (.int 4) ∧ Fld Z h a0 cS "head" "I" (.int 2) ∧ Fld Z h a0 cS "after" "[I" (.ref sA) ∧ Fld Z h a0 cS "size" "I" (.int t.1) ∧ Fld Z h a0 cS "ranges" "I" (.int rng) ∧ Fld Z h a0 cS "tailedSize" "I" (.int t.2) ∧ Fld Z h a0 cS "full" "Z" (.int ful) ∧ own_Ar Z h sS .int (nC * (2 : Int32)) ∧ own_Ar Z h sT .int nT ∧ own_Ar Z h sL .int (nT * (2 : Int32)) ∧ own_Ar Z h sC .char nC
def fpu4a_125 (p3 sz rng tsz ful nC nT l0 l1 l2 l3 Ht : Int32) : Int32 × Int32 := ((sz + (1 : Int32)), Ht)
set_option maxRecDepth 65536 in
set_option maxHeartbeats 40000000 in
theorem gpu4a_125 (hw : HW aw Z) {h0 : Heap} {n0 : Nat} (p3 sz rng tsz ful nC nT l0 l1 l2 l3 : Int32) (a0 a1 sS sT sL sC sA : Addr) (Gd : a0 ≠ sS) (Hb : sS ≠ sT) (Hc : sS ≠ sL) (Ha : sS ≠ sC) (Gz : a1 ≠ sS) (Ge : a0 ≠ sC) (Hd : sT ≠ sC) (He : sL ≠ sC) (H0 : a1 ≠ sC) (Gh : a0 ≠ sT) (Jb : sT ≠ sL) (Hr : a1 ≠ sT) (Gi : a0 ≠ sL) (Hs : a1 ≠ sL) (Gu : a0 ≠ a1) (HS : 0 ≤ sz.toInt) (HC : nC.toInt ≤ 100) (HT : 0 ≤ tsz.toInt) (HN : nT.toInt ≤ 100) (Ht : Int32)
    (Bd : BodyLoose p l y3 (head1 (Jvm.Cond.code y3 Gj 4 none :: ws) Qpu4a) Gj 4 none e s m #[(.ref a0), (.ref a1), (.int 0), (.int p3)] below meth c s₁) (hml : c.maxLocals = 4) (hZ : Z.Warmed39 s.vm) (G0 : n0 ≤ a0) (Hg : n0 ≤ sS) (Hj : n0 ≤ sT) (Hk : n0 ≤ sL) (Hh : n0 ≤ sC) (T0 : State) {locs : List Loc} (X0 : Stand p l e Qpu4a s m #[(.ref a0), (.ref a1), (.int 0), (.int p3)] below meth c T0 locs 0 0) {h : Heap} (e0 : T0.heap = h) (SZ0 : n0 ≤ h.size) (NF0 : Fr n0 locs) (KP0 : Keep h0 h [a0, sS, sT, sL, sC]) (Ga : Exa Z h a0 cS) (Gk : Fld Z h a0 cS "starts" "[I" (.ref sS)) (Hm : Fld Z h a0 cS "tailed" "[I" (.ref sT)) (Hq : Fld Z h a0 cS "tails" "[I" (.ref sL)) (Gg : Fld Z h a0 cS "countries" "[C" (.ref sC)) (Gb : Fld Z h a0 cS "width" "I" (.int 4)) (Gr : Fld Z h a0 cS "head" "I" (.int 2)) (Gw : Fld Z h a0 cS "after" "[I" (.ref sA)) (Gc : Fld Z h a0 cS "size" "I" (.int sz)) (Gq : Fld Z h a0 cS "ranges" "I" (.int rng)) (Hf : Fld Z h a0 cS "tailedSize" "I" (.int Ht)) (Gt : Fld Z h a0 cS "full" "Z" (.int ful)) (Gx : own_Ar Z h sT .int nT) (Gy : own_Ar Z h sL .int (nT * (2 : Int32))) (Gv : own_Ar Z h sC .char nC) (Gp : own_Iv Z h a1 (4 : Int32) [l0, l1, l2, l3]) (H6 : own_Ar Z h sS .int (nC * (2 : Int32))) :
    own_Go p e below s Qpu4a.cells Qpu4a.slots (Rpu4a (fpu4a_125 p3 sz rng tsz ful nC nT l0 l1 l2 l3 Ht)) (Kpu4a Z p3 sz rng tsz ful nC nT l0 l1 l2 l3 a0 a1 sS sT sL sC sA h0 n0 (fpu4a_125 p3 sz rng tsz ful nC nT l0 l1 l2 l3 Ht)) (T0.setTop (mkF m 125 #[rv a0, rv a1, iv 0, iv p3] [])) := by
  have hx := Bd.exec
  have hby := Bd.bytes
  have hown : s.vm.findClass cS = some m.cls := findClass_of_methodNamed Bd.named
  have hnm := (name_of_methodNamed Bd.named Bd.method).1
  unfold fpu4a_125
  refine op T0 (mkF m 127 #[rv a0, rv a1, iv 0, iv p3] [(.ref a0), (.ref a0)]) (fun _ k => XS.aloadN X0.here hx rfl (hb hby d13_125) rfl rfl (XS.dup X0.here hx rfl (hb hby d13_126) rfl rfl k)) ?_
  obtain ⟨T1, X1, e1, st'⟩ := getF X0 hx hZ hown (host := "") (Or.inl (ow hw 91 rfl)) Via.refl e0 Gc (g := (mkF m 127 #[rv a0, rv a1, iv 0, iv p3] [(.ref a0), (.ref a0)])) rfl rfl (hb hby d13_127)
  refine op T1 (mkF m 132 #[rv a0, rv a1, iv 0, iv p3] [(.int (sz + (1 : Int32))), (.ref a0)]) (fun _ k => st' _ (XS.iconst X1.here hx rfl (hb hby d13_130) (XS.iadd X1.here hx rfl (hb hby d13_131) rfl k))) ?_
  obtain ⟨T2, h2, X2, e2, W2, st'⟩ := putF X1 hx hZ hown (host := "") (Or.inl (ow hw 91 rfl)) Via.refl e1 Gc Ga (Or.inl (ow hw 92 rfl)) (ow hw 41 rfl) (ty := .int) (by decide) rfl rfl (g := (mkF m 132 #[rv a0, rv a1, iv 0, iv p3] [(.int (sz + (1 : Int32))), (.ref a0)])) rfl rfl (hb hby d13_132)
  have f3 := Gc.same W2
  have f4 := Ga.wr W2
  have f5 := Gk.other W2 (Or.inr (sn0 hw))
  have f6 := Hm.other W2 (Or.inr (sn1 hw))
  have f7 := Hq.other W2 (Or.inr (sn2 hw))
  have f8 := Gg.other W2 (Or.inr (sn3 hw))
  have f9 := Gb.other W2 (Or.inr (sn4 hw))
  have f10 := Gr.other W2 (Or.inr (sn5 hw))
  have f11 := Gw.other W2 (Or.inr (sn6 hw))
  have f12 := Gq.other W2 (Or.inr (sn7 hw))
  have f13 := Hf.other W2 (Or.inr (sn8 hw))
  have f14 := Gt.other W2 (Or.inr (sn9 hw))
  have f15 := Gx.other W2 (Ne.symm Gh)
  have f16 := Gy.other W2 (Ne.symm Gi)
  have f17 := Gv.other W2 (Ne.symm Ge)
  have f18 := Gp.other W2 (Ne.symm Gu)
  have f19 := H6.other W2 (Ne.symm Gd)
  have NF2 := Fr.snoc X2 NF0 G0
  have SZ2 : n0 ≤ h2.size := (Nat.le_trans SZ0 (Keep.of_wr W2).1)
  have KP2 : Keep h0 h2 [a0, sS, sT, sL, sC] := KP0.wr W2 (Or.inl (List.mem_of_getElem? (i := 0) rfl))
  refine op T2 (mkF m 135 #[rv a0, rv a1, iv 0, iv p3] []) (fun _ k => st' _ k) ?_
  exact own_retV X2 hx Bd.notSynchronized Bd.returns (hb hby d13_135) (by rw [e2]; exact ⟨NF2, KP2, f4, f5, f6, f7, f8, f9, f10, f11, f3, f12, f13, f14, f19, f15, f16, f17⟩) (by decide) (by decide)
def fpu4a_115 (p3 sz rng tsz ful nC nT l0 l1 l2 l3 : Int32) : Int32 × Int32 := (fpu4a_125 p3 sz rng tsz ful nC nT l0 l1 l2 l3 (tsz + (1 : Int32)))
set_option maxRecDepth 65536 in
set_option maxHeartbeats 40000000 in
theorem gpu4a_115 (hw : HW aw Z) {h0 : Heap} {n0 : Nat} (p3 sz rng tsz ful nC nT l0 l1 l2 l3 : Int32) (a0 a1 sS sT sL sC sA : Addr) (Gd : a0 ≠ sS) (Hb : sS ≠ sT) (Hc : sS ≠ sL) (Ha : sS ≠ sC) (Gz : a1 ≠ sS) (Ge : a0 ≠ sC) (Hd : sT ≠ sC) (He : sL ≠ sC) (H0 : a1 ≠ sC) (Gh : a0 ≠ sT) (Jb : sT ≠ sL) (Hr : a1 ≠ sT) (Gi : a0 ≠ sL) (Hs : a1 ≠ sL) (Gu : a0 ≠ a1) (HS : 0 ≤ sz.toInt) (HC : nC.toInt ≤ 100) (HT : 0 ≤ tsz.toInt) (HN : nT.toInt ≤ 100)
    (Bd : BodyLoose p l y3 (head1 (Jvm.Cond.code y3 Gj 4 none :: ws) Qpu4a) Gj 4 none e s m #[(.ref a0), (.ref a1), (.int 0), (.int p3)] below meth c s₁) (hml : c.maxLocals = 4) (hZ : Z.Warmed39 s.vm) (G0 : n0 ≤ a0) (Hg : n0 ≤ sS) (Hj : n0 ≤ sT) (Hk : n0 ≤ sL) (Hh : n0 ≤ sC) (T0 : State) {locs : List Loc} (X0 : Stand p l e Qpu4a s m #[(.ref a0), (.ref a1), (.int 0), (.int p3)] below meth c T0 locs 0 0) {h : Heap} (e0 : T0.heap = h) (SZ0 : n0 ≤ h.size) (NF0 : Fr n0 locs) (KP0 : Keep h0 h [a0, sS, sT, sL, sC]) (Ga : Exa Z h a0 cS) (Gk : Fld Z h a0 cS "starts" "[I" (.ref sS)) (Hm : Fld Z h a0 cS "tailed" "[I" (.ref sT)) (Hq : Fld Z h a0 cS "tails" "[I" (.ref sL)) (Gg : Fld Z h a0 cS "countries" "[C" (.ref sC)) (Gb : Fld Z h a0 cS "width" "I" (.int 4)) (Gr : Fld Z h a0 cS "head" "I" (.int 2)) (Gw : Fld Z h a0 cS "after" "[I" (.ref sA)) (Gc : Fld Z h a0 cS "size" "I" (.int sz)) (Gq : Fld Z h a0 cS "ranges" "I" (.int rng)) (Hf : Fld Z h a0 cS "tailedSize" "I" (.int tsz)) (Gt : Fld Z h a0 cS "full" "Z" (.int ful)) (Gx : own_Ar Z h sT .int nT) (Gv : own_Ar Z h sC .char nC) (Gp : own_Iv Z h a1 (4 : Int32) [l0, l1, l2, l3]) (H6 : own_Ar Z h sS .int (nC * (2 : Int32))) (Gy : own_Ar Z h sL .int (nT * (2 : Int32))) :
    own_Go p e below s Qpu4a.cells Qpu4a.slots (Rpu4a (fpu4a_115 p3 sz rng tsz ful nC nT l0 l1 l2 l3)) (Kpu4a Z p3 sz rng tsz ful nC nT l0 l1 l2 l3 a0 a1 sS sT sL sC sA h0 n0 (fpu4a_115 p3 sz rng tsz ful nC nT l0 l1 l2 l3)) (T0.setTop (mkF m 115 #[rv a0, rv a1, iv 0, iv p3] [])) := by
  have hx := Bd.exec
  have hby := Bd.bytes
  have hown : s.vm.findClass cS = some m.cls := findClass_of_methodNamed Bd.named
  have hnm := (name_of_methodNamed Bd.named Bd.method).1
  unfold fpu4a_115
  refine op T0 (mkF m 117 #[rv a0, rv a1, iv 0, iv p3] [(.ref a0), (.ref a0)]) (fun _ k => XS.aloadN X0.here hx rfl (hb hby d13_115) rfl rfl (XS.dup X0.here hx rfl (hb hby d13_116) rfl rfl k)) ?_
  obtain ⟨T1, X1, e1, st'⟩ := getF X0 hx hZ hown (host := "") (Or.inl (ow hw 142 rfl)) Via.refl e0 Hf (g := (mkF m 117 #[rv a0, rv a1, iv 0, iv p3] [(.ref a0), (.ref a0)])) rfl rfl (hb hby d13_117)
  refine op T1 (mkF m 122 #[rv a0, rv a1, iv 0, iv p3] [(.int (tsz + (1 : Int32))), (.ref a0)]) (fun _ k => st' _ (XS.iconst X1.here hx rfl (hb hby d13_120) (XS.iadd X1.here hx rfl (hb hby d13_121) rfl k))) ?_
  obtain ⟨T2, h2, X2, e2, W2, st'⟩ := putF X1 hx hZ hown (host := "") (Or.inl (ow hw 142 rfl)) Via.refl e1 Hf Ga (Or.inl (ow hw 143 rfl)) (ow hw 41 rfl) (ty := .int) (by decide) rfl rfl (g := (mkF m 122 #[rv a0, rv a1, iv 0, iv p3] [(.int (tsz + (1 : Int32))), (.ref a0)])) rfl rfl (hb hby d13_122)
  have f3 := Hf.same W2
  have f4 := Ga.wr W2
  have f5 := Gk.other W2 (Or.inr (sn10 hw))
  have f6 := Hm.other W2 (Or.inr (sn11 hw))
  have f7 := Hq.other W2 (Or.inr (sn12 hw))
  have f8 := Gg.other W2 (Or.inr (sn13 hw))
  have f9 := Gb.other W2 (Or.inr (sn14 hw))
  have f10 := Gr.other W2 (Or.inr (sn15 hw))
  have f11 := Gw.other W2 (Or.inr (sn16 hw))
  have f12 := Gc.other W2 (Or.inr (sn17 hw))
  have f13 := Gq.other W2 (Or.inr (sn18 hw))
  have f14 := Gt.other W2 (Or.inr (sn19 hw))
  have f15 := Gx.other W2 (Ne.symm Gh)
  have f16 := Gv.other W2 (Ne.symm Ge)
  have f17 := Gp.other W2 (Ne.symm Gu)
  have f18 := H6.other W2 (Ne.symm Gd)
  have f19 := Gy.other W2 (Ne.symm Gi)
  have NF2 := Fr.snoc X2 NF0 G0
  have SZ2 : n0 ≤ h2.size := (Nat.le_trans SZ0 (Keep.of_wr W2).1)
  have KP2 : Keep h0 h2 [a0, sS, sT, sL, sC] := KP0.wr W2 (Or.inl (List.mem_of_getElem? (i := 0) rfl))
  refine op T2 (mkF m 125 #[rv a0, rv a1, iv 0, iv p3] []) (fun _ k => st' _ k) ?_
  exact gpu4a_125 hw p3 sz rng tsz ful nC nT l0 l1 l2 l3 a0 a1 sS sT sL sC sA Gd Hb Hc Ha Gz Ge Hd He H0 Gh Jb Hr Gi Hs Gu HS HC HT HN (tsz + (1 : Int32)) Bd hml hZ G0 Hg Hj Hk Hh T2 X2 e2 SZ2 NF2 KP2 f4 f5 f6 f7 f8 f9 f10 f11 f12 f13 f3 f14 f15 f19 f16 f17 f18
def fpu4a_44 (p3 sz rng tsz ful nC nT l0 l1 l2 l3 : Int32) : Int32 × Int32 := (if (fht4a_0 l0 l1 l2 l3) = (0 : Int32) then (fpu4a_125 p3 sz rng tsz ful nC nT l0 l1 l2 l3 tsz) else (if tsz < nT then (fpu4a_115 p3 sz rng tsz ful nC nT l0 l1 l2 l3) else (fpu4a_115 p3 sz rng tsz ful nC nT l0 l1 l2 l3)))
set_option maxRecDepth 65536 in
set_option maxHeartbeats 40000000 in
theorem gpu4a_44 (hw : HW aw Z) {h0 : Heap} {n0 : Nat} (p3 sz rng tsz ful nC nT l0 l1 l2 l3 : Int32) (a0 a1 sS sT sL sC sA : Addr) (Gd : a0 ≠ sS) (Hb : sS ≠ sT) (Hc : sS ≠ sL) (Ha : sS ≠ sC) (Gz : a1 ≠ sS) (Ge : a0 ≠ sC) (Hd : sT ≠ sC) (He : sL ≠ sC) (H0 : a1 ≠ sC) (Gh : a0 ≠ sT) (Jb : sT ≠ sL) (Hr : a1 ≠ sT) (Gi : a0 ≠ sL) (Hs : a1 ≠ sL) (Gu : a0 ≠ a1) (HS : 0 ≤ sz.toInt) (HC : nC.toInt ≤ 100) (HT : 0 ≤ tsz.toInt) (HN : nT.toInt ≤ 100)
    (Bd : BodyLoose p l y3 (head1 (Jvm.Cond.code y3 Gj 4 none :: ws) Qpu4a) Gj 4 none e s m #[(.ref a0), (.ref a1), (.int 0), (.int p3)] below meth c s₁) (hml : c.maxLocals = 4) (hZ : Z.Warmed39 s.vm) (G0 : n0 ≤ a0) (Hg : n0 ≤ sS) (Hj : n0 ≤ sT) (Hk : n0 ≤ sL) (Hh : n0 ≤ sC) (T0 : State) {locs : List Loc} (X0 : Stand p l e Qpu4a s m #[(.ref a0), (.ref a1), (.int 0), (.int p3)] below meth c T0 locs 0 0) {h : Heap} (e0 : T0.heap = h) (SZ0 : n0 ≤ h.size) (NF0 : Fr n0 locs) (KP0 : Keep h0 h [a0, sS, sT, sL, sC]) (Ga : Exa Z h a0 cS) (Gk : Fld Z h a0 cS "starts" "[I" (.ref sS)) (Hm : Fld Z h a0 cS "tailed" "[I" (.ref sT)) (Hq : Fld Z h a0 cS "tails" "[I" (.ref sL)) (Gg : Fld Z h a0 cS "countries" "[C" (.ref sC)) (Gb : Fld Z h a0 cS "width" "I" (.int 4)) (Gr : Fld Z h a0 cS "head" "I" (.int 2)) (Gw : Fld Z h a0 cS "after" "[I" (.ref sA)) (Gc : Fld Z h a0 cS "size" "I" (.int sz)) (Gq : Fld Z h a0 cS "ranges" "I" (.int rng)) (Hf : Fld Z h a0 cS "tailedSize" "I" (.int tsz)) (Gt : Fld Z h a0 cS "full" "Z" (.int ful)) (Gx : own_Ar Z h sT .int nT) (Gy : own_Ar Z h sL .int (nT * (2 : Int32))) (Gv : own_Ar Z h sC .char nC) (Gp : own_Iv Z h a1 (4 : Int32) [l0, l1, l2, l3]) (H6 : own_Ar Z h sS .int (nC * (2 : Int32))) :
    own_Go p e below s Qpu4a.cells Qpu4a.slots (Rpu4a (fpu4a_44 p3 sz rng tsz ful nC nT l0 l1 l2 l3)) (Kpu4a Z p3 sz rng tsz ful nC nT l0 l1 l2 l3 a0 a1 sS sT sL sC sA h0 n0 (fpu4a_44 p3 sz rng tsz ful nC nT l0 l1 l2 l3)) (T0.setTop (mkF m 44 #[rv a0, rv a1, iv 0, iv p3] [])) := by
  have hx := Bd.exec
  have hby := Bd.bytes
  have hown : s.vm.findClass cS = some m.cls := findClass_of_methodNamed Bd.named
  have hnm := (name_of_methodNamed Bd.named Bd.method).1
  unfold fpu4a_44
  refine op T0 (mkF m 47 #[rv a0, rv a1, iv 0, iv p3] [(.int 0), (.ref a1), (.ref a0)]) (fun _ k => XS.aloadN X0.here hx rfl (hb hby d13_44) rfl rfl (XS.aloadN X0.here hx rfl (hb hby d13_45) rfl rfl (XS.iloadN X0.here hx rfl (hb hby d13_46) rfl k))) ?_
  obtain ⟨cq1, q1, q1'⟩ := Ga.cell
  obtain ⟨_, _, ⟨T1, L1, k1, n1⟩, -, X1', ⟨Lc1, hQ1, l1, y1, z1⟩, st'⟩ := X0.privateBack hx (y := y2) hown (mvT hZ (ow hw 93 rfl)) (mvT hZ (ow hw 94 rfl)) (mvT hZ (Jvm.Kit.selects_private (by decide) (ow hw 41 rfl) (ow hw 95 rfl) (ow hw 94 rfl))) (Cond.privateMethod_at (mvP hZ (ow hw 95 rfl) (args := #[]))) (mvT hZ (ow hw 96 rfl)) (by decide) (backOf (W := 0) (rmht4a l Z aw hw [] l0 l1 l2 l3 a0 a1 h n0 SZ0 Ga Gb Gr Gp) hZ (ow hw 96 rfl) (ow hw 42 rfl) (by decide) (by decide)) (g := (mkF m 47 #[rv a0, rv a1, iv 0, iv p3] [(.int 0), (.ref a1), (.ref a0)])) rfl (by rw [hml]; rfl) (Steps.refl _) (a := a0) (by rw [e0]; exact q1) q1' (argsL := [(.ref a1), (.int 0)]) (rest := []) (lenOf own_pd1 rfl) rfl (by show 2 * 0 + _ ≤ _; exact Nat.le_of_eq rfl) (hb hby d13_47) (fun _ _ => ⟨rfl, e0, (by decide : 0 + 0 ≤ _), (by decide : 0 + 0 ≤ _)⟩)
  dsimp only [Pt.U, Pt.locs, Pt.cells, Pt.slots] at X1' l1 y1 z1 st' hQ1
  subst l1 y1 z1
  obtain ⟨rfl, NFq1, KPq1⟩ := hQ1
  have X1 : Stand p l e Qpu4a s m #[(.ref a0), (.ref a1), (.int 0), (.int p3)] below meth c T1 _ 0 0 := X1'
  have NF1 := Fr.app NF0 NFq1
  have SZ1 : n0 ≤ T1.heap.size := Nat.le_trans SZ0 KPq1.1
  have KP1 : Keep h0 T1.heap [a0, sS, sT, sL, sC] := KP0.trans KPq1 all0
  have f2 := Ga.keep KPq1
  have f3 := Gk.keep KPq1 nin0
  have f4 := Hm.keep KPq1 nin0
  have f5 := Hq.keep KPq1 nin0
  have f6 := Gg.keep KPq1 nin0
  have f7 := Gb.keep KPq1 nin0
  have f8 := Gr.keep KPq1 nin0
  have f9 := Gw.keep KPq1 nin0
  have f10 := Gc.keep KPq1 nin0
  have f11 := Gq.keep KPq1 nin0
  have f12 := Hf.keep KPq1 nin0
  have f13 := Gt.keep KPq1 nin0
  have f14 := Gx.keep KPq1 nin0
  have f15 := Gy.keep KPq1 nin0
  have f16 := Gv.keep KPq1 nin0
  have f17 := Gp.keep KPq1 nin0
  have f18 := H6.keep KPq1 nin0
  refine op T1 (mkF m 50 #[rv a0, rv a1, iv 0, iv p3] [(.int (fht4a_0 l0 l1 l2 l3))]) (fun _ k => st'.trans k) ?_
  refine own_iteT Rpu4a (Kpu4a Z p3 sz rng tsz ful nC nT l0 l1 l2 l3 a0 a1 sS sT sL sC sA h0 n0) (fun hc50 => ?_) (fun hc50 => ?_)
  · skip
    refine op T1 (mkF m 125 #[rv a0, rv a1, iv 0, iv p3] []) (fun _ k => XS.ifYes X1.here hx rfl (pc0 := 50) (pc' := 125) rfl (hb hby d13_50) rfl ((if0 _ _).trans (teq hc50).1) (by decide) (by decide) k) ?_
    exact gpu4a_125 hw p3 sz rng tsz ful nC nT l0 l1 l2 l3 a0 a1 sS sT sL sC sA Gd Hb Hc Ha Gz Ge Hd He H0 Gh Jb Hr Gi Hs Gu HS HC HT HN tsz Bd hml hZ G0 Hg Hj Hk Hh T1 X1 (rfl : T1.heap = T1.heap) SZ1 NF1 KP1 f2 f3 f4 f5 f6 f7 f8 f9 f10 f11 f12 f13 f14 f15 f16 f17 f18
  · skip
    refine op T1 (mkF m 54 #[rv a0, rv a1, iv 0, iv p3] [(.ref a0)]) (fun _ k => XS.ifNo X1.here hx rfl (hb hby d13_50) rfl ((if0 _ _).trans (feq hc50).1) (XS.aloadN X1.here hx rfl (hb hby d13_53) rfl rfl k)) ?_
    obtain ⟨T19, X19, e19, st'⟩ := getF X1 hx hZ hown (host := "") (Or.inl (ow hw 142 rfl)) Via.refl (rfl : T1.heap = T1.heap) f12 (g := (mkF m 54 #[rv a0, rv a1, iv 0, iv p3] [(.ref a0)])) rfl rfl (hb hby d13_54)
    refine op T19 (mkF m 58 #[rv a0, rv a1, iv 0, iv p3] [(.ref a0), (.int tsz)]) (fun _ k => st' _ (XS.aloadN X19.here hx rfl (hb hby d13_57) rfl rfl k)) ?_
    obtain ⟨T20, X20, e20, st'⟩ := getF X19 hx hZ hown (host := "") (Or.inl (ow hw 49 rfl)) Via.refl e19 f4 (g := (mkF m 58 #[rv a0, rv a1, iv 0, iv p3] [(.ref a0), (.int tsz)])) rfl rfl (hb hby d13_58)
    refine op T20 (mkF m 61 #[rv a0, rv a1, iv 0, iv p3] [(.ref sT), (.int tsz)]) (fun _ k => st' _ k) ?_
    obtain ⟨k21, vs21, ⟨cl21, Ar21, q21, S21, N21, H21, G21⟩, hl21⟩ := id f14
    refine op T20 (mkF m 62 #[rv a0, rv a1, iv 0, iv p3] [(.int nT), (.int tsz)]) (fun t k => X20.arraylength hx (by rw [e20]; exact Ar21.1) (State.isArrayOf_alike hZ.alike Ar21.2.1) (g := (mkF m 61 #[rv a0, rv a1, iv 0, iv p3] [(.ref sT), (.int tsz)])) rfl rfl (hb hby d13_61) t (by rw [len_of S21 N21]; exact k)) ?_
    refine own_iteT Rpu4a (Kpu4a Z p3 sz rng tsz ful nC nT l0 l1 l2 l3 a0 a1 sS sT sL sC sA h0 n0) (fun hc62 => ?_) (fun hc62 => ?_)
    · skip
      refine op T20 (mkF m 66 #[rv a0, rv a1, iv 0, iv p3] [(.ref a0)]) (fun _ k => XS.icmpNo X20.here hx rfl (hb hby d13_62) rfl (tlt hc62).2.1 (XS.aloadN X20.here hx rfl (hb hby d13_65) rfl rfl k)) ?_
      obtain ⟨T22, X22, e22, st'⟩ := getF X20 hx hZ hown (host := "") (Or.inl (ow hw 49 rfl)) Via.refl e20 f4 (g := (mkF m 66 #[rv a0, rv a1, iv 0, iv p3] [(.ref a0)])) rfl rfl (hb hby d13_66)
      refine op T22 (mkF m 70 #[rv a0, rv a1, iv 0, iv p3] [(.ref a0), (.ref sT)]) (fun _ k => st' _ (XS.aloadN X22.here hx rfl (hb hby d13_69) rfl rfl k)) ?_
      obtain ⟨T23, X23, e23, st'⟩ := getF X22 hx hZ hown (host := "") (Or.inl (ow hw 142 rfl)) Via.refl e22 f12 (g := (mkF m 70 #[rv a0, rv a1, iv 0, iv p3] [(.ref a0), (.ref sT)])) rfl rfl (hb hby d13_70)
      refine op T23 (mkF m 74 #[rv a0, rv a1, iv 0, iv p3] [(.ref a0), (.int tsz), (.ref sT)]) (fun _ k => st' _ (XS.aloadN X23.here hx rfl (hb hby d13_73) rfl rfl k)) ?_
      obtain ⟨T24, X24, e24, st'⟩ := getF X23 hx hZ hown (host := "") (Or.inl (ow hw 91 rfl)) Via.refl e23 f10 (g := (mkF m 74 #[rv a0, rv a1, iv 0, iv p3] [(.ref a0), (.int tsz), (.ref sT)])) rfl rfl (hb hby d13_74)
      refine op T24 (mkF m 77 #[rv a0, rv a1, iv 0, iv p3] [(.int sz), (.int tsz), (.ref sT)]) (fun _ k => st' _ k) ?_
      obtain ⟨k25, vs25, ⟨cl25, Ar25, q25, S25, N25, H25, G25⟩, hl25⟩ := id f14
      have hin25 : ¬ (tsz < 0 ∨ cl25.slots.size ≤ (tsz).toNatClampNeg) := inb_of S25 ⟨(own_n0 HT), hc62⟩
      obtain ⟨T25, h25, X25, e25, W25, st'⟩ := stI X24 hx hZ e24 Ar25 (j := tsz) hin25 (g := (mkF m 77 #[rv a0, rv a1, iv 0, iv p3] [(.int sz), (.int tsz), (.ref sT)])) rfl rfl (hb hby d13_77)
      have f26 : own_Ar Z h25 sT .int nT := own_Ar.set Ar25 q25 S25 N25 H25 G25 hl25 rfl W25 (own_n0 HT) hc62
      have f27 := f2.wr W25
      have f28 := f3.other W25 (Or.inl Gh)
      have f29 := f4.other W25 (Or.inl Gh)
      have f30 := f5.other W25 (Or.inl Gh)
      have f31 := f6.other W25 (Or.inl Gh)
      have f32 := f7.other W25 (Or.inl Gh)
      have f33 := f8.other W25 (Or.inl Gh)
      have f34 := f9.other W25 (Or.inl Gh)
      have f35 := f10.other W25 (Or.inl Gh)
      have f36 := f11.other W25 (Or.inl Gh)
      have f37 := f12.other W25 (Or.inl Gh)
      have f38 := f13.other W25 (Or.inl Gh)
      have f39 := f15.other W25 (Ne.symm Jb)
      have f40 := f16.other W25 (Ne.symm Hd)
      have f41 := f17.other W25 Hr
      have f42 := f18.other W25 Hb
      have NF25 := Fr.snoc X25 NF1 Hj
      have SZ25 : n0 ≤ h25.size := (Nat.le_trans SZ1 (Keep.of_wr W25).1)
      have KP25 : Keep h0 h25 [a0, sS, sT, sL, sC] := KP1.wr W25 (Or.inl (List.mem_of_getElem? (i := 2) rfl))
      refine op T25 (mkF m 81 #[rv a0, rv a1, iv 0, iv p3] [(.ref a0), (.int 0), (.ref a1)]) (fun _ k => st' _ (XS.aloadN X25.here hx rfl (hb hby d13_78) rfl rfl (XS.iloadN X25.here hx rfl (hb hby d13_79) rfl (XS.aloadN X25.here hx rfl (hb hby d13_80) rfl rfl k)))) ?_
      obtain ⟨T43, X43, e43, st'⟩ := getF X25 hx hZ hown (host := "") (Or.inl (ow hw 61 rfl)) Via.refl e25 f33 (g := (mkF m 81 #[rv a0, rv a1, iv 0, iv p3] [(.ref a0), (.int 0), (.ref a1)])) rfl rfl (hb hby d13_81)
      refine op T43 (mkF m 86 #[rv a0, rv a1, iv 0, iv p3] [(.ref a0), (.int 2), (.ref a1)]) (fun _ k => st' _ (XS.iadd X43.here hx rfl (hb hby d13_84) rfl (XS.aloadN X43.here hx rfl (hb hby d13_85) rfl rfl k))) ?_
      obtain ⟨T44, X44, e44, st'⟩ := getF X43 hx hZ hown (host := "") (Or.inl (ow hw 51 rfl)) Via.refl e43 f30 (g := (mkF m 86 #[rv a0, rv a1, iv 0, iv p3] [(.ref a0), (.int 2), (.ref a1)])) rfl rfl (hb hby d13_86)
      refine op T44 (mkF m 90 #[rv a0, rv a1, iv 0, iv p3] [(.ref a0), (.ref sL), (.int 2), (.ref a1)]) (fun _ k => st' _ (XS.aloadN X44.here hx rfl (hb hby d13_89) rfl rfl k)) ?_
      obtain ⟨T45, X45, e45, st'⟩ := getF X44 hx hZ hown (host := "") (Or.inl (ow hw 142 rfl)) Via.refl e44 f37 (g := (mkF m 90 #[rv a0, rv a1, iv 0, iv p3] [(.ref a0), (.ref sL), (.int 2), (.ref a1)])) rfl rfl (hb hby d13_90)
      refine op T45 (mkF m 94 #[rv a0, rv a1, iv 0, iv p3] [(.ref a0), (.int tsz), (.ref sL), (.int 2), (.ref a1)]) (fun _ k => st' _ (XS.aloadN X45.here hx rfl (hb hby d13_93) rfl rfl k)) ?_
      obtain ⟨T46, X46, e46, st'⟩ := getF X45 hx hZ hown (host := "") (Or.inl (ow hw 55 rfl)) Via.refl e45 f32 (g := (mkF m 94 #[rv a0, rv a1, iv 0, iv p3] [(.ref a0), (.int tsz), (.ref sL), (.int 2), (.ref a1)])) rfl rfl (hb hby d13_94)
      refine op T46 (mkF m 98 #[rv a0, rv a1, iv 0, iv p3] [(.ref a0), (.int 4), (.int tsz), (.ref sL), (.int 2), (.ref a1)]) (fun _ k => st' _ (XS.aloadN X46.here hx rfl (hb hby d13_97) rfl rfl k)) ?_
      obtain ⟨T47, X47, e47, st'⟩ := getF X46 hx hZ hown (host := "") (Or.inl (ow hw 61 rfl)) Via.refl e46 f33 (g := (mkF m 98 #[rv a0, rv a1, iv 0, iv p3] [(.ref a0), (.int 4), (.int tsz), (.ref sL), (.int 2), (.ref a1)])) rfl rfl (hb hby d13_98)
      refine op T47 (mkF m 104 #[rv a0, rv a1, iv 0, iv p3] [(.ref a0), (.int (tsz * (2 : Int32))), (.ref sL), (.int 2), (.ref a1)]) (fun _ k => st' _ (XS.isub X47.here hx rfl (hb hby d13_101) rfl (XS.imul X47.here hx rfl (hb hby d13_102) rfl (XS.aloadN X47.here hx rfl (hb hby d13_103) rfl rfl k)))) ?_
      obtain ⟨T48, X48, e48, st'⟩ := getF X47 hx hZ hown (host := "") (Or.inl (ow hw 55 rfl)) Via.refl e47 f32 (g := (mkF m 104 #[rv a0, rv a1, iv 0, iv p3] [(.ref a0), (.int (tsz * (2 : Int32))), (.ref sL), (.int 2), (.ref a1)])) rfl rfl (hb hby d13_104)
      refine op T48 (mkF m 108 #[rv a0, rv a1, iv 0, iv p3] [(.ref a0), (.int 4), (.int (tsz * (2 : Int32))), (.ref sL), (.int 2), (.ref a1)]) (fun _ k => st' _ (XS.aloadN X48.here hx rfl (hb hby d13_107) rfl rfl k)) ?_
      obtain ⟨T49, X49, e49, st'⟩ := getF X48 hx hZ hown (host := "") (Or.inl (ow hw 61 rfl)) Via.refl e48 f33 (g := (mkF m 108 #[rv a0, rv a1, iv 0, iv p3] [(.ref a0), (.int 4), (.int (tsz * (2 : Int32))), (.ref sL), (.int 2), (.ref a1)])) rfl rfl (hb hby d13_108)
      refine op T49 (mkF m 112 #[rv a0, rv a1, iv 0, iv p3] [(.int 2), (.int (tsz * (2 : Int32))), (.ref sL), (.int 2), (.ref a1)]) (fun _ k => st' _ (XS.isub X49.here hx rfl (hb hby d13_111) rfl k)) ?_
      obtain ⟨ks50, As50⟩ := id f41
      obtain ⟨kd50, vd50, Ad50, hd50⟩ := id f39
      obtain ⟨T50, h50, L50, X50, e50, NF50, KPq50, B50, st'⟩ := cpA X49 hx hZ hown (ow hw 97 rfl) (ow hw 100 rfl) (ow hw 98 rfl) (ow hw 99 rfl) e49 As50 Ad50 (Or.inl ⟨rfl, rfl⟩) (sp := (2 : Int32)) (dp := (tsz * (2 : Int32))) (nn := (2 : Int32)) (by decide) (own_c2 HT hc62 HN).1 (by decide) (by decide) (own_c2 HT hc62 HN).2 rfl (by rw [hd50]; exact (own_c2 HT hc62 HN).2) NF25 Hk (g := (mkF m 112 #[rv a0, rv a1, iv 0, iv p3] [(.int 2), (.int (tsz * (2 : Int32))), (.ref sL), (.int 2), (.ref a1)])) rfl (by rw [hml]; rfl) rfl (hb hby d13_112) (by decide) (W := 0) (by show 2 * 0 + _ ≤ _; exact Nat.le_of_eq rfl) (by decide)
      have f51 : own_Ar Z h50 sL .int (nT * (2 : Int32)) := own_cp B50 hd50 (by rw [List.length_map, List.length_range]) (own_c2 HT hc62 HN).2
      have SZ50 : n0 ≤ h50.size := Nat.le_trans SZ25 KPq50.1
      have KP50 : Keep h0 h50 [a0, sS, sT, sL, sC] := KP25.trans KPq50 (allS (Or.inl (List.mem_of_getElem? (i := 3) rfl)) all0)
      have f52 := f27.keep KPq50
      have f53 := f28.keep KPq50 (ninS Gi nin0)
      have f54 := f29.keep KPq50 (ninS Gi nin0)
      have f55 := f30.keep KPq50 (ninS Gi nin0)
      have f56 := f31.keep KPq50 (ninS Gi nin0)
      have f57 := f32.keep KPq50 (ninS Gi nin0)
      have f58 := f33.keep KPq50 (ninS Gi nin0)
      have f59 := f34.keep KPq50 (ninS Gi nin0)
      have f60 := f35.keep KPq50 (ninS Gi nin0)
      have f61 := f36.keep KPq50 (ninS Gi nin0)
      have f62 := f37.keep KPq50 (ninS Gi nin0)
      have f63 := f38.keep KPq50 (ninS Gi nin0)
      have f64 := f26.keep KPq50 (ninS Jb nin0)
      have f65 := f40.keep KPq50 (ninS (Ne.symm He) nin0)
      have f66 := f41.keep KPq50 (ninS Hs nin0)
      have f67 := f42.keep KPq50 (ninS Hc nin0)
      refine op T50 (mkF m 115 #[rv a0, rv a1, iv 0, iv p3] []) (fun _ k => st' _ k) ?_
      exact gpu4a_115 hw p3 sz rng tsz ful nC nT l0 l1 l2 l3 a0 a1 sS sT sL sC sA Gd Hb Hc Ha Gz Ge Hd He H0 Gh Jb Hr Gi Hs Gu HS HC HT HN Bd hml hZ G0 Hg Hj Hk Hh T50 X50 e50 SZ50 NF50 KP50 f52 f53 f54 f55 f56 f57 f58 f59 f60 f61 f62 f63 f64 f65 f66 f67 f51
    · skip
      refine op T20 (mkF m 115 #[rv a0, rv a1, iv 0, iv p3] []) (fun _ k => XS.icmpYes X20.here hx rfl (pc0 := 62) (pc' := 115) rfl (hb hby d13_62) rfl (flt hc62).2.1 (by decide) (by decide) k) ?_
      exact gpu4a_115 hw p3 sz rng tsz ful nC nT l0 l1 l2 l3 a0 a1 sS sT sL sC sA Gd Hb Hc Ha Gz Ge Hd He H0 Gh Jb Hr Gi Hs Gu HS HC HT HN Bd hml hZ G0 Hg Hj Hk Hh T20 X20 e20 SZ1 NF1 KP1 f2 f3 f4 f5 f6 f7 f8 f9 f10 f11 f12 f13 f14 f16 f17 f18 f15
def fpu4a_0 (p3 sz rng tsz ful nC nT l0 l1 l2 l3 : Int32) : Int32 × Int32 := (if sz < nC then (fpu4a_44 p3 sz rng tsz ful nC nT l0 l1 l2 l3) else (fpu4a_44 p3 sz rng tsz ful nC nT l0 l1 l2 l3))
set_option maxRecDepth 65536 in
set_option maxHeartbeats 40000000 in
theorem gpu4a_0 (hw : HW aw Z) {h0 : Heap} {n0 : Nat} (p3 sz rng tsz ful nC nT l0 l1 l2 l3 : Int32) (a0 a1 sS sT sL sC sA : Addr) (Gd : a0 ≠ sS) (Hb : sS ≠ sT) (Hc : sS ≠ sL) (Ha : sS ≠ sC) (Gz : a1 ≠ sS) (Ge : a0 ≠ sC) (Hd : sT ≠ sC) (He : sL ≠ sC) (H0 : a1 ≠ sC) (Gh : a0 ≠ sT) (Jb : sT ≠ sL) (Hr : a1 ≠ sT) (Gi : a0 ≠ sL) (Hs : a1 ≠ sL) (Gu : a0 ≠ a1) (HS : 0 ≤ sz.toInt) (HC : nC.toInt ≤ 100) (HT : 0 ≤ tsz.toInt) (HN : nT.toInt ≤ 100)
    (Bd : BodyLoose p l y3 (head1 (Jvm.Cond.code y3 Gj 4 none :: ws) Qpu4a) Gj 4 none e s m #[(.ref a0), (.ref a1), (.int 0), (.int p3)] below meth c s₁) (hml : c.maxLocals = 4) (hZ : Z.Warmed39 s.vm) (G0 : n0 ≤ a0) (Hg : n0 ≤ sS) (Hj : n0 ≤ sT) (Hk : n0 ≤ sL) (Hh : n0 ≤ sC) (T0 : State) {locs : List Loc} (X0 : Stand p l e Qpu4a s m #[(.ref a0), (.ref a1), (.int 0), (.int p3)] below meth c T0 locs 0 0) (e0 : T0.heap = h0) (SZ0 : n0 ≤ h0.size) (NF0 : Fr n0 locs) (KP0 : Keep h0 h0 [a0, sS, sT, sL, sC]) (Ga : Exa Z h0 a0 cS) (Gk : Fld Z h0 a0 cS "starts" "[I" (.ref sS)) (Hm : Fld Z h0 a0 cS "tailed" "[I" (.ref sT)) (Hq : Fld Z h0 a0 cS "tails" "[I" (.ref sL)) (Gg : Fld Z h0 a0 cS "countries" "[C" (.ref sC)) (Gb : Fld Z h0 a0 cS "width" "I" (.int 4)) (Gr : Fld Z h0 a0 cS "head" "I" (.int 2)) (Gw : Fld Z h0 a0 cS "after" "[I" (.ref sA)) (Gc : Fld Z h0 a0 cS "size" "I" (.int sz)) (Gq : Fld Z h0 a0 cS "ranges" "I" (.int rng)) (Hf : Fld Z h0 a0 cS "tailedSize" "I" (.int tsz)) (Gt : Fld Z h0 a0 cS "full" "Z" (.int ful)) (H6 : own_Ar Z h0 sS .int (nC * (2 : Int32))) (Gx : own_Ar Z h0 sT .int nT) (Gy : own_Ar Z h0 sL .int (nT * (2 : Int32))) (Gv : own_Ar Z h0 sC .char nC) (Gp : own_Iv Z h0 a1 (4 : Int32) [l0, l1, l2, l3]) :
    own_Go p e below s Qpu4a.cells Qpu4a.slots (Rpu4a (fpu4a_0 p3 sz rng tsz ful nC nT l0 l1 l2 l3)) (Kpu4a Z p3 sz rng tsz ful nC nT l0 l1 l2 l3 a0 a1 sS sT sL sC sA h0 n0 (fpu4a_0 p3 sz rng tsz ful nC nT l0 l1 l2 l3)) (T0.setTop (mkF m 0 #[rv a0, rv a1, iv 0, iv p3] [])) := by
  have hx := Bd.exec
  have hby := Bd.bytes
  have hown : s.vm.findClass cS = some m.cls := findClass_of_methodNamed Bd.named
  have hnm := (name_of_methodNamed Bd.named Bd.method).1
  unfold fpu4a_0
  refine op T0 (mkF m 1 #[rv a0, rv a1, iv 0, iv p3] [(.ref a0)]) (fun _ k => XS.aloadN X0.here hx rfl (hb hby d13_0) rfl rfl k) ?_
  obtain ⟨T1, X1, e1, st'⟩ := getF X0 hx hZ hown (host := "") (Or.inl (ow hw 91 rfl)) Via.refl e0 Gc (g := (mkF m 1 #[rv a0, rv a1, iv 0, iv p3] [(.ref a0)])) rfl rfl (hb hby d13_1)
  refine op T1 (mkF m 5 #[rv a0, rv a1, iv 0, iv p3] [(.ref a0), (.int sz)]) (fun _ k => st' _ (XS.aloadN X1.here hx rfl (hb hby d13_4) rfl rfl k)) ?_
  obtain ⟨T2, X2, e2, st'⟩ := getF X1 hx hZ hown (host := "") (Or.inl (ow hw 53 rfl)) Via.refl e1 Gg (g := (mkF m 5 #[rv a0, rv a1, iv 0, iv p3] [(.ref a0), (.int sz)])) rfl rfl (hb hby d13_5)
  refine op T2 (mkF m 8 #[rv a0, rv a1, iv 0, iv p3] [(.ref sC), (.int sz)]) (fun _ k => st' _ k) ?_
  obtain ⟨k3, vs3, ⟨cl3, Ar3, q3, S3, N3, H3, G3⟩, hl3⟩ := id Gv
  refine op T2 (mkF m 9 #[rv a0, rv a1, iv 0, iv p3] [(.int nC), (.int sz)]) (fun t k => X2.arraylength hx (by rw [e2]; exact Ar3.1) (State.isArrayOf_alike hZ.alike Ar3.2.1) (g := (mkF m 8 #[rv a0, rv a1, iv 0, iv p3] [(.ref sC), (.int sz)])) rfl rfl (hb hby d13_8) t (by rw [len_of S3 N3]; exact k)) ?_
  refine own_iteT Rpu4a (Kpu4a Z p3 sz rng tsz ful nC nT l0 l1 l2 l3 a0 a1 sS sT sL sC sA h0 n0) (fun hc9 => ?_) (fun hc9 => ?_)
  · skip
    refine op T2 (mkF m 15 #[rv a0, rv a1, iv 0, iv p3] [(.ref a0), (.int 0), (.ref a1)]) (fun _ k => XS.icmpNo X2.here hx rfl (hb hby d13_9) rfl (tlt hc9).2.1 (XS.aloadN X2.here hx rfl (hb hby d13_12) rfl rfl (XS.iloadN X2.here hx rfl (hb hby d13_13) rfl (XS.aloadN X2.here hx rfl (hb hby d13_14) rfl rfl k)))) ?_
    obtain ⟨T4, X4, e4, st'⟩ := getF X2 hx hZ hown (host := "") (Or.inl (ow hw 47 rfl)) Via.refl e2 Gk (g := (mkF m 15 #[rv a0, rv a1, iv 0, iv p3] [(.ref a0), (.int 0), (.ref a1)])) rfl rfl (hb hby d13_15)
    refine op T4 (mkF m 19 #[rv a0, rv a1, iv 0, iv p3] [(.ref a0), (.ref sS), (.int 0), (.ref a1)]) (fun _ k => st' _ (XS.aloadN X4.here hx rfl (hb hby d13_18) rfl rfl k)) ?_
    obtain ⟨T5, X5, e5, st'⟩ := getF X4 hx hZ hown (host := "") (Or.inl (ow hw 91 rfl)) Via.refl e4 Gc (g := (mkF m 19 #[rv a0, rv a1, iv 0, iv p3] [(.ref a0), (.ref sS), (.int 0), (.ref a1)])) rfl rfl (hb hby d13_19)
    refine op T5 (mkF m 23 #[rv a0, rv a1, iv 0, iv p3] [(.ref a0), (.int sz), (.ref sS), (.int 0), (.ref a1)]) (fun _ k => st' _ (XS.aloadN X5.here hx rfl (hb hby d13_22) rfl rfl k)) ?_
    obtain ⟨T6, X6, e6, st'⟩ := getF X5 hx hZ hown (host := "") (Or.inl (ow hw 61 rfl)) Via.refl e5 Gr (g := (mkF m 23 #[rv a0, rv a1, iv 0, iv p3] [(.ref a0), (.int sz), (.ref sS), (.int 0), (.ref a1)])) rfl rfl (hb hby d13_23)
    refine op T6 (mkF m 28 #[rv a0, rv a1, iv 0, iv p3] [(.ref a0), (.int (sz * (2 : Int32))), (.ref sS), (.int 0), (.ref a1)]) (fun _ k => st' _ (XS.imul X6.here hx rfl (hb hby d13_26) rfl (XS.aloadN X6.here hx rfl (hb hby d13_27) rfl rfl k))) ?_
    obtain ⟨T7, X7, e7, st'⟩ := getF X6 hx hZ hown (host := "") (Or.inl (ow hw 61 rfl)) Via.refl e6 Gr (g := (mkF m 28 #[rv a0, rv a1, iv 0, iv p3] [(.ref a0), (.int (sz * (2 : Int32))), (.ref sS), (.int 0), (.ref a1)])) rfl rfl (hb hby d13_28)
    refine op T7 (mkF m 31 #[rv a0, rv a1, iv 0, iv p3] [(.int 2), (.int (sz * (2 : Int32))), (.ref sS), (.int 0), (.ref a1)]) (fun _ k => st' _ k) ?_
    obtain ⟨ks8, As8⟩ := id Gp
    obtain ⟨kd8, vd8, Ad8, hd8⟩ := id H6
    obtain ⟨T8, h8, L8, X8, e8, NF8, KPq8, B8, st'⟩ := cpA X7 hx hZ hown (ow hw 97 rfl) (ow hw 100 rfl) (ow hw 98 rfl) (ow hw 99 rfl) e7 As8 Ad8 (Or.inl ⟨rfl, rfl⟩) (sp := (0 : Int32)) (dp := (sz * (2 : Int32))) (nn := (2 : Int32)) (by decide) (own_c2 HS hc9 HC).1 (by decide) (by decide) (own_c2 HS hc9 HC).2 rfl (by rw [hd8]; exact (own_c2 HS hc9 HC).2) NF0 Hg (g := (mkF m 31 #[rv a0, rv a1, iv 0, iv p3] [(.int 2), (.int (sz * (2 : Int32))), (.ref sS), (.int 0), (.ref a1)])) rfl (by rw [hml]; rfl) rfl (hb hby d13_31) (by decide) (W := 0) (by show 2 * 0 + _ ≤ _; exact Nat.le_of_eq rfl) (by decide)
    have f9 : own_Ar Z h8 sS .int (nC * (2 : Int32)) := own_cp B8 hd8 (by rw [List.length_map, List.length_range]) (own_c2 HS hc9 HC).2
    have SZ8 : n0 ≤ h8.size := Nat.le_trans SZ0 KPq8.1
    have KP8 : Keep h0 h8 [a0, sS, sT, sL, sC] := KP0.trans KPq8 (allS (Or.inl (List.mem_of_getElem? (i := 1) rfl)) all0)
    have f10 := Ga.keep KPq8
    have f11 := Gk.keep KPq8 (ninS Gd nin0)
    have f12 := Hm.keep KPq8 (ninS Gd nin0)
    have f13 := Hq.keep KPq8 (ninS Gd nin0)
    have f14 := Gg.keep KPq8 (ninS Gd nin0)
    have f15 := Gb.keep KPq8 (ninS Gd nin0)
    have f16 := Gr.keep KPq8 (ninS Gd nin0)
    have f17 := Gw.keep KPq8 (ninS Gd nin0)
    have f18 := Gc.keep KPq8 (ninS Gd nin0)
    have f19 := Gq.keep KPq8 (ninS Gd nin0)
    have f20 := Hf.keep KPq8 (ninS Gd nin0)
    have f21 := Gt.keep KPq8 (ninS Gd nin0)
    have f22 := Gx.keep KPq8 (ninS (Ne.symm Hb) nin0)
    have f23 := Gy.keep KPq8 (ninS (Ne.symm Hc) nin0)
    have f24 := Gv.keep KPq8 (ninS (Ne.symm Ha) nin0)
    have f25 := Gp.keep KPq8 (ninS Gz nin0)
    refine op T8 (mkF m 35 #[rv a0, rv a1, iv 0, iv p3] [(.ref a0)]) (fun _ k => st' _ (XS.aloadN X8.here hx rfl (hb hby d13_34) rfl rfl k)) ?_
    obtain ⟨T26, X26, e26, st'⟩ := getF X8 hx hZ hown (host := "") (Or.inl (ow hw 53 rfl)) Via.refl e8 f14 (g := (mkF m 35 #[rv a0, rv a1, iv 0, iv p3] [(.ref a0)])) rfl rfl (hb hby d13_35)
    refine op T26 (mkF m 39 #[rv a0, rv a1, iv 0, iv p3] [(.ref a0), (.ref sC)]) (fun _ k => st' _ (XS.aloadN X26.here hx rfl (hb hby d13_38) rfl rfl k)) ?_
    obtain ⟨T27, X27, e27, st'⟩ := getF X26 hx hZ hown (host := "") (Or.inl (ow hw 91 rfl)) Via.refl e26 f18 (g := (mkF m 39 #[rv a0, rv a1, iv 0, iv p3] [(.ref a0), (.ref sC)])) rfl rfl (hb hby d13_39)
    refine op T27 (mkF m 43 #[rv a0, rv a1, iv 0, iv p3] [(.int p3), (.int sz), (.ref sC)]) (fun _ k => st' _ (XS.iloadN X27.here hx rfl (hb hby d13_42) rfl k)) ?_
    obtain ⟨k28, vs28, ⟨cl28, Ar28, q28, S28, N28, H28, G28⟩, hl28⟩ := id f24
    have hin28 : ¬ (sz < 0 ∨ cl28.slots.size ≤ (sz).toNatClampNeg) := inb_of S28 ⟨(own_n0 HS), hc9⟩
    obtain ⟨T28, h28, X28, e28, W28, st'⟩ := stC X27 hx hZ e27 Ar28 (j := sz) hin28 (g := (mkF m 43 #[rv a0, rv a1, iv 0, iv p3] [(.int p3), (.int sz), (.ref sC)])) rfl rfl (hb hby d13_43)
    have f29 : own_Ar Z h28 sC .char nC := own_Ar.set Ar28 q28 S28 N28 H28 G28 hl28 (fits_nar_char _) W28 (own_n0 HS) hc9
    have f30 := f10.wr W28
    have f31 := f11.other W28 (Or.inl Ge)
    have f32 := f12.other W28 (Or.inl Ge)
    have f33 := f13.other W28 (Or.inl Ge)
    have f34 := f14.other W28 (Or.inl Ge)
    have f35 := f15.other W28 (Or.inl Ge)
    have f36 := f16.other W28 (Or.inl Ge)
    have f37 := f17.other W28 (Or.inl Ge)
    have f38 := f18.other W28 (Or.inl Ge)
    have f39 := f19.other W28 (Or.inl Ge)
    have f40 := f20.other W28 (Or.inl Ge)
    have f41 := f21.other W28 (Or.inl Ge)
    have f42 := f22.other W28 Hd
    have f43 := f23.other W28 He
    have f44 := f25.other W28 H0
    have f45 := f9.other W28 Ha
    have NF28 := Fr.snoc X28 NF8 Hh
    have SZ28 : n0 ≤ h28.size := (Nat.le_trans SZ8 (Keep.of_wr W28).1)
    have KP28 : Keep h0 h28 [a0, sS, sT, sL, sC] := KP8.wr W28 (Or.inl (List.mem_of_getElem? (i := 4) rfl))
    refine op T28 (mkF m 44 #[rv a0, rv a1, iv 0, iv p3] []) (fun _ k => st' _ k) ?_
    exact gpu4a_44 hw p3 sz rng tsz ful nC nT l0 l1 l2 l3 a0 a1 sS sT sL sC sA Gd Hb Hc Ha Gz Ge Hd He H0 Gh Jb Hr Gi Hs Gu HS HC HT HN Bd hml hZ G0 Hg Hj Hk Hh T28 X28 e28 SZ28 NF28 KP28 f30 f31 f32 f33 f34 f35 f36 f37 f38 f39 f40 f41 f42 f43 f29 f44 f45
  · skip
    refine op T2 (mkF m 44 #[rv a0, rv a1, iv 0, iv p3] []) (fun _ k => XS.icmpYes X2.here hx rfl (pc0 := 9) (pc' := 44) rfl (hb hby d13_9) rfl (flt hc9).2.1 (by decide) (by decide) k) ?_
    exact gpu4a_44 hw p3 sz rng tsz ful nC nT l0 l1 l2 l3 a0 a1 sS sT sL sC sA Gd Hb Hc Ha Gz Ge Hd He H0 Gh Jb Hr Gi Hs Gu HS HC HT HN Bd hml hZ G0 Hg Hj Hk Hh T2 X2 e2 SZ0 NF0 KP0 Ga Gk Hm Hq Gg Gb Gr Gw Gc Gq Hf Gt Gx Gy Gv Gp H6
theorem ef_pu4a (m : MethodId) (a0 a1 : Addr) (p3 : Int32) : entryFrame m #[(.ref a0), (.ref a1), (.int 0), (.int p3)] 4 = mkF m 0 #[rv a0, rv a1, iv 0, iv p3] [] := by first | (simp [entryFrame, mkF, argsToLocals, Value.category]; done) | rfl
set_option maxRecDepth 65536 in
set_option maxHeartbeats 40000000 in
theorem rmpu4a (l : Launch) (Z : State) (aw : Array Value) (hw : HW aw Z) (ws : List Jvm.Cond) (p3 sz rng tsz ful nC nT l0 l1 l2 l3 : Int32) (a0 a1 sS sT sL sC sA : Addr) (h0 : Heap) (n0 : Nat) (SZ0 : n0 ≤ h0.size) (Ga : Exa Z h0 a0 cS) (Gk : Fld Z h0 a0 cS "starts" "[I" (.ref sS)) (Hm : Fld Z h0 a0 cS "tailed" "[I" (.ref sT)) (Hq : Fld Z h0 a0 cS "tails" "[I" (.ref sL)) (Gg : Fld Z h0 a0 cS "countries" "[C" (.ref sC)) (Gb : Fld Z h0 a0 cS "width" "I" (.int 4)) (Gr : Fld Z h0 a0 cS "head" "I" (.int 2)) (Gw : Fld Z h0 a0 cS "after" "[I" (.ref sA)) (Gc : Fld Z h0 a0 cS "size" "I" (.int sz)) (Gq : Fld Z h0 a0 cS "ranges" "I" (.int rng)) (Hf : Fld Z h0 a0 cS "tailedSize" "I" (.int tsz)) (Gt : Fld Z h0 a0 cS "full" "Z" (.int ful)) (H6 : own_Ar Z h0 sS .int (nC * (2 : Int32))) (Gx : own_Ar Z h0 sT .int nT) (Gy : own_Ar Z h0 sL .int (nT * (2 : Int32))) (Gv : own_Ar Z h0 sC .char nC) (Gp : own_Iv Z h0 a1 (4 : Int32) [l0, l1, l2, l3]) (Gd : a0 ≠ sS) (Hb : sS ≠ sT) (Hc : sS ≠ sL) (Ha : sS ≠ sC) (Gz : a1 ≠ sS) (Ge : a0 ≠ sC) (Hd : sT ≠ sC) (He : sL ≠ sC) (H0 : a1 ≠ sC) (Gh : a0 ≠ sT) (Jb : sT ≠ sL) (Hr : a1 ≠ sT) (Gi : a0 ≠ sL) (Hs : a1 ≠ sL) (Gu : a0 ≠ a1) (HS : 0 ≤ sz.toInt) (HC : nC.toInt ≤ 100) (HT : 0 ≤ tsz.toInt) (HN : nT.toInt ≤ 100) (G0 : n0 ≤ a0) (Hg : n0 ≤ sS) (Hj : n0 ≤ sT) (Hk : n0 ≤ sL) (Hh : n0 ≤ sC) :
    MetFree l y3 (head1 (Jvm.Cond.code y3 Gj 4 none :: ws) Qpu4a) (fun a U => a = #[(.ref a0), (.ref a1), (.int 0), (.int p3)] ∧ Z.Warmed39 U.vm ∧ U.heap = h0) (fun _ _ _ _ _ => True) (fun _ U o U' => ∃ v L, o = .returned v ∧ own_Q (Rpu4a (fpu4a_0 p3 sz rng tsz ful nC nT l0 l1 l2 l3)) (Kpu4a Z p3 sz rng tsz ful nC nT l0 l1 l2 l3 a0 a1 sS sT sL sC sA h0 n0 (fpu4a_0 p3 sz rng tsz ful nC nT l0 l1 l2 l3)) v U'.heap L ∧ FrameEnd U o U' L Qpu4a.cells Qpu4a.slots) := by
  refine MetFree.of_bodySF (plainFor_of_name own_pn2) hisR ?_
  intro p e s m args below meth c s₁ Bd hml0 hP hK
  obtain ⟨rfl, hZ, hh⟩ := hP
  have hml : c.maxLocals = 4 := hml0
  have e0 : s₁.heap = h0 := by rw [← hh, Bd.state]; rfl
  exact own_pre (fun t k => castTop (ef_pu4a m a0 a1 p3) k) (gpu4a_0 hw p3 sz rng tsz ful nC nT l0 l1 l2 l3 a0 a1 sS sT sL sC sA Gd Hb Hc Ha Gz Ge Hd He H0 Gh Jb Hr Gi Hs Gu HS HC HT HN Bd hml hZ G0 Hg Hj Hk Hh s₁ (Stand.of_body Bd) e0 SZ0 (Fr.nil n0) (Keep.refl _ _) Ga Gk Hm Hq Gg Gb Gr Gw Gc Gq Hf Gt H6 Gx Gy Gv Gp)
theorem own_pu1a (p3 sz rng tsz ful nC nT l0 : Int32) : fpu1a_0 p3 sz rng tsz ful nC nT l0 = (sz + 1, tsz) := by
  simp only [fpu1a_0, fpu1a_44, fpu1a_125]
  split <;> rfl
theorem own_pub1a {p3 sz rng tsz ful nC nT l0 : Int32} (h1 : 0 ≤ sz.toInt) (h2 : sz.toInt ≤ 1000) (h3 : 0 ≤ tsz.toInt) (h4 : tsz.toInt ≤ 1000) : 0 ≤ (fpu1a_0 p3 sz rng tsz ful nC nT l0).1.toInt ∧ 0 ≤ (fpu1a_0 p3 sz rng tsz ful nC nT l0).2.toInt := by
  rw [own_pu1a]
  have a := c_iadd sz 1; have a' := c_iadd tsz 1; have r := rng32 (sz + 1); have r' := rng32 (tsz + 1)
  rw [show (1 : Int32).toInt = 1 from rfl] at a a'
  refine ⟨by show 0 ≤ (sz + 1).toInt; omega, ?_⟩
  exact h3
abbrev Qap1 : Room := { frames := 3, cells := 0, slots := 0, locals := 71 }
theorem own_pd2 : parseMethodDescriptor "([II[III)I" = some ⟨[(.array .int), .int, (.array .int), .int, .int], some .int⟩ := by decide +kernel
theorem own_pd3 : parseMethodDescriptor "([IIC)V" = some ⟨[(.array .int), .int, .char], none⟩ := by decide +kernel
theorem sn20 (hw : HW aw Z) : NS Z cS "starts" "[I" cS "full" "Z" := own_sn (la0 hw) (la10 hw) (by decide)
theorem sn21 (hw : HW aw Z) : NS Z cS "tailed" "[I" cS "full" "Z" := own_sn (la2 hw) (la10 hw) (by decide)
theorem sn22 (hw : HW aw Z) : NS Z cS "tails" "[I" cS "full" "Z" := own_sn (la3 hw) (la10 hw) (by decide)
theorem sn23 (hw : HW aw Z) : NS Z cS "countries" "[C" cS "full" "Z" := own_sn (la4 hw) (la10 hw) (by decide)
theorem sn24 (hw : HW aw Z) : NS Z cS "width" "I" cS "full" "Z" := own_sn (la5 hw) (la10 hw) (by decide)
theorem sn25 (hw : HW aw Z) : NS Z cS "head" "I" cS "full" "Z" := own_sn (la6 hw) (la10 hw) (by decide)
theorem sn26 (hw : HW aw Z) : NS Z cS "after" "[I" cS "full" "Z" := own_sn (la7 hw) (la10 hw) (by decide)
theorem sn27 (hw : HW aw Z) : NS Z cS "size" "I" cS "full" "Z" := own_sn (la1 hw) (la10 hw) (by decide)
theorem sn28 (hw : HW aw Z) : NS Z cS "ranges" "I" cS "full" "Z" := own_sn (la8 hw) (la10 hw) (by decide)
theorem sn29 (hw : HW aw Z) : NS Z cS "tailedSize" "I" cS "full" "Z" := own_sn (la9 hw) (la10 hw) (by decide)
theorem sn30 (hw : HW aw Z) : NS Z cS "starts" "[I" cS "ranges" "I" := own_sn (la0 hw) (la8 hw) (by decide)
theorem sn31 (hw : HW aw Z) : NS Z cS "tailed" "[I" cS "ranges" "I" := own_sn (la2 hw) (la8 hw) (by decide)
theorem sn32 (hw : HW aw Z) : NS Z cS "tails" "[I" cS "ranges" "I" := own_sn (la3 hw) (la8 hw) (by decide)
theorem sn33 (hw : HW aw Z) : NS Z cS "countries" "[C" cS "ranges" "I" := own_sn (la4 hw) (la8 hw) (by decide)
theorem sn34 (hw : HW aw Z) : NS Z cS "width" "I" cS "ranges" "I" := own_sn (la5 hw) (la8 hw) (by decide)
theorem sn35 (hw : HW aw Z) : NS Z cS "head" "I" cS "ranges" "I" := own_sn (la6 hw) (la8 hw) (by decide)
theorem sn36 (hw : HW aw Z) : NS Z cS "after" "[I" cS "ranges" "I" := own_sn (la7 hw) (la8 hw) (by decide)
theorem sn37 (hw : HW aw Z) : NS Z cS "size" "I" cS "ranges" "I" := own_sn (la1 hw) (la8 hw) (by decide)
theorem sn38 (hw : HW aw Z) : NS Z cS "tailedSize" "I" cS "ranges" "I" := own_sn (la9 hw) (la8 hw) (by decide)
theorem sn39 (hw : HW aw Z) : NS Z cS "full" "Z" cS "ranges" "I" := own_sn (la10 hw) (la8 hw) (by decide)
/-! body 12, ap1 -/
theorem d12_0 : De Gn 0 (.aload_n 0) 1 := by decide +kernel
theorem d12_1 : De Gn 1 (.getfield 41) 3 := by decide +kernel
theorem d12_4 : De Gn 4 (.ifCond .le 31) 3 := by decide +kernel
theorem d12_7 : De Gn 7 (.aload_n 1) 1 := by decide +kernel
theorem d12_8 : De Gn 8 (.iload_n 2) 1 := by decide +kernel
theorem d12_9 : De Gn 9 (.aload_n 0) 1 := by decide +kernel
theorem d12_10 : De Gn 10 (.getfield 38) 3 := by decide +kernel
theorem d12_13 : De Gn 13 (.iconst 0) 1 := by decide +kernel
theorem d12_14 : De Gn 14 (.aload_n 0) 1 := by decide +kernel
theorem d12_15 : De Gn 15 (.getfield 25) 3 := by decide +kernel
theorem d12_18 : De Gn 18 (.invokestatic 48) 3 := by decide +kernel
theorem d12_21 : De Gn 21 (.ifCond .eq 14) 3 := by decide +kernel
theorem d12_24 : De Gn 24 (.aload_n 0) 1 := by decide +kernel
theorem d12_25 : De Gn 25 (.aload_n 0) 1 := by decide +kernel
theorem d12_26 : De Gn 26 (.getfield 38) 3 := by decide +kernel
theorem d12_29 : De Gn 29 (.iconst 0) 1 := by decide +kernel
theorem d12_30 : De Gn 30 (.ldc 52) 2 := by decide +kernel
theorem d12_32 : De Gn 32 (.invokevirtual 53) 3 := by decide +kernel
theorem d12_35 : De Gn 35 (.aload_n 0) 1 := by decide +kernel
theorem d12_36 : De Gn 36 (.aload_n 1) 1 := by decide +kernel
theorem d12_37 : De Gn 37 (.iload_n 2) 1 := by decide +kernel
theorem d12_38 : De Gn 38 (.iload 5) 2 := by decide +kernel
theorem d12_40 : De Gn 40 (.invokevirtual 53) 3 := by decide +kernel
theorem d12_43 : De Gn 43 (.aload_n 3) 1 := by decide +kernel
theorem d12_44 : De Gn 44 (.iload 4) 2 := by decide +kernel
theorem d12_46 : De Gn 46 (.aload_n 0) 1 := by decide +kernel
theorem d12_47 : De Gn 47 (.getfield 38) 3 := by decide +kernel
theorem d12_50 : De Gn 50 (.iconst 0) 1 := by decide +kernel
theorem d12_51 : De Gn 51 (.aload_n 0) 1 := by decide +kernel
theorem d12_52 : De Gn 52 (.getfield 25) 3 := by decide +kernel
theorem d12_55 : De Gn 55 (.invokestatic 57) 3 := by decide +kernel
theorem d12_58 : De Gn 58 (.iconst 1) 1 := by decide +kernel
theorem d12_59 : De Gn 59 (.istore 6) 2 := by decide +kernel
theorem d12_61 : De Gn 61 (.aload_n 0) 1 := by decide +kernel
theorem d12_62 : De Gn 62 (.getfield 25) 3 := by decide +kernel
theorem d12_65 : De Gn 65 (.iconst 1) 1 := by decide +kernel
theorem d12_66 : De Gn 66 (.isub) 1 := by decide +kernel
theorem d12_67 : De Gn 67 (.istore 7) 2 := by decide +kernel
theorem d12_69 : De Gn 69 (.iload 7) 2 := by decide +kernel
theorem d12_71 : De Gn 71 (.ifCond .lt 42) 3 := by decide +kernel
theorem d12_74 : De Gn 74 (.iload 6) 2 := by decide +kernel
theorem d12_76 : De Gn 76 (.ifCond .eq 37) 3 := by decide +kernel
theorem d12_79 : De Gn 79 (.aload_n 0) 1 := by decide +kernel
theorem d12_80 : De Gn 80 (.getfield 38) 3 := by decide +kernel
theorem d12_83 : De Gn 83 (.iload 7) 2 := by decide +kernel
theorem d12_85 : De Gn 85 (.dup2) 1 := by decide +kernel
theorem d12_86 : De Gn 86 (.iaload) 1 := by decide +kernel
theorem d12_87 : De Gn 87 (.iconst 1) 1 := by decide +kernel
theorem d12_88 : De Gn 88 (.iadd) 1 := by decide +kernel
theorem d12_89 : De Gn 89 (.iastore) 1 := by decide +kernel
theorem d12_90 : De Gn 90 (.aload_n 0) 1 := by decide +kernel
theorem d12_91 : De Gn 91 (.getfield 38) 3 := by decide +kernel
theorem d12_94 : De Gn 94 (.iload 7) 2 := by decide +kernel
theorem d12_96 : De Gn 96 (.iaload) 1 := by decide +kernel
theorem d12_97 : De Gn 97 (.ifCond .ne 7) 3 := by decide +kernel
theorem d12_100 : De Gn 100 (.iconst 1) 1 := by decide +kernel
theorem d12_101 : De Gn 101 (.goto 4) 3 := by decide +kernel
theorem d12_104 : De Gn 104 (.iconst 0) 1 := by decide +kernel
theorem d12_105 : De Gn 105 (.istore 6) 2 := by decide +kernel
theorem d12_107 : De Gn 107 (.iinc 7 (-1)) 3 := by decide +kernel
theorem d12_110 : De Gn 110 (.goto (-41)) 3 := by decide +kernel
theorem d12_113 : De Gn 113 (.aload_n 0) 1 := by decide +kernel
theorem d12_114 : De Gn 114 (.iload 6) 2 := by decide +kernel
theorem d12_116 : De Gn 116 (.putfield 44) 3 := by decide +kernel
theorem d12_119 : De Gn 119 (.aload_n 0) 1 := by decide +kernel
theorem d12_120 : De Gn 120 (.dup) 1 := by decide +kernel
theorem d12_121 : De Gn 121 (.getfield 41) 3 := by decide +kernel
theorem d12_124 : De Gn 124 (.iconst 1) 1 := by decide +kernel
theorem d12_125 : De Gn 125 (.iadd) 1 := by decide +kernel
theorem d12_126 : De Gn 126 (.putfield 41) 3 := by decide +kernel
theorem d12_129 : De Gn 129 (.return_) 1 := by decide +kernel
abbrev y4 : MethodName := ⟨cS, "append", "([II[IIC)V"⟩
def Rap1 (t : Int32 × Int32 × Int32 × Int32 × Int32) : Option Value := none
def Kap1 (Z : State) (p5 sz rng tsz ful nC nT l0 r0 t0 : Int32) (a0 a1 a3 sS sT sL sC sA : Addr) (h0 : Heap) (n0 : Nat) (t : Int32 × Int32 × Int32 × Int32 × Int32) (h : Heap) (L : List Loc) : Prop := Fr n0 L ∧ Keep h0 h [a0, sS, sT, sL, sC, sA] ∧ Exa Z h a0 cS ∧ Fld Z h a0 cS "starts" "[I" (.ref sS) ∧ Fld Z h a0 cS "tailed" "[I" (.ref sT) ∧ Fld Z h a0 cS "tails" "[I" (.ref sL) ∧ Fld Z h a0 cS "countries" "[C" (.ref sC) ∧ Fld Z h a0 cS "width" "I" (.int 1) ∧ Fld Z h a0 cS "head" "I" (.int 1) ∧ Fld Z h a0 cS "after" "[I" (.ref sA) ∧ Fld Z h a0 cS "size" "I" (.int t.1) ∧ Fld Z h a0 cS "ranges" "I" (.int t.2.1) ∧ Fld Z h a0 cS "tailedSize" "I" (.int t.2.2.1) ∧ Fld Z h a0 cS "full" "Z" (.int t.2.2.2.1) ∧ own_Ar Z h sS .int (nC * (1 : Int32)) ∧ own_Ar Z h sT .int nT ∧ own_Ar Z h sL .int (nT * (0 : Int32)) ∧ own_Ar Z h sC .char nC ∧ own_Iv Z h sA (1 : Int32) [t.2.2.2.2]
def fap1_43 (p5 sz rng tsz ful nC nT l0 r0 t0 J3 Ht : Int32) : Int32 × Int32 × Int32 × Int32 × Int32 := (if (r0 + (1 : Int32)) = (0 : Int32) then (J3, (rng + (1 : Int32)), Ht, (1 : Int32), (r0 + (1 : Int32))) else (J3, (rng + (1 : Int32)), Ht, (0 : Int32), (r0 + (1 : Int32))))
set_option maxRecDepth 65536 in
set_option maxHeartbeats 40000000 in
theorem gap1_43 (hw : HW aw Z) {h0 : Heap} {n0 : Nat} (p5 sz rng tsz ful nC nT l0 r0 t0 : Int32) (a0 a1 a3 sS sT sL sC sA : Addr) (Gd : a0 ≠ sS) (Hb : sS ≠ sT) (Hc : sS ≠ sL) (Ha : sS ≠ sC) (Hu : sS ≠ sA) (Ge : a0 ≠ sC) (Hd : sT ≠ sC) (He : sL ≠ sC) (Hv : sC ≠ sA) (Gh : a0 ≠ sT) (Gi : a0 ≠ sL) (G6 : a0 ≠ sA) (H0 : a1 ≠ sC) (Hs : a1 ≠ sL) (Hr : a1 ≠ sT) (Gz : a1 ≠ sS) (Gu : a0 ≠ a1) (Mm : a3 ≠ sC) (Mn : a3 ≠ sL) (Mo : a3 ≠ sT) (Mp : a3 ≠ sS) (J4 : a0 ≠ a3) (Hw : sL ≠ sA) (Hx : sT ≠ sA) (J5 : a1 ≠ sA) (M5 : a3 ≠ sA) (HS : 0 ≤ sz.toInt) (HS2 : sz.toInt ≤ 1000) (HC : nC.toInt ≤ 100) (HT : 0 ≤ tsz.toInt) (HT2 : tsz.toInt ≤ 1000) (HN : nT.toInt ≤ 100) (J3 Ht : Int32)
    (Bd : BodyLoose p l y4 (head1 (Jvm.Cond.code y4 Gn 8 none :: ws) Qap1) Gn 8 none e s m #[(.ref a0), (.ref a1), (.int 0), (.ref a3), (.int 0), (.int p5)] below meth c s₁) (hml : c.maxLocals = 8) (hZ : Z.Warmed39 s.vm) (G0 : n0 ≤ a0) (Hg : n0 ≤ sS) (Hj : n0 ≤ sT) (Hk : n0 ≤ sL) (Hh : n0 ≤ sC) (J7 : n0 ≤ sA) (T0 : State) {locs : List Loc} (X0 : Stand p l e Qap1 s m #[(.ref a0), (.ref a1), (.int 0), (.ref a3), (.int 0), (.int p5)] below meth c T0 locs 0 0) {h : Heap} (e0 : T0.heap = h) (SZ0 : n0 ≤ h.size) (NF0 : Fr n0 locs) (KP0 : Keep h0 h [a0, sS, sT, sL, sC, sA]) (Ga : Exa Z h a0 cS) (Gp : own_Iv Z h a1 (1 : Int32) [l0]) (Hn : own_Iv Z h a3 (1 : Int32) [r0]) (Gm : own_Iv Z h sA (1 : Int32) [t0]) (Gk : Fld Z h a0 cS "starts" "[I" (.ref sS)) (Hm : Fld Z h a0 cS "tailed" "[I" (.ref sT)) (Hq : Fld Z h a0 cS "tails" "[I" (.ref sL)) (Gg : Fld Z h a0 cS "countries" "[C" (.ref sC)) (Gb : Fld Z h a0 cS "width" "I" (.int 1)) (Gr : Fld Z h a0 cS "head" "I" (.int 1)) (Gw : Fld Z h a0 cS "after" "[I" (.ref sA)) (Gc : Fld Z h a0 cS "size" "I" (.int J3)) (Gq : Fld Z h a0 cS "ranges" "I" (.int rng)) (Hf : Fld Z h a0 cS "tailedSize" "I" (.int Ht)) (Gt : Fld Z h a0 cS "full" "Z" (.int ful)) (H6 : own_Ar Z h sS .int (nC * (1 : Int32))) (Gx : own_Ar Z h sT .int nT) (Gy : own_Ar Z h sL .int (nT * (0 : Int32))) (Gv : own_Ar Z h sC .char nC) :
    own_Go p e below s Qap1.cells Qap1.slots (Rap1 (fap1_43 p5 sz rng tsz ful nC nT l0 r0 t0 J3 Ht)) (Kap1 Z p5 sz rng tsz ful nC nT l0 r0 t0 a0 a1 a3 sS sT sL sC sA h0 n0 (fap1_43 p5 sz rng tsz ful nC nT l0 r0 t0 J3 Ht)) (T0.setTop (mkF m 43 #[rv a0, rv a1, iv 0, rv a3, iv 0, iv p5, uu, uu] [])) := by
  have hx := Bd.exec
  have hby := Bd.bytes
  have hown : s.vm.findClass cS = some m.cls := findClass_of_methodNamed Bd.named
  have hnm := (name_of_methodNamed Bd.named Bd.method).1
  unfold fap1_43
  refine op T0 (mkF m 47 #[rv a0, rv a1, iv 0, rv a3, iv 0, iv p5, uu, uu] [(.ref a0), (.int 0), (.ref a3)]) (fun _ k => XS.aloadN X0.here hx rfl (hb hby d12_43) rfl rfl (XS.iload X0.here hx rfl (hb hby d12_44) rfl (XS.aloadN X0.here hx rfl (hb hby d12_46) rfl rfl k))) ?_
  obtain ⟨T1, X1, e1, st'⟩ := getF X0 hx hZ hown (host := "") (Or.inl (ow hw 63 rfl)) Via.refl e0 Gw (g := (mkF m 47 #[rv a0, rv a1, iv 0, rv a3, iv 0, iv p5, uu, uu] [(.ref a0), (.int 0), (.ref a3)])) rfl rfl (hb hby d12_47)
  refine op T1 (mkF m 52 #[rv a0, rv a1, iv 0, rv a3, iv 0, iv p5, uu, uu] [(.ref a0), (.int 0), (.ref sA), (.int 0), (.ref a3)]) (fun _ k => st' _ (XS.iconst X1.here hx rfl (hb hby d12_50) (XS.aloadN X1.here hx rfl (hb hby d12_51) rfl rfl k))) ?_
  obtain ⟨T2, X2, e2, st'⟩ := getF X1 hx hZ hown (host := "") (Or.inl (ow hw 55 rfl)) Via.refl e1 Gb (g := (mkF m 52 #[rv a0, rv a1, iv 0, rv a3, iv 0, iv p5, uu, uu] [(.ref a0), (.int 0), (.ref sA), (.int 0), (.ref a3)])) rfl rfl (hb hby d12_52)
  refine op T2 (mkF m 55 #[rv a0, rv a1, iv 0, rv a3, iv 0, iv p5, uu, uu] [(.int 1), (.int 0), (.ref sA), (.int 0), (.ref a3)]) (fun _ k => st' _ k) ?_
  obtain ⟨ks3, As3⟩ := id Hn
  obtain ⟨kd3, Ad3⟩ := id Gm
  obtain ⟨T3, h3, L3, X3, e3, NF3, KPq3, B3, st'⟩ := cpA X2 hx hZ hown (ow hw 97 rfl) (ow hw 100 rfl) (ow hw 98 rfl) (ow hw 99 rfl) e2 As3 Ad3 (Or.inl ⟨rfl, rfl⟩) (sp := (0 : Int32)) (dp := (0 : Int32)) (nn := (1 : Int32)) (by decide) (by decide) (by decide) (by decide) (by decide) rfl (Nat.le_of_ble_eq_true rfl) NF0 J7 (g := (mkF m 55 #[rv a0, rv a1, iv 0, rv a3, iv 0, iv p5, uu, uu] [(.int 1), (.int 0), (.ref sA), (.int 0), (.ref a3)])) rfl (by rw [hml]; rfl) rfl (hb hby d12_55) (by decide) (W := 0) (by show 2 * 0 + _ ≤ _; exact Nat.le_of_eq rfl) (by decide)
  have f4 : own_Iv Z h3 sA (1 : Int32) [r0] := ⟨_, B3⟩
  have SZ3 : n0 ≤ h3.size := Nat.le_trans SZ0 KPq3.1
  have KP3 : Keep h0 h3 [a0, sS, sT, sL, sC, sA] := KP0.trans KPq3 (allS (Or.inl (List.mem_of_getElem? (i := 5) rfl)) all0)
  have f5 := Ga.keep KPq3
  have f6 := Gp.keep KPq3 (ninS J5 nin0)
  have f7 := Hn.keep KPq3 (ninS M5 nin0)
  have f8 := Gk.keep KPq3 (ninS G6 nin0)
  have f9 := Hm.keep KPq3 (ninS G6 nin0)
  have f10 := Hq.keep KPq3 (ninS G6 nin0)
  have f11 := Gg.keep KPq3 (ninS G6 nin0)
  have f12 := Gb.keep KPq3 (ninS G6 nin0)
  have f13 := Gr.keep KPq3 (ninS G6 nin0)
  have f14 := Gw.keep KPq3 (ninS G6 nin0)
  have f15 := Gc.keep KPq3 (ninS G6 nin0)
  have f16 := Gq.keep KPq3 (ninS G6 nin0)
  have f17 := Hf.keep KPq3 (ninS G6 nin0)
  have f18 := Gt.keep KPq3 (ninS G6 nin0)
  have f19 := H6.keep KPq3 (ninS Hu nin0)
  have f20 := Gx.keep KPq3 (ninS Hx nin0)
  have f21 := Gy.keep KPq3 (ninS Hw nin0)
  have f22 := Gv.keep KPq3 (ninS Hv nin0)
  refine op T3 (mkF m 62 #[rv a0, rv a1, iv 0, rv a3, iv 0, iv p5, iv 1, uu] [(.ref a0)]) (fun _ k => st' _ (XS.iconst X3.here hx rfl (hb hby d12_58) (XS.istore X3.here hx rfl (hb hby d12_59) rfl (l' := #[rv a0, rv a1, iv 0, rv a3, iv 0, iv p5, iv 1, uu]) rfl (XS.aloadN X3.here hx rfl (hb hby d12_61) rfl rfl k)))) ?_
  obtain ⟨T23, X23, e23, st'⟩ := getF X3 hx hZ hown (host := "") (Or.inl (ow hw 55 rfl)) Via.refl e3 f12 (g := (mkF m 62 #[rv a0, rv a1, iv 0, rv a3, iv 0, iv p5, iv 1, uu] [(.ref a0)])) rfl rfl (hb hby d12_62)
  refine op T23 (mkF m 71 #[rv a0, rv a1, iv 0, rv a3, iv 0, iv p5, iv 1, iv 0] [(.int 0)]) (fun _ k => st' _ (XS.iconst X23.here hx rfl (hb hby d12_65) (XS.isub X23.here hx rfl (hb hby d12_66) rfl (XS.istore X23.here hx rfl (hb hby d12_67) rfl (l' := #[rv a0, rv a1, iv 0, rv a3, iv 0, iv p5, iv 1, iv 0]) rfl (XS.iload X23.here hx rfl (hb hby d12_69) rfl k))))) ?_
  have hd24 : ¬ ((0 : Int32) < (0 : Int32)) := by decide
  refine op T23 (mkF m 76 #[rv a0, rv a1, iv 0, rv a3, iv 0, iv p5, iv 1, iv 0] [(.int 1)]) (fun _ k => XS.ifNo X23.here hx rfl (hb hby d12_71) rfl ((if0 _ _).trans (flt hd24).1) (XS.iload X23.here hx rfl (hb hby d12_74) rfl k)) ?_
  have hd25 : ¬ ((1 : Int32) = (0 : Int32)) := by decide
  refine op T23 (mkF m 80 #[rv a0, rv a1, iv 0, rv a3, iv 0, iv p5, iv 1, iv 0] [(.ref a0)]) (fun _ k => XS.ifNo X23.here hx rfl (hb hby d12_76) rfl ((if0 _ _).trans (feq hd25).1) (XS.aloadN X23.here hx rfl (hb hby d12_79) rfl rfl k)) ?_
  obtain ⟨T26, X26, e26, st'⟩ := getF X23 hx hZ hown (host := "") (Or.inl (ow hw 63 rfl)) Via.refl e23 f14 (g := (mkF m 80 #[rv a0, rv a1, iv 0, rv a3, iv 0, iv p5, iv 1, iv 0] [(.ref a0)])) rfl rfl (hb hby d12_80)
  refine op T26 (mkF m 86 #[rv a0, rv a1, iv 0, rv a3, iv 0, iv p5, iv 1, iv 0] [(.int 0), (.ref sA), (.int 0), (.ref sA)]) (fun _ k => st' _ (XS.iload X26.here hx rfl (hb hby d12_83) rfl (XT.dup2 X26.here hx rfl (hb hby d12_85) rfl rfl rfl k))) ?_
  obtain ⟨k27, cl27, Ar27, q27, S27, N27, H27, G27⟩ := id f4
  have hin27 : ¬ ((0 : Int32) < 0 ∨ cl27.slots.size ≤ ((0 : Int32)).toNatClampNeg) := inb_of S27 ⟨by decide, by decide⟩
  refine op T26 (mkF m 87 #[rv a0, rv a1, iv 0, rv a3, iv 0, iv p5, iv 1, iv 0] [(.int r0), (.int 0), (.ref sA)]) (fun t k => X26.iaload hx (j := (0 : Int32)) (v := (.int r0)) (by rw [e26]; exact Ar27.1) (State.isArrayOf_alike hZ.alike Ar27.2.1) Ar27.2.2 hin27 (H27.at hin27 rfl) (g := (mkF m 86 #[rv a0, rv a1, iv 0, rv a3, iv 0, iv p5, iv 1, iv 0] [(.int 0), (.ref sA), (.int 0), (.ref sA)])) rfl rfl (hb hby d12_86) t k) ?_
  refine op T26 (mkF m 89 #[rv a0, rv a1, iv 0, rv a3, iv 0, iv p5, iv 1, iv 0] [(.int (r0 + (1 : Int32))), (.int 0), (.ref sA)]) (fun _ k => XS.iconst X26.here hx rfl (hb hby d12_87) (XS.iadd X26.here hx rfl (hb hby d12_88) rfl k)) ?_
  obtain ⟨k28, cl28, Ar28, q28, S28, N28, H28, G28⟩ := id f4
  have hin28 : ¬ ((0 : Int32) < 0 ∨ cl28.slots.size ≤ ((0 : Int32)).toNatClampNeg) := inb_of S28 ⟨by decide, by decide⟩
  obtain ⟨T28, h28, X28, e28, W28, st'⟩ := stI X26 hx hZ e26 Ar28 (j := (0 : Int32)) hin28 (g := (mkF m 89 #[rv a0, rv a1, iv 0, rv a3, iv 0, iv p5, iv 1, iv 0] [(.int (r0 + (1 : Int32))), (.int 0), (.ref sA)])) rfl rfl (hb hby d12_89)
  have f29 : own_Iv Z h28 sA (1 : Int32) [(r0 + (1 : Int32))] := ⟨_, Arv.set Ar28 q28 S28 N28 H28 G28 rfl W28 0 rfl (Nat.le_of_ble_eq_true rfl)⟩
  have f30 := f5.wr W28
  have f31 := f6.other W28 J5
  have f32 := f7.other W28 M5
  have f33 := f8.other W28 (Or.inl G6)
  have f34 := f9.other W28 (Or.inl G6)
  have f35 := f10.other W28 (Or.inl G6)
  have f36 := f11.other W28 (Or.inl G6)
  have f37 := f12.other W28 (Or.inl G6)
  have f38 := f13.other W28 (Or.inl G6)
  have f39 := f14.other W28 (Or.inl G6)
  have f40 := f15.other W28 (Or.inl G6)
  have f41 := f16.other W28 (Or.inl G6)
  have f42 := f17.other W28 (Or.inl G6)
  have f43 := f18.other W28 (Or.inl G6)
  have f44 := f19.other W28 Hu
  have f45 := f20.other W28 Hx
  have f46 := f21.other W28 Hw
  have f47 := f22.other W28 Hv
  have NF28 := Fr.snoc X28 NF3 J7
  have SZ28 : n0 ≤ h28.size := (Nat.le_trans SZ3 (Keep.of_wr W28).1)
  have KP28 : Keep h0 h28 [a0, sS, sT, sL, sC, sA] := KP3.wr W28 (Or.inl (List.mem_of_getElem? (i := 5) rfl))
  refine op T28 (mkF m 91 #[rv a0, rv a1, iv 0, rv a3, iv 0, iv p5, iv 1, iv 0] [(.ref a0)]) (fun _ k => st' _ (XS.aloadN X28.here hx rfl (hb hby d12_90) rfl rfl k)) ?_
  obtain ⟨T48, X48, e48, st'⟩ := getF X28 hx hZ hown (host := "") (Or.inl (ow hw 63 rfl)) Via.refl e28 f39 (g := (mkF m 91 #[rv a0, rv a1, iv 0, rv a3, iv 0, iv p5, iv 1, iv 0] [(.ref a0)])) rfl rfl (hb hby d12_91)
  refine op T48 (mkF m 96 #[rv a0, rv a1, iv 0, rv a3, iv 0, iv p5, iv 1, iv 0] [(.int 0), (.ref sA)]) (fun _ k => st' _ (XS.iload X48.here hx rfl (hb hby d12_94) rfl k)) ?_
  obtain ⟨k49, cl49, Ar49, q49, S49, N49, H49, G49⟩ := id f29
  have hin49 : ¬ ((0 : Int32) < 0 ∨ cl49.slots.size ≤ ((0 : Int32)).toNatClampNeg) := inb_of S49 ⟨by decide, by decide⟩
  refine op T48 (mkF m 97 #[rv a0, rv a1, iv 0, rv a3, iv 0, iv p5, iv 1, iv 0] [(.int (r0 + (1 : Int32)))]) (fun t k => X48.iaload hx (j := (0 : Int32)) (v := (.int (r0 + (1 : Int32)))) (by rw [e48]; exact Ar49.1) (State.isArrayOf_alike hZ.alike Ar49.2.1) Ar49.2.2 hin49 (H49.at hin49 rfl) (g := (mkF m 96 #[rv a0, rv a1, iv 0, rv a3, iv 0, iv p5, iv 1, iv 0] [(.int 0), (.ref sA)])) rfl rfl (hb hby d12_96) t k) ?_
  refine own_iteT Rap1 (Kap1 Z p5 sz rng tsz ful nC nT l0 r0 t0 a0 a1 a3 sS sT sL sC sA h0 n0) (fun hc97 => ?_) (fun hc97 => ?_)
  · skip
    refine op T48 (mkF m 71 #[rv a0, rv a1, iv 0, rv a3, iv 0, iv p5, iv 1, iv (-1 : Int32)] [(.int (-1 : Int32))]) (fun _ k => XS.ifNo X48.here hx rfl (hb hby d12_97) rfl ((if0 _ _).trans (teq hc97).2) (XS.iconst X48.here hx rfl (hb hby d12_100) (XS.goto X48.here hx rfl (pc0 := 101) (pc' := 105) rfl (hb hby d12_101) (by decide) (by decide) (XS.istore X48.here hx rfl (hb hby d12_105) rfl (l' := #[rv a0, rv a1, iv 0, rv a3, iv 0, iv p5, iv 1, iv 0]) rfl (XS.iinc X48.here hx rfl (hb hby d12_107) rfl (l' := #[rv a0, rv a1, iv 0, rv a3, iv 0, iv p5, iv 1, iv (-1 : Int32)]) rfl (XS.goto X48.here hx rfl (pc0 := 110) (pc' := 69) rfl (hb hby d12_110) (by decide) (by decide) (XS.iload X48.here hx rfl (hb hby d12_69) rfl k))))))) ?_
    have hd50 : (-1 : Int32) < (0 : Int32) := by decide
    refine op T48 (mkF m 116 #[rv a0, rv a1, iv 0, rv a3, iv 0, iv p5, iv 1, iv (-1 : Int32)] [(.int 1), (.ref a0)]) (fun _ k => XS.ifYes X48.here hx rfl (pc0 := 71) (pc' := 113) rfl (hb hby d12_71) rfl ((if0 _ _).trans (tlt hd50).1) (by decide) (by decide) (XS.aloadN X48.here hx rfl (hb hby d12_113) rfl rfl (XS.iload X48.here hx rfl (hb hby d12_114) rfl k))) ?_
    obtain ⟨T51, h51, X51, e51, W51, st'⟩ := putFN X48 hx hZ hown (ow hw 101 rfl) Via.refl e48 f43 f30 (Or.inl (ow hw 102 rfl)) (ow hw 41 rfl) (ty := .boolean) (v' := (.int 1)) (by decide) rfl (by decide) (g := (mkF m 116 #[rv a0, rv a1, iv 0, rv a3, iv 0, iv p5, iv 1, iv (-1 : Int32)] [(.int 1), (.ref a0)])) rfl rfl (hb hby d12_116)
    have f52 := f43.same W51
    have f53 := f30.wr W51
    have f54 := f31.other W51 (Ne.symm Gu)
    have f55 := f32.other W51 (Ne.symm J4)
    have f56 := f33.other W51 (Or.inr (sn20 hw))
    have f57 := f34.other W51 (Or.inr (sn21 hw))
    have f58 := f35.other W51 (Or.inr (sn22 hw))
    have f59 := f36.other W51 (Or.inr (sn23 hw))
    have f60 := f37.other W51 (Or.inr (sn24 hw))
    have f61 := f38.other W51 (Or.inr (sn25 hw))
    have f62 := f39.other W51 (Or.inr (sn26 hw))
    have f63 := f40.other W51 (Or.inr (sn27 hw))
    have f64 := f41.other W51 (Or.inr (sn28 hw))
    have f65 := f42.other W51 (Or.inr (sn29 hw))
    have f66 := f44.other W51 (Ne.symm Gd)
    have f67 := f45.other W51 (Ne.symm Gh)
    have f68 := f46.other W51 (Ne.symm Gi)
    have f69 := f47.other W51 (Ne.symm Ge)
    have f70 := f29.other W51 (Ne.symm G6)
    have NF51 := Fr.snoc X51 NF28 G0
    have SZ51 : n0 ≤ h51.size := (Nat.le_trans SZ28 (Keep.of_wr W51).1)
    have KP51 : Keep h0 h51 [a0, sS, sT, sL, sC, sA] := KP28.wr W51 (Or.inl (List.mem_of_getElem? (i := 0) rfl))
    refine op T51 (mkF m 121 #[rv a0, rv a1, iv 0, rv a3, iv 0, iv p5, iv 1, iv (-1 : Int32)] [(.ref a0), (.ref a0)]) (fun _ k => st' _ (XS.aloadN X51.here hx rfl (hb hby d12_119) rfl rfl (XS.dup X51.here hx rfl (hb hby d12_120) rfl rfl k))) ?_
    obtain ⟨T71, X71, e71, st'⟩ := getF X51 hx hZ hown (host := "") (Or.inl (ow hw 80 rfl)) Via.refl e51 f64 (g := (mkF m 121 #[rv a0, rv a1, iv 0, rv a3, iv 0, iv p5, iv 1, iv (-1 : Int32)] [(.ref a0), (.ref a0)])) rfl rfl (hb hby d12_121)
    refine op T71 (mkF m 126 #[rv a0, rv a1, iv 0, rv a3, iv 0, iv p5, iv 1, iv (-1 : Int32)] [(.int (rng + (1 : Int32))), (.ref a0)]) (fun _ k => st' _ (XS.iconst X71.here hx rfl (hb hby d12_124) (XS.iadd X71.here hx rfl (hb hby d12_125) rfl k))) ?_
    obtain ⟨T72, h72, X72, e72, W72, st'⟩ := putF X71 hx hZ hown (host := "") (Or.inl (ow hw 80 rfl)) Via.refl e71 f64 f53 (Or.inl (ow hw 81 rfl)) (ow hw 41 rfl) (ty := .int) (by decide) rfl rfl (g := (mkF m 126 #[rv a0, rv a1, iv 0, rv a3, iv 0, iv p5, iv 1, iv (-1 : Int32)] [(.int (rng + (1 : Int32))), (.ref a0)])) rfl rfl (hb hby d12_126)
    have f73 := f64.same W72
    have f74 := f53.wr W72
    have f75 := f54.other W72 (Ne.symm Gu)
    have f76 := f55.other W72 (Ne.symm J4)
    have f77 := f56.other W72 (Or.inr (sn30 hw))
    have f78 := f57.other W72 (Or.inr (sn31 hw))
    have f79 := f58.other W72 (Or.inr (sn32 hw))
    have f80 := f59.other W72 (Or.inr (sn33 hw))
    have f81 := f60.other W72 (Or.inr (sn34 hw))
    have f82 := f61.other W72 (Or.inr (sn35 hw))
    have f83 := f62.other W72 (Or.inr (sn36 hw))
    have f84 := f63.other W72 (Or.inr (sn37 hw))
    have f85 := f65.other W72 (Or.inr (sn38 hw))
    have f86 := f52.other W72 (Or.inr (sn39 hw))
    have f87 := f66.other W72 (Ne.symm Gd)
    have f88 := f67.other W72 (Ne.symm Gh)
    have f89 := f68.other W72 (Ne.symm Gi)
    have f90 := f69.other W72 (Ne.symm Ge)
    have f91 := f70.other W72 (Ne.symm G6)
    have NF72 := Fr.snoc X72 NF51 G0
    have SZ72 : n0 ≤ h72.size := (Nat.le_trans SZ51 (Keep.of_wr W72).1)
    have KP72 : Keep h0 h72 [a0, sS, sT, sL, sC, sA] := KP51.wr W72 (Or.inl (List.mem_of_getElem? (i := 0) rfl))
    refine op T72 (mkF m 129 #[rv a0, rv a1, iv 0, rv a3, iv 0, iv p5, iv 1, iv (-1 : Int32)] []) (fun _ k => st' _ k) ?_
    exact own_retV X72 hx Bd.notSynchronized Bd.returns (hb hby d12_129) (by rw [e72]; exact ⟨NF72, KP72, f74, f77, f78, f79, f80, f81, f82, f83, f84, f73, f85, f86, f87, f88, f89, f90, f91⟩) (by decide) (by decide)
  · skip
    refine op T48 (mkF m 71 #[rv a0, rv a1, iv 0, rv a3, iv 0, iv p5, iv 0, iv (-1 : Int32)] [(.int (-1 : Int32))]) (fun _ k => XS.ifYes X48.here hx rfl (pc0 := 97) (pc' := 104) rfl (hb hby d12_97) rfl ((if0 _ _).trans (feq hc97).2) (by decide) (by decide) (XS.iconst X48.here hx rfl (hb hby d12_104) (XS.istore X48.here hx rfl (hb hby d12_105) rfl (l' := #[rv a0, rv a1, iv 0, rv a3, iv 0, iv p5, iv 0, iv 0]) rfl (XS.iinc X48.here hx rfl (hb hby d12_107) rfl (l' := #[rv a0, rv a1, iv 0, rv a3, iv 0, iv p5, iv 0, iv (-1 : Int32)]) rfl (XS.goto X48.here hx rfl (pc0 := 110) (pc' := 69) rfl (hb hby d12_110) (by decide) (by decide) (XS.iload X48.here hx rfl (hb hby d12_69) rfl k)))))) ?_
    have hd92 : (-1 : Int32) < (0 : Int32) := by decide
    refine op T48 (mkF m 116 #[rv a0, rv a1, iv 0, rv a3, iv 0, iv p5, iv 0, iv (-1 : Int32)] [(.int 0), (.ref a0)]) (fun _ k => XS.ifYes X48.here hx rfl (pc0 := 71) (pc' := 113) rfl (hb hby d12_71) rfl ((if0 _ _).trans (tlt hd92).1) (by decide) (by decide) (XS.aloadN X48.here hx rfl (hb hby d12_113) rfl rfl (XS.iload X48.here hx rfl (hb hby d12_114) rfl k))) ?_
    obtain ⟨T93, h93, X93, e93, W93, st'⟩ := putFN X48 hx hZ hown (ow hw 101 rfl) Via.refl e48 f43 f30 (Or.inl (ow hw 102 rfl)) (ow hw 41 rfl) (ty := .boolean) (v' := (.int 0)) (by decide) rfl (by decide) (g := (mkF m 116 #[rv a0, rv a1, iv 0, rv a3, iv 0, iv p5, iv 0, iv (-1 : Int32)] [(.int 0), (.ref a0)])) rfl rfl (hb hby d12_116)
    have f94 := f43.same W93
    have f95 := f30.wr W93
    have f96 := f31.other W93 (Ne.symm Gu)
    have f97 := f32.other W93 (Ne.symm J4)
    have f98 := f33.other W93 (Or.inr (sn20 hw))
    have f99 := f34.other W93 (Or.inr (sn21 hw))
    have f100 := f35.other W93 (Or.inr (sn22 hw))
    have f101 := f36.other W93 (Or.inr (sn23 hw))
    have f102 := f37.other W93 (Or.inr (sn24 hw))
    have f103 := f38.other W93 (Or.inr (sn25 hw))
    have f104 := f39.other W93 (Or.inr (sn26 hw))
    have f105 := f40.other W93 (Or.inr (sn27 hw))
    have f106 := f41.other W93 (Or.inr (sn28 hw))
    have f107 := f42.other W93 (Or.inr (sn29 hw))
    have f108 := f44.other W93 (Ne.symm Gd)
    have f109 := f45.other W93 (Ne.symm Gh)
    have f110 := f46.other W93 (Ne.symm Gi)
    have f111 := f47.other W93 (Ne.symm Ge)
    have f112 := f29.other W93 (Ne.symm G6)
    have NF93 := Fr.snoc X93 NF28 G0
    have SZ93 : n0 ≤ h93.size := (Nat.le_trans SZ28 (Keep.of_wr W93).1)
    have KP93 : Keep h0 h93 [a0, sS, sT, sL, sC, sA] := KP28.wr W93 (Or.inl (List.mem_of_getElem? (i := 0) rfl))
    refine op T93 (mkF m 121 #[rv a0, rv a1, iv 0, rv a3, iv 0, iv p5, iv 0, iv (-1 : Int32)] [(.ref a0), (.ref a0)]) (fun _ k => st' _ (XS.aloadN X93.here hx rfl (hb hby d12_119) rfl rfl (XS.dup X93.here hx rfl (hb hby d12_120) rfl rfl k))) ?_
    obtain ⟨T113, X113, e113, st'⟩ := getF X93 hx hZ hown (host := "") (Or.inl (ow hw 80 rfl)) Via.refl e93 f106 (g := (mkF m 121 #[rv a0, rv a1, iv 0, rv a3, iv 0, iv p5, iv 0, iv (-1 : Int32)] [(.ref a0), (.ref a0)])) rfl rfl (hb hby d12_121)
    refine op T113 (mkF m 126 #[rv a0, rv a1, iv 0, rv a3, iv 0, iv p5, iv 0, iv (-1 : Int32)] [(.int (rng + (1 : Int32))), (.ref a0)]) (fun _ k => st' _ (XS.iconst X113.here hx rfl (hb hby d12_124) (XS.iadd X113.here hx rfl (hb hby d12_125) rfl k))) ?_
    obtain ⟨T114, h114, X114, e114, W114, st'⟩ := putF X113 hx hZ hown (host := "") (Or.inl (ow hw 80 rfl)) Via.refl e113 f106 f95 (Or.inl (ow hw 81 rfl)) (ow hw 41 rfl) (ty := .int) (by decide) rfl rfl (g := (mkF m 126 #[rv a0, rv a1, iv 0, rv a3, iv 0, iv p5, iv 0, iv (-1 : Int32)] [(.int (rng + (1 : Int32))), (.ref a0)])) rfl rfl (hb hby d12_126)
    have f115 := f106.same W114
    have f116 := f95.wr W114
    have f117 := f96.other W114 (Ne.symm Gu)
    have f118 := f97.other W114 (Ne.symm J4)
    have f119 := f98.other W114 (Or.inr (sn30 hw))
    have f120 := f99.other W114 (Or.inr (sn31 hw))
    have f121 := f100.other W114 (Or.inr (sn32 hw))
    have f122 := f101.other W114 (Or.inr (sn33 hw))
    have f123 := f102.other W114 (Or.inr (sn34 hw))
    have f124 := f103.other W114 (Or.inr (sn35 hw))
    have f125 := f104.other W114 (Or.inr (sn36 hw))
    have f126 := f105.other W114 (Or.inr (sn37 hw))
    have f127 := f107.other W114 (Or.inr (sn38 hw))
    have f128 := f94.other W114 (Or.inr (sn39 hw))
    have f129 := f108.other W114 (Ne.symm Gd)
    have f130 := f109.other W114 (Ne.symm Gh)
    have f131 := f110.other W114 (Ne.symm Gi)
    have f132 := f111.other W114 (Ne.symm Ge)
    have f133 := f112.other W114 (Ne.symm G6)
    have NF114 := Fr.snoc X114 NF93 G0
    have SZ114 : n0 ≤ h114.size := (Nat.le_trans SZ93 (Keep.of_wr W114).1)
    have KP114 : Keep h0 h114 [a0, sS, sT, sL, sC, sA] := KP93.wr W114 (Or.inl (List.mem_of_getElem? (i := 0) rfl))
    refine op T114 (mkF m 129 #[rv a0, rv a1, iv 0, rv a3, iv 0, iv p5, iv 0, iv (-1 : Int32)] []) (fun _ k => st' _ k) ?_
    exact own_retV X114 hx Bd.notSynchronized Bd.returns (hb hby d12_129) (by rw [e114]; exact ⟨NF114, KP114, f116, f119, f120, f121, f122, f123, f124, f125, f126, f115, f127, f128, f129, f130, f131, f132, f133⟩) (by decide) (by decide)
def fap1_35 (p5 sz rng tsz ful nC nT l0 r0 t0 J3 Ht : Int32) : Int32 × Int32 × Int32 × Int32 × Int32 := (fap1_43 p5 sz rng tsz ful nC nT l0 r0 t0 (fpu1a_0 p5 J3 rng Ht ful nC nT l0).1 (fpu1a_0 p5 J3 rng Ht ful nC nT l0).2)
set_option maxRecDepth 65536 in
set_option maxHeartbeats 40000000 in
theorem gap1_35 (hw : HW aw Z) {h0 : Heap} {n0 : Nat} (p5 sz rng tsz ful nC nT l0 r0 t0 : Int32) (a0 a1 a3 sS sT sL sC sA : Addr) (Gd : a0 ≠ sS) (Hb : sS ≠ sT) (Hc : sS ≠ sL) (Ha : sS ≠ sC) (Hu : sS ≠ sA) (Ge : a0 ≠ sC) (Hd : sT ≠ sC) (He : sL ≠ sC) (Hv : sC ≠ sA) (Gh : a0 ≠ sT) (Gi : a0 ≠ sL) (G6 : a0 ≠ sA) (H0 : a1 ≠ sC) (Hs : a1 ≠ sL) (Hr : a1 ≠ sT) (Gz : a1 ≠ sS) (Gu : a0 ≠ a1) (Mm : a3 ≠ sC) (Mn : a3 ≠ sL) (Mo : a3 ≠ sT) (Mp : a3 ≠ sS) (J4 : a0 ≠ a3) (Hw : sL ≠ sA) (Hx : sT ≠ sA) (J5 : a1 ≠ sA) (M5 : a3 ≠ sA) (HS : 0 ≤ sz.toInt) (HS2 : sz.toInt ≤ 1000) (HC : nC.toInt ≤ 100) (HT : 0 ≤ tsz.toInt) (HT2 : tsz.toInt ≤ 1000) (HN : nT.toInt ≤ 100) (J3 Ht : Int32) (IS : 0 ≤ J3.toInt) (IT : 0 ≤ Ht.toInt)
    (Bd : BodyLoose p l y4 (head1 (Jvm.Cond.code y4 Gn 8 none :: ws) Qap1) Gn 8 none e s m #[(.ref a0), (.ref a1), (.int 0), (.ref a3), (.int 0), (.int p5)] below meth c s₁) (hml : c.maxLocals = 8) (hZ : Z.Warmed39 s.vm) (G0 : n0 ≤ a0) (Hg : n0 ≤ sS) (Hj : n0 ≤ sT) (Hk : n0 ≤ sL) (Hh : n0 ≤ sC) (J7 : n0 ≤ sA) (T0 : State) {locs : List Loc} (X0 : Stand p l e Qap1 s m #[(.ref a0), (.ref a1), (.int 0), (.ref a3), (.int 0), (.int p5)] below meth c T0 locs 0 0) {h : Heap} (e0 : T0.heap = h) (SZ0 : n0 ≤ h.size) (NF0 : Fr n0 locs) (KP0 : Keep h0 h [a0, sS, sT, sL, sC, sA]) (Ga : Exa Z h a0 cS) (Gk : Fld Z h a0 cS "starts" "[I" (.ref sS)) (Hm : Fld Z h a0 cS "tailed" "[I" (.ref sT)) (Hq : Fld Z h a0 cS "tails" "[I" (.ref sL)) (Gg : Fld Z h a0 cS "countries" "[C" (.ref sC)) (Gb : Fld Z h a0 cS "width" "I" (.int 1)) (Gr : Fld Z h a0 cS "head" "I" (.int 1)) (Gw : Fld Z h a0 cS "after" "[I" (.ref sA)) (Gc : Fld Z h a0 cS "size" "I" (.int J3)) (Gq : Fld Z h a0 cS "ranges" "I" (.int rng)) (Hf : Fld Z h a0 cS "tailedSize" "I" (.int Ht)) (Gt : Fld Z h a0 cS "full" "Z" (.int ful)) (H6 : own_Ar Z h sS .int (nC * (1 : Int32))) (Gx : own_Ar Z h sT .int nT) (Gy : own_Ar Z h sL .int (nT * (0 : Int32))) (Gv : own_Ar Z h sC .char nC) (Gp : own_Iv Z h a1 (1 : Int32) [l0]) (Hn : own_Iv Z h a3 (1 : Int32) [r0]) (Gm : own_Iv Z h sA (1 : Int32) [t0]) :
    own_Go p e below s Qap1.cells Qap1.slots (Rap1 (fap1_35 p5 sz rng tsz ful nC nT l0 r0 t0 J3 Ht)) (Kap1 Z p5 sz rng tsz ful nC nT l0 r0 t0 a0 a1 a3 sS sT sL sC sA h0 n0 (fap1_35 p5 sz rng tsz ful nC nT l0 r0 t0 J3 Ht)) (T0.setTop (mkF m 35 #[rv a0, rv a1, iv 0, rv a3, iv 0, iv p5, uu, uu] [])) := by
  have hx := Bd.exec
  have hby := Bd.bytes
  have hown : s.vm.findClass cS = some m.cls := findClass_of_methodNamed Bd.named
  have hnm := (name_of_methodNamed Bd.named Bd.method).1
  unfold fap1_35
  refine op T0 (mkF m 40 #[rv a0, rv a1, iv 0, rv a3, iv 0, iv p5, uu, uu] [(.int p5), (.int 0), (.ref a1), (.ref a0)]) (fun _ k => XS.aloadN X0.here hx rfl (hb hby d12_35) rfl rfl (XS.aloadN X0.here hx rfl (hb hby d12_36) rfl rfl (XS.iloadN X0.here hx rfl (hb hby d12_37) rfl (XS.iload X0.here hx rfl (hb hby d12_38) rfl k)))) ?_
  obtain ⟨cq1, q1, q1'⟩ := Ga.cell
  obtain ⟨_, _, ⟨T1, L1, k1, n1⟩, -, X1', ⟨Lc1, hQ1, l1, y1, z1⟩, st'⟩ := X0.privateBack hx (y := y3) hown (mvT hZ (ow hw 87 rfl)) (mvT hZ (ow hw 88 rfl)) (mvT hZ (Jvm.Kit.selects_private (by decide) (ow hw 41 rfl) (ow hw 89 rfl) (ow hw 88 rfl))) (Cond.privateMethod_at (mvP hZ (ow hw 89 rfl) (args := #[]))) (mvT hZ (ow hw 90 rfl)) (by decide) (backOf (W := 0) (rmpu1a l Z aw hw [] p5 J3 rng Ht ful nC nT l0 a0 a1 sS sT sL sC sA h n0 SZ0 Ga Gk Hm Hq Gg Gb Gr Gw Gc Gq Hf Gt H6 Gx Gy Gv Gp Gd Hb Hc Ha Gz Ge Hd He H0 Gh Gi Gu IS HC IT HN G0 Hg Hj Hk Hh) hZ (ow hw 90 rfl) (ow hw 42 rfl) (by decide) (by decide)) (g := (mkF m 40 #[rv a0, rv a1, iv 0, rv a3, iv 0, iv p5, uu, uu] [(.int p5), (.int 0), (.ref a1), (.ref a0)])) rfl (by rw [hml]; rfl) (Steps.refl _) (a := a0) (by rw [e0]; exact q1) q1' (argsL := [(.ref a1), (.int 0), (.int p5)]) (rest := []) (lenOf own_pd3 rfl) rfl (by show 2 * 0 + _ ≤ _; exact Nat.le_of_eq rfl) (hb hby d12_40) (fun _ _ => ⟨rfl, e0, (by decide : 0 + 0 ≤ _), (by decide : 0 + 0 ≤ _)⟩)
  dsimp only [Pt.U, Pt.locs, Pt.cells, Pt.slots] at X1' l1 y1 z1 st' hQ1
  subst l1 y1 z1
  obtain ⟨rfl, NFq1, KPq1, p1_0, p1_1, p1_2, p1_3, p1_4, p1_5, p1_6, p1_7, p1_8, p1_9, p1_10, p1_11, p1_12, p1_13, p1_14, p1_15⟩ := hQ1
  have X1 : Stand p l e Qap1 s m #[(.ref a0), (.ref a1), (.int 0), (.ref a3), (.int 0), (.int p5)] below meth c T1 _ 0 0 := X1'
  have NF1 := Fr.app NF0 NFq1
  have SZ1 : n0 ≤ T1.heap.size := Nat.le_trans SZ0 KPq1.1
  have KP1 : Keep h0 T1.heap [a0, sS, sT, sL, sC, sA] := KP0.trans KPq1 (allS (Or.inl (List.mem_of_getElem? (i := 0) rfl)) (allS (Or.inl (List.mem_of_getElem? (i := 1) rfl)) (allS (Or.inl (List.mem_of_getElem? (i := 2) rfl)) (allS (Or.inl (List.mem_of_getElem? (i := 3) rfl)) (allS (Or.inl (List.mem_of_getElem? (i := 4) rfl)) all0)))))
  have f2 := Ga.keep KPq1
  have f3 := Gp.keep KPq1 (ninS (Ne.symm Gu) (ninS Gz (ninS Hr (ninS Hs (ninS H0 nin0)))))
  have f4 := Hn.keep KPq1 (ninS (Ne.symm J4) (ninS Mp (ninS Mo (ninS Mn (ninS Mm nin0)))))
  have f5 := Gm.keep KPq1 (ninS (Ne.symm G6) (ninS (Ne.symm Hu) (ninS (Ne.symm Hx) (ninS (Ne.symm Hw) (ninS (Ne.symm Hv) nin0)))))
  refine op T1 (mkF m 43 #[rv a0, rv a1, iv 0, rv a3, iv 0, iv p5, uu, uu] []) (fun _ k => st'.trans k) ?_
  exact gap1_43 hw p5 sz rng tsz ful nC nT l0 r0 t0 a0 a1 a3 sS sT sL sC sA Gd Hb Hc Ha Hu Ge Hd He Hv Gh Gi G6 H0 Hs Hr Gz Gu Mm Mn Mo Mp J4 Hw Hx J5 M5 HS HS2 HC HT HT2 HN (fpu1a_0 p5 J3 rng Ht ful nC nT l0).1 (fpu1a_0 p5 J3 rng Ht ful nC nT l0).2 Bd hml hZ G0 Hg Hj Hk Hh J7 T1 X1 (rfl : T1.heap = T1.heap) SZ1 NF1 KP1 p1_0 f3 f4 f5 p1_1 p1_2 p1_3 p1_4 p1_5 p1_6 p1_7 p1_8 p1_9 p1_10 p1_11 p1_12 p1_13 p1_14 p1_15
def fap1_0 (p5 sz rng tsz ful nC nT l0 r0 t0 : Int32) : Int32 × Int32 × Int32 × Int32 × Int32 := (if (0 : Int32) < rng then (if (fcm1_0 l0 t0) = (0 : Int32) then (fap1_35 p5 sz rng tsz ful nC nT l0 r0 t0 sz tsz) else (fap1_35 p5 sz rng tsz ful nC nT l0 r0 t0 (fpu1a_0 (65535 : Int32) sz rng tsz ful nC nT t0).1 (fpu1a_0 (65535 : Int32) sz rng tsz ful nC nT t0).2)) else (fap1_35 p5 sz rng tsz ful nC nT l0 r0 t0 sz tsz))
set_option maxRecDepth 65536 in
set_option maxHeartbeats 40000000 in
theorem gap1_0 (hw : HW aw Z) {h0 : Heap} {n0 : Nat} (p5 sz rng tsz ful nC nT l0 r0 t0 : Int32) (a0 a1 a3 sS sT sL sC sA : Addr) (Gd : a0 ≠ sS) (Hb : sS ≠ sT) (Hc : sS ≠ sL) (Ha : sS ≠ sC) (Hu : sS ≠ sA) (Ge : a0 ≠ sC) (Hd : sT ≠ sC) (He : sL ≠ sC) (Hv : sC ≠ sA) (Gh : a0 ≠ sT) (Gi : a0 ≠ sL) (G6 : a0 ≠ sA) (H0 : a1 ≠ sC) (Hs : a1 ≠ sL) (Hr : a1 ≠ sT) (Gz : a1 ≠ sS) (Gu : a0 ≠ a1) (Mm : a3 ≠ sC) (Mn : a3 ≠ sL) (Mo : a3 ≠ sT) (Mp : a3 ≠ sS) (J4 : a0 ≠ a3) (Hw : sL ≠ sA) (Hx : sT ≠ sA) (J5 : a1 ≠ sA) (M5 : a3 ≠ sA) (HS : 0 ≤ sz.toInt) (HS2 : sz.toInt ≤ 1000) (HC : nC.toInt ≤ 100) (HT : 0 ≤ tsz.toInt) (HT2 : tsz.toInt ≤ 1000) (HN : nT.toInt ≤ 100)
    (Bd : BodyLoose p l y4 (head1 (Jvm.Cond.code y4 Gn 8 none :: ws) Qap1) Gn 8 none e s m #[(.ref a0), (.ref a1), (.int 0), (.ref a3), (.int 0), (.int p5)] below meth c s₁) (hml : c.maxLocals = 8) (hZ : Z.Warmed39 s.vm) (G0 : n0 ≤ a0) (Hg : n0 ≤ sS) (Hj : n0 ≤ sT) (Hk : n0 ≤ sL) (Hh : n0 ≤ sC) (J7 : n0 ≤ sA) (T0 : State) {locs : List Loc} (X0 : Stand p l e Qap1 s m #[(.ref a0), (.ref a1), (.int 0), (.ref a3), (.int 0), (.int p5)] below meth c T0 locs 0 0) (e0 : T0.heap = h0) (SZ0 : n0 ≤ h0.size) (NF0 : Fr n0 locs) (KP0 : Keep h0 h0 [a0, sS, sT, sL, sC, sA]) (Ga : Exa Z h0 a0 cS) (Gk : Fld Z h0 a0 cS "starts" "[I" (.ref sS)) (Hm : Fld Z h0 a0 cS "tailed" "[I" (.ref sT)) (Hq : Fld Z h0 a0 cS "tails" "[I" (.ref sL)) (Gg : Fld Z h0 a0 cS "countries" "[C" (.ref sC)) (Gb : Fld Z h0 a0 cS "width" "I" (.int 1)) (Gr : Fld Z h0 a0 cS "head" "I" (.int 1)) (Gw : Fld Z h0 a0 cS "after" "[I" (.ref sA)) (Gc : Fld Z h0 a0 cS "size" "I" (.int sz)) (Gq : Fld Z h0 a0 cS "ranges" "I" (.int rng)) (Hf : Fld Z h0 a0 cS "tailedSize" "I" (.int tsz)) (Gt : Fld Z h0 a0 cS "full" "Z" (.int ful)) (H6 : own_Ar Z h0 sS .int (nC * (1 : Int32))) (Gx : own_Ar Z h0 sT .int nT) (Gy : own_Ar Z h0 sL .int (nT * (0 : Int32))) (Gv : own_Ar Z h0 sC .char nC) (Gp : own_Iv Z h0 a1 (1 : Int32) [l0]) (Hn : own_Iv Z h0 a3 (1 : Int32) [r0]) (Gm : own_Iv Z h0 sA (1 : Int32) [t0]) :
    own_Go p e below s Qap1.cells Qap1.slots (Rap1 (fap1_0 p5 sz rng tsz ful nC nT l0 r0 t0)) (Kap1 Z p5 sz rng tsz ful nC nT l0 r0 t0 a0 a1 a3 sS sT sL sC sA h0 n0 (fap1_0 p5 sz rng tsz ful nC nT l0 r0 t0)) (T0.setTop (mkF m 0 #[rv a0, rv a1, iv 0, rv a3, iv 0, iv p5, uu, uu] [])) := by
  have hx := Bd.exec
  have hby := Bd.bytes
  have hown : s.vm.findClass cS = some m.cls := findClass_of_methodNamed Bd.named
  have hnm := (name_of_methodNamed Bd.named Bd.method).1
  unfold fap1_0
  refine op T0 (mkF m 1 #[rv a0, rv a1, iv 0, rv a3, iv 0, iv p5, uu, uu] [(.ref a0)]) (fun _ k => XS.aloadN X0.here hx rfl (hb hby d12_0) rfl rfl k) ?_
  obtain ⟨T1, X1, e1, st'⟩ := getF X0 hx hZ hown (host := "") (Or.inl (ow hw 80 rfl)) Via.refl e0 Gq (g := (mkF m 1 #[rv a0, rv a1, iv 0, rv a3, iv 0, iv p5, uu, uu] [(.ref a0)])) rfl rfl (hb hby d12_1)
  refine op T1 (mkF m 4 #[rv a0, rv a1, iv 0, rv a3, iv 0, iv p5, uu, uu] [(.int rng)]) (fun _ k => st' _ k) ?_
  refine own_iteT Rap1 (Kap1 Z p5 sz rng tsz ful nC nT l0 r0 t0 a0 a1 a3 sS sT sL sC sA h0 n0) (fun hc4 => ?_) (fun hc4 => ?_)
  · skip
    refine op T1 (mkF m 10 #[rv a0, rv a1, iv 0, rv a3, iv 0, iv p5, uu, uu] [(.ref a0), (.int 0), (.ref a1)]) (fun _ k => XS.ifNo X1.here hx rfl (hb hby d12_4) rfl ((if0 _ _).trans (tlt hc4).2.2.2) (XS.aloadN X1.here hx rfl (hb hby d12_7) rfl rfl (XS.iloadN X1.here hx rfl (hb hby d12_8) rfl (XS.aloadN X1.here hx rfl (hb hby d12_9) rfl rfl k)))) ?_
    obtain ⟨T2, X2, e2, st'⟩ := getF X1 hx hZ hown (host := "") (Or.inl (ow hw 63 rfl)) Via.refl e1 Gw (g := (mkF m 10 #[rv a0, rv a1, iv 0, rv a3, iv 0, iv p5, uu, uu] [(.ref a0), (.int 0), (.ref a1)])) rfl rfl (hb hby d12_10)
    refine op T2 (mkF m 15 #[rv a0, rv a1, iv 0, rv a3, iv 0, iv p5, uu, uu] [(.ref a0), (.int 0), (.ref sA), (.int 0), (.ref a1)]) (fun _ k => st' _ (XS.iconst X2.here hx rfl (hb hby d12_13) (XS.aloadN X2.here hx rfl (hb hby d12_14) rfl rfl k))) ?_
    obtain ⟨T3, X3, e3, st'⟩ := getF X2 hx hZ hown (host := "") (Or.inl (ow hw 55 rfl)) Via.refl e2 Gb (g := (mkF m 15 #[rv a0, rv a1, iv 0, rv a3, iv 0, iv p5, uu, uu] [(.ref a0), (.int 0), (.ref sA), (.int 0), (.ref a1)])) rfl rfl (hb hby d12_15)
    refine op T3 (mkF m 18 #[rv a0, rv a1, iv 0, rv a3, iv 0, iv p5, uu, uu] [(.int 1), (.int 0), (.ref sA), (.int 0), (.ref a1)]) (fun _ k => st' _ k) ?_
    obtain ⟨_, _, ⟨T4, L4, k4, n4⟩, -, X4', ⟨Lc4, hQ4, l4, y4, z4⟩, st'⟩ := Jvm.LawKit.callS X3 hx (y := y1) hown (mvT hZ (ow hw 105 rfl)) (mvT hZ (ow hw 106 rfl)) (mvT hZ (ow hw 107 rfl)) (mvT hZ (ow hw 108 rfl)) (by decide) (backOf (W := 0) (rmcm1 l Z aw hw [] l0 t0 a1 sA h0 n0 SZ0 Gp Gm) hZ (ow hw 108 rfl) (ow hw 107 rfl) (by decide) (by decide)) (g := (mkF m 18 #[rv a0, rv a1, iv 0, rv a3, iv 0, iv p5, uu, uu] [(.int 1), (.int 0), (.ref sA), (.int 0), (.ref a1)])) rfl (by rw [hml]; rfl) (argsL := [(.ref a1), (.int 0), (.ref sA), (.int 0), (.int 1)]) (rest := []) (lenOf own_pd2 rfl) rfl (by show 2 * 0 + _ ≤ _; exact Nat.le_of_eq rfl) (hb hby d12_18) (fun _ _ => ⟨rfl, e3, (by decide : 0 + 0 ≤ _), (by decide : 0 + 0 ≤ _)⟩)
    dsimp only [Pt.U, Pt.locs, Pt.cells, Pt.slots] at X4' l4 y4 z4 st' hQ4
    subst l4 y4 z4
    obtain ⟨rfl, NFq4, KPq4⟩ := hQ4
    have X4 : Stand p l e Qap1 s m #[(.ref a0), (.ref a1), (.int 0), (.ref a3), (.int 0), (.int p5)] below meth c T4 _ 0 0 := X4'
    have NF4 := Fr.app NF0 NFq4
    have SZ4 : n0 ≤ T4.heap.size := Nat.le_trans SZ0 KPq4.1
    have KP4 : Keep h0 T4.heap [a0, sS, sT, sL, sC, sA] := KP0.trans KPq4 all0
    have f5 := Ga.keep KPq4
    have f6 := Gk.keep KPq4 nin0
    have f7 := Hm.keep KPq4 nin0
    have f8 := Hq.keep KPq4 nin0
    have f9 := Gg.keep KPq4 nin0
    have f10 := Gb.keep KPq4 nin0
    have f11 := Gr.keep KPq4 nin0
    have f12 := Gw.keep KPq4 nin0
    have f13 := Gc.keep KPq4 nin0
    have f14 := Gq.keep KPq4 nin0
    have f15 := Hf.keep KPq4 nin0
    have f16 := Gt.keep KPq4 nin0
    have f17 := H6.keep KPq4 nin0
    have f18 := Gx.keep KPq4 nin0
    have f19 := Gy.keep KPq4 nin0
    have f20 := Gv.keep KPq4 nin0
    have f21 := Gp.keep KPq4 nin0
    have f22 := Hn.keep KPq4 nin0
    have f23 := Gm.keep KPq4 nin0
    refine op T4 (mkF m 21 #[rv a0, rv a1, iv 0, rv a3, iv 0, iv p5, uu, uu] [(.int (fcm1_0 l0 t0))]) (fun _ k => st' _ k) ?_
    refine own_iteT Rap1 (Kap1 Z p5 sz rng tsz ful nC nT l0 r0 t0 a0 a1 a3 sS sT sL sC sA h0 n0) (fun hc21 => ?_) (fun hc21 => ?_)
    · skip
      refine op T4 (mkF m 35 #[rv a0, rv a1, iv 0, rv a3, iv 0, iv p5, uu, uu] []) (fun _ k => XS.ifYes X4.here hx rfl (pc0 := 21) (pc' := 35) rfl (hb hby d12_21) rfl ((if0 _ _).trans (teq hc21).1) (by decide) (by decide) k) ?_
      exact gap1_35 hw p5 sz rng tsz ful nC nT l0 r0 t0 a0 a1 a3 sS sT sL sC sA Gd Hb Hc Ha Hu Ge Hd He Hv Gh Gi G6 H0 Hs Hr Gz Gu Mm Mn Mo Mp J4 Hw Hx J5 M5 HS HS2 HC HT HT2 HN sz tsz (by first | exact HS | exact (own_pub1a HS HS2 HT HT2).1) (by first | exact HT | exact (own_pub1a HS HS2 HT HT2).2) Bd hml hZ G0 Hg Hj Hk Hh J7 T4 X4 (rfl : T4.heap = T4.heap) SZ4 NF4 KP4 f5 f6 f7 f8 f9 f10 f11 f12 f13 f14 f15 f16 f17 f18 f19 f20 f21 f22 f23
    · skip
      refine op T4 (mkF m 26 #[rv a0, rv a1, iv 0, rv a3, iv 0, iv p5, uu, uu] [(.ref a0), (.ref a0)]) (fun _ k => XS.ifNo X4.here hx rfl (hb hby d12_21) rfl ((if0 _ _).trans (feq hc21).1) (XS.aloadN X4.here hx rfl (hb hby d12_24) rfl rfl (XS.aloadN X4.here hx rfl (hb hby d12_25) rfl rfl k))) ?_
      obtain ⟨T24, X24, e24, st'⟩ := getF X4 hx hZ hown (host := "") (Or.inl (ow hw 63 rfl)) Via.refl (rfl : T4.heap = T4.heap) f12 (g := (mkF m 26 #[rv a0, rv a1, iv 0, rv a3, iv 0, iv p5, uu, uu] [(.ref a0), (.ref a0)])) rfl rfl (hb hby d12_26)
      refine op T24 (mkF m 30 #[rv a0, rv a1, iv 0, rv a3, iv 0, iv p5, uu, uu] [(.int 0), (.ref sA), (.ref a0)]) (fun _ k => st' _ (XS.iconst X24.here hx rfl (hb hby d12_29) k)) ?_
      refine op T24 (mkF m 32 #[rv a0, rv a1, iv 0, rv a3, iv 0, iv p5, uu, uu] [(.int 65535), (.int 0), (.ref sA), (.ref a0)]) (fun _ k => X24.ldcInt hx hown (mvT hZ (ow hw 154 rfl)) (g := (mkF m 30 #[rv a0, rv a1, iv 0, rv a3, iv 0, iv p5, uu, uu] [(.int 0), (.ref sA), (.ref a0)])) rfl (hb hby d12_30) _ k) ?_
      obtain ⟨cq25, q25, q25'⟩ := f5.cell
      obtain ⟨_, _, ⟨T25, L25, k25, n25⟩, -, X25', ⟨Lc25, hQ25, l25, y25, z25⟩, st'⟩ := X24.privateBack hx (y := y3) hown (mvT hZ (ow hw 87 rfl)) (mvT hZ (ow hw 88 rfl)) (mvT hZ (Jvm.Kit.selects_private (by decide) (ow hw 41 rfl) (ow hw 89 rfl) (ow hw 88 rfl))) (Cond.privateMethod_at (mvP hZ (ow hw 89 rfl) (args := #[]))) (mvT hZ (ow hw 90 rfl)) (by decide) (backOf (W := 0) (rmpu1a l Z aw hw [] (65535 : Int32) sz rng tsz ful nC nT t0 a0 sA sS sT sL sC sA T4.heap n0 SZ4 f5 f6 f7 f8 f9 f10 f11 f12 f13 f14 f15 f16 f17 f18 f19 f20 f23 Gd Hb Hc Ha (Ne.symm Hu) Ge Hd He (Ne.symm Hv) Gh Gi G6 HS HC HT HN G0 Hg Hj Hk Hh) hZ (ow hw 90 rfl) (ow hw 42 rfl) (by decide) (by decide)) (g := (mkF m 32 #[rv a0, rv a1, iv 0, rv a3, iv 0, iv p5, uu, uu] [(.int 65535), (.int 0), (.ref sA), (.ref a0)])) rfl (by rw [hml]; rfl) (Steps.refl _) (a := a0) (by rw [e24]; exact q25) q25' (argsL := [(.ref sA), (.int 0), (.int 65535)]) (rest := []) (lenOf own_pd3 rfl) rfl (by show 2 * 0 + _ ≤ _; exact Nat.le_of_eq rfl) (hb hby d12_32) (fun _ _ => ⟨rfl, e24, (by decide : 0 + 0 ≤ _), (by decide : 0 + 0 ≤ _)⟩)
      dsimp only [Pt.U, Pt.locs, Pt.cells, Pt.slots] at X25' l25 y25 z25 st' hQ25
      subst l25 y25 z25
      obtain ⟨rfl, NFq25, KPq25, p25_0, p25_1, p25_2, p25_3, p25_4, p25_5, p25_6, p25_7, p25_8, p25_9, p25_10, p25_11, p25_12, p25_13, p25_14, p25_15⟩ := hQ25
      have X25 : Stand p l e Qap1 s m #[(.ref a0), (.ref a1), (.int 0), (.ref a3), (.int 0), (.int p5)] below meth c T25 _ 0 0 := X25'
      have NF25 := Fr.app NF4 NFq25
      have SZ25 : n0 ≤ T25.heap.size := Nat.le_trans SZ4 KPq25.1
      have KP25 : Keep h0 T25.heap [a0, sS, sT, sL, sC, sA] := KP4.trans KPq25 (allS (Or.inl (List.mem_of_getElem? (i := 0) rfl)) (allS (Or.inl (List.mem_of_getElem? (i := 1) rfl)) (allS (Or.inl (List.mem_of_getElem? (i := 2) rfl)) (allS (Or.inl (List.mem_of_getElem? (i := 3) rfl)) (allS (Or.inl (List.mem_of_getElem? (i := 4) rfl)) all0)))))
      have f26 := f5.keep KPq25
      have f27 := f21.keep KPq25 (ninS (Ne.symm Gu) (ninS Gz (ninS Hr (ninS Hs (ninS H0 nin0)))))
      have f28 := f22.keep KPq25 (ninS (Ne.symm J4) (ninS Mp (ninS Mo (ninS Mn (ninS Mm nin0)))))
      have f29 := f23.keep KPq25 (ninS (Ne.symm G6) (ninS (Ne.symm Hu) (ninS (Ne.symm Hx) (ninS (Ne.symm Hw) (ninS (Ne.symm Hv) nin0)))))
      refine op T25 (mkF m 35 #[rv a0, rv a1, iv 0, rv a3, iv 0, iv p5, uu, uu] []) (fun _ k => st'.trans k) ?_
      exact gap1_35 hw p5 sz rng tsz ful nC nT l0 r0 t0 a0 a1 a3 sS sT sL sC sA Gd Hb Hc Ha Hu Ge Hd He Hv Gh Gi G6 H0 Hs Hr Gz Gu Mm Mn Mo Mp J4 Hw Hx J5 M5 HS HS2 HC HT HT2 HN (fpu1a_0 (65535 : Int32) sz rng tsz ful nC nT t0).1 (fpu1a_0 (65535 : Int32) sz rng tsz ful nC nT t0).2 (by first | exact HS | exact (own_pub1a HS HS2 HT HT2).1) (by first | exact HT | exact (own_pub1a HS HS2 HT HT2).2) Bd hml hZ G0 Hg Hj Hk Hh J7 T25 X25 (rfl : T25.heap = T25.heap) SZ25 NF25 KP25 p25_0 p25_1 p25_2 p25_3 p25_4 p25_5 p25_6 p25_7 p25_8 p25_9 p25_10 p25_11 p25_12 p25_13 p25_14 p25_15 f27 f28 f29
  · skip
    refine op T1 (mkF m 35 #[rv a0, rv a1, iv 0, rv a3, iv 0, iv p5, uu, uu] []) (fun _ k => XS.ifYes X1.here hx rfl (pc0 := 4) (pc' := 35) rfl (hb hby d12_4) rfl ((if0 _ _).trans (flt hc4).2.2.2) (by decide) (by decide) k) ?_
    exact gap1_35 hw p5 sz rng tsz ful nC nT l0 r0 t0 a0 a1 a3 sS sT sL sC sA Gd Hb Hc Ha Hu Ge Hd He Hv Gh Gi G6 H0 Hs Hr Gz Gu Mm Mn Mo Mp J4 Hw Hx J5 M5 HS HS2 HC HT HT2 HN sz tsz (by first | exact HS | exact (own_pub1a HS HS2 HT HT2).1) (by first | exact HT | exact (own_pub1a HS HS2 HT HT2).2) Bd hml hZ G0 Hg Hj Hk Hh J7 T1 X1 e1 SZ0 NF0 KP0 Ga Gk Hm Hq Gg Gb Gr Gw Gc Gq Hf Gt H6 Gx Gy Gv Gp Hn Gm
theorem ef_ap1 (m : MethodId) (a0 a1 a3 : Addr) (p5 : Int32) : entryFrame m #[(.ref a0), (.ref a1), (.int 0), (.ref a3), (.int 0), (.int p5)] 8 = mkF m 0 #[rv a0, rv a1, iv 0, rv a3, iv 0, iv p5, uu, uu] [] := by first | (simp [entryFrame, mkF, argsToLocals, Value.category]; done) | rfl
set_option maxRecDepth 65536 in
set_option maxHeartbeats 40000000 in
theorem rmap1 (l : Launch) (Z : State) (aw : Array Value) (hw : HW aw Z) (ws : List Jvm.Cond) (p5 sz rng tsz ful nC nT l0 r0 t0 : Int32) (a0 a1 a3 sS sT sL sC sA : Addr) (h0 : Heap) (n0 : Nat) (SZ0 : n0 ≤ h0.size) (Ga : Exa Z h0 a0 cS) (Gk : Fld Z h0 a0 cS "starts" "[I" (.ref sS)) (Hm : Fld Z h0 a0 cS "tailed" "[I" (.ref sT)) (Hq : Fld Z h0 a0 cS "tails" "[I" (.ref sL)) (Gg : Fld Z h0 a0 cS "countries" "[C" (.ref sC)) (Gb : Fld Z h0 a0 cS "width" "I" (.int 1)) (Gr : Fld Z h0 a0 cS "head" "I" (.int 1)) (Gw : Fld Z h0 a0 cS "after" "[I" (.ref sA)) (Gc : Fld Z h0 a0 cS "size" "I" (.int sz)) (Gq : Fld Z h0 a0 cS "ranges" "I" (.int rng)) (Hf : Fld Z h0 a0 cS "tailedSize" "I" (.int tsz)) (Gt : Fld Z h0 a0 cS "full" "Z" (.int ful)) (H6 : own_Ar Z h0 sS .int (nC * (1 : Int32))) (Gx : own_Ar Z h0 sT .int nT) (Gy : own_Ar Z h0 sL .int (nT * (0 : Int32))) (Gv : own_Ar Z h0 sC .char nC) (Gp : own_Iv Z h0 a1 (1 : Int32) [l0]) (Hn : own_Iv Z h0 a3 (1 : Int32) [r0]) (Gm : own_Iv Z h0 sA (1 : Int32) [t0]) (Gd : a0 ≠ sS) (Hb : sS ≠ sT) (Hc : sS ≠ sL) (Ha : sS ≠ sC) (Hu : sS ≠ sA) (Ge : a0 ≠ sC) (Hd : sT ≠ sC) (He : sL ≠ sC) (Hv : sC ≠ sA) (Gh : a0 ≠ sT) (Gi : a0 ≠ sL) (G6 : a0 ≠ sA) (H0 : a1 ≠ sC) (Hs : a1 ≠ sL) (Hr : a1 ≠ sT) (Gz : a1 ≠ sS) (Gu : a0 ≠ a1) (Mm : a3 ≠ sC) (Mn : a3 ≠ sL) (Mo : a3 ≠ sT) (Mp : a3 ≠ sS) (J4 : a0 ≠ a3) (Hw : sL ≠ sA) (Hx : sT ≠ sA) (J5 : a1 ≠ sA) (M5 : a3 ≠ sA) (HS : 0 ≤ sz.toInt) (HS2 : sz.toInt ≤ 1000) (HC : nC.toInt ≤ 100) (HT : 0 ≤ tsz.toInt) (HT2 : tsz.toInt ≤ 1000) (HN : nT.toInt ≤ 100) (G0 : n0 ≤ a0) (Hg : n0 ≤ sS) (Hj : n0 ≤ sT) (Hk : n0 ≤ sL) (Hh : n0 ≤ sC) (J7 : n0 ≤ sA) :
    MetFree l y4 (head1 (Jvm.Cond.code y4 Gn 8 none :: ws) Qap1) (fun a U => a = #[(.ref a0), (.ref a1), (.int 0), (.ref a3), (.int 0), (.int p5)] ∧ Z.Warmed39 U.vm ∧ U.heap = h0) (fun _ _ _ _ _ => True) (fun _ U o U' => ∃ v L, o = .returned v ∧ own_Q (Rap1 (fap1_0 p5 sz rng tsz ful nC nT l0 r0 t0)) (Kap1 Z p5 sz rng tsz ful nC nT l0 r0 t0 a0 a1 a3 sS sT sL sC sA h0 n0 (fap1_0 p5 sz rng tsz ful nC nT l0 r0 t0)) v U'.heap L ∧ FrameEnd U o U' L Qap1.cells Qap1.slots) := by
  refine MetFree.of_bodySF (plainFor_of_name own_pn2) hisR ?_
  intro p e s m args below meth c s₁ Bd hml0 hP hK
  obtain ⟨rfl, hZ, hh⟩ := hP
  have hml : c.maxLocals = 8 := hml0
  have e0 : s₁.heap = h0 := by rw [← hh, Bd.state]; rfl
  exact own_pre (fun t k => castTop (ef_ap1 m a0 a1 a3 p5) k) (gap1_0 hw p5 sz rng tsz ful nC nT l0 r0 t0 a0 a1 a3 sS sT sL sC sA Gd Hb Hc Ha Hu Ge Hd He Hv Gh Gi G6 H0 Hs Hr Gz Gu Mm Mn Mo Mp J4 Hw Hx J5 M5 HS HS2 HC HT HT2 HN Bd hml hZ G0 Hg Hj Hk Hh J7 s₁ (Stand.of_body Bd) e0 SZ0 (Fr.nil n0) (Keep.refl _ _) Ga Gk Hm Hq Gg Gb Gr Gw Gc Gq Hf Gt H6 Gx Gy Gv Gp Hn Gm)
theorem own_pu4a (p3 sz rng tsz ful nC nT l0 l1 l2 l3 : Int32) : fpu4a_0 p3 sz rng tsz ful nC nT l0 l1 l2 l3 = (sz + 1, if fht4a_0 l0 l1 l2 l3 = 0 then tsz else tsz + 1) := by
  simp only [fpu4a_0, fpu4a_44, fpu4a_115, fpu4a_125]
  split <;> split <;> first | rfl | (split <;> rfl) | simp_all
theorem own_pub4a {p3 sz rng tsz ful nC nT l0 l1 l2 l3 : Int32} (h1 : 0 ≤ sz.toInt) (h2 : sz.toInt ≤ 1000) (h3 : 0 ≤ tsz.toInt) (h4 : tsz.toInt ≤ 1000) : 0 ≤ (fpu4a_0 p3 sz rng tsz ful nC nT l0 l1 l2 l3).1.toInt ∧ 0 ≤ (fpu4a_0 p3 sz rng tsz ful nC nT l0 l1 l2 l3).2.toInt := by
  rw [own_pu4a]
  have a := c_iadd sz 1; have a' := c_iadd tsz 1; have r := rng32 (sz + 1); have r' := rng32 (tsz + 1)
  rw [show (1 : Int32).toInt = 1 from rfl] at a a'
  refine ⟨by show 0 ≤ (sz + 1).toInt; omega, ?_⟩
  show 0 ≤ (if _ then tsz else tsz + 1).toInt; split <;> omega
abbrev Qap4 : Room := { frames := 3, cells := 0, slots := 0, locals := 71 }
/-! body 12, ap4 -/
def Rap4 (t : Int32 × Int32 × Int32 × Int32 × Int32 × Int32 × Int32 × Int32) : Option Value := none
def Kap4 (Z : State) (p5 sz rng tsz ful nC nT l0 l1 l2 l3 r0 r1 r2 r3 t0 t1 t2 t3 : Int32) (a0 a1 a3 sS sT sL sC sA : Addr) (h0 : Heap) (n0 : Nat) (t : Int32 × Int32 × Int32 × Int32 × Int32 × Int32 × Int32 × Int32) (h : Heap) (L : List Loc) : Prop := Fr n0 L ∧ Keep h0 h [a0, sS, sT, sL, sC, sA] ∧ Exa Z h a0 cS ∧ Fld Z h a0 cS "starts" "[I" (.ref sS) ∧ Fld Z h a0 cS "tailed" "[I" (.ref sT) ∧ Fld Z h a0 cS "tails" "[I" (.ref sL) ∧ Fld Z h a0 cS "countries" "[C" (.ref sC) ∧ Fld Z h a0 cS "width" "I" (.int 4) ∧ Fld Z h a0 cS "head" "I" (.int 2) ∧ Fld Z h a0 cS "after" "[I" (.ref sA) ∧ Fld Z h a0 cS "size" "I" (.int t.1) ∧ Fld Z h a0 cS "ranges" "I" (.int t.2.1) ∧ Fld Z h a0 cS "tailedSize" "I" (.int t.2.2.1) ∧ Fld Z h a0 cS "full" "Z" (.int t.2.2.2.1) ∧ own_Ar Z h sS .int (nC * (2 : Int32)) ∧ own_Ar Z h sT .int nT ∧ own_Ar Z h sL .int (nT * (2 : Int32)) ∧ own_Ar Z h sC .char nC ∧ own_Iv Z h sA (4 : Int32) [t.2.2.2.2.1, t.2.2.2.2.2.1, t.2.2.2.2.2.2.1, t.2.2.2.2.2.2.2]
def fap4_43 (p5 sz rng tsz ful nC nT l0 l1 l2 l3 r0 r1 r2 r3 t0 t1 t2 t3 J3 Ht : Int32) : Int32 × Int32 × Int32 × Int32 × Int32 × Int32 × Int32 × Int32 := (if (r3 + (1 : Int32)) = (0 : Int32) then (if (r2 + (1 : Int32)) = (0 : Int32) then (if (r1 + (1 : Int32)) = (0 : Int32) then (if (r0 + (1 : Int32)) = (0 : Int32) then (J3, (rng + (1 : Int32)), Ht, (1 : Int32), (r0 + (1 : Int32)), (r1 + (1 : Int32)), (r2 + (1 : Int32)), (r3 + (1 : Int32))) else (J3, (rng + (1 : Int32)), Ht, (0 : Int32), (r0 + (1 : Int32)), (r1 + (1 : Int32)), (r2 + (1 : Int32)), (r3 + (1 : Int32)))) else (J3, (rng + (1 : Int32)), Ht, (0 : Int32), r0, (r1 + (1 : Int32)), (r2 + (1 : Int32)), (r3 + (1 : Int32)))) else (J3, (rng + (1 : Int32)), Ht, (0 : Int32), r0, r1, (r2 + (1 : Int32)), (r3 + (1 : Int32)))) else (J3, (rng + (1 : Int32)), Ht, (0 : Int32), r0, r1, r2, (r3 + (1 : Int32))))
set_option maxRecDepth 65536 in
set_option maxHeartbeats 40000000 in
theorem gap4_43 (hw : HW aw Z) {h0 : Heap} {n0 : Nat} (p5 sz rng tsz ful nC nT l0 l1 l2 l3 r0 r1 r2 r3 t0 t1 t2 t3 : Int32) (a0 a1 a3 sS sT sL sC sA : Addr) (Gd : a0 ≠ sS) (Hb : sS ≠ sT) (Hc : sS ≠ sL) (Ha : sS ≠ sC) (Hu : sS ≠ sA) (Ge : a0 ≠ sC) (Hd : sT ≠ sC) (He : sL ≠ sC) (Hv : sC ≠ sA) (Gh : a0 ≠ sT) (Jb : sT ≠ sL) (Hx : sT ≠ sA) (Gi : a0 ≠ sL) (Hw : sL ≠ sA) (G6 : a0 ≠ sA) (H0 : a1 ≠ sC) (Hs : a1 ≠ sL) (Hr : a1 ≠ sT) (Gz : a1 ≠ sS) (Gu : a0 ≠ a1) (Mm : a3 ≠ sC) (Mn : a3 ≠ sL) (Mo : a3 ≠ sT) (Mp : a3 ≠ sS) (J4 : a0 ≠ a3) (J5 : a1 ≠ sA) (M5 : a3 ≠ sA) (HS : 0 ≤ sz.toInt) (HS2 : sz.toInt ≤ 1000) (HC : nC.toInt ≤ 100) (HT : 0 ≤ tsz.toInt) (HT2 : tsz.toInt ≤ 1000) (HN : nT.toInt ≤ 100) (J3 Ht : Int32)
    (Bd : BodyLoose p l y4 (head1 (Jvm.Cond.code y4 Gn 8 none :: ws) Qap4) Gn 8 none e s m #[(.ref a0), (.ref a1), (.int 0), (.ref a3), (.int 0), (.int p5)] below meth c s₁) (hml : c.maxLocals = 8) (hZ : Z.Warmed39 s.vm) (G0 : n0 ≤ a0) (Hg : n0 ≤ sS) (Hj : n0 ≤ sT) (Hk : n0 ≤ sL) (Hh : n0 ≤ sC) (J7 : n0 ≤ sA) (T0 : State) {locs : List Loc} (X0 : Stand p l e Qap4 s m #[(.ref a0), (.ref a1), (.int 0), (.ref a3), (.int 0), (.int p5)] below meth c T0 locs 0 0) {h : Heap} (e0 : T0.heap = h) (SZ0 : n0 ≤ h.size) (NF0 : Fr n0 locs) (KP0 : Keep h0 h [a0, sS, sT, sL, sC, sA]) (Ga : Exa Z h a0 cS) (Gp : own_Iv Z h a1 (4 : Int32) [l0, l1, l2, l3]) (Hn : own_Iv Z h a3 (4 : Int32) [r0, r1, r2, r3]) (Gm : own_Iv Z h sA (4 : Int32) [t0, t1, t2, t3]) (Gk : Fld Z h a0 cS "starts" "[I" (.ref sS)) (Hm : Fld Z h a0 cS "tailed" "[I" (.ref sT)) (Hq : Fld Z h a0 cS "tails" "[I" (.ref sL)) (Gg : Fld Z h a0 cS "countries" "[C" (.ref sC)) (Gb : Fld Z h a0 cS "width" "I" (.int 4)) (Gr : Fld Z h a0 cS "head" "I" (.int 2)) (Gw : Fld Z h a0 cS "after" "[I" (.ref sA)) (Gc : Fld Z h a0 cS "size" "I" (.int J3)) (Gq : Fld Z h a0 cS "ranges" "I" (.int rng)) (Hf : Fld Z h a0 cS "tailedSize" "I" (.int Ht)) (Gt : Fld Z h a0 cS "full" "Z" (.int ful)) (H6 : own_Ar Z h sS .int (nC * (2 : Int32))) (Gx : own_Ar Z h sT .int nT) (Gy : own_Ar Z h sL .int (nT * (2 : Int32))) (Gv : own_Ar Z h sC .char nC) :
    own_Go p e below s Qap4.cells Qap4.slots (Rap4 (fap4_43 p5 sz rng tsz ful nC nT l0 l1 l2 l3 r0 r1 r2 r3 t0 t1 t2 t3 J3 Ht)) (Kap4 Z p5 sz rng tsz ful nC nT l0 l1 l2 l3 r0 r1 r2 r3 t0 t1 t2 t3 a0 a1 a3 sS sT sL sC sA h0 n0 (fap4_43 p5 sz rng tsz ful nC nT l0 l1 l2 l3 r0 r1 r2 r3 t0 t1 t2 t3 J3 Ht)) (T0.setTop (mkF m 43 #[rv a0, rv a1, iv 0, rv a3, iv 0, iv p5, uu, uu] [])) := by
  have hx := Bd.exec
  have hby := Bd.bytes
  have hown : s.vm.findClass cS = some m.cls := findClass_of_methodNamed Bd.named
  have hnm := (name_of_methodNamed Bd.named Bd.method).1
  unfold fap4_43
  refine op T0 (mkF m 47 #[rv a0, rv a1, iv 0, rv a3, iv 0, iv p5, uu, uu] [(.ref a0), (.int 0), (.ref a3)]) (fun _ k => XS.aloadN X0.here hx rfl (hb hby d12_43) rfl rfl (XS.iload X0.here hx rfl (hb hby d12_44) rfl (XS.aloadN X0.here hx rfl (hb hby d12_46) rfl rfl k))) ?_
  obtain ⟨T1, X1, e1, st'⟩ := getF X0 hx hZ hown (host := "") (Or.inl (ow hw 63 rfl)) Via.refl e0 Gw (g := (mkF m 47 #[rv a0, rv a1, iv 0, rv a3, iv 0, iv p5, uu, uu] [(.ref a0), (.int 0), (.ref a3)])) rfl rfl (hb hby d12_47)
  refine op T1 (mkF m 52 #[rv a0, rv a1, iv 0, rv a3, iv 0, iv p5, uu, uu] [(.ref a0), (.int 0), (.ref sA), (.int 0), (.ref a3)]) (fun _ k => st' _ (XS.iconst X1.here hx rfl (hb hby d12_50) (XS.aloadN X1.here hx rfl (hb hby d12_51) rfl rfl k))) ?_
  obtain ⟨T2, X2, e2, st'⟩ := getF X1 hx hZ hown (host := "") (Or.inl (ow hw 55 rfl)) Via.refl e1 Gb (g := (mkF m 52 #[rv a0, rv a1, iv 0, rv a3, iv 0, iv p5, uu, uu] [(.ref a0), (.int 0), (.ref sA), (.int 0), (.ref a3)])) rfl rfl (hb hby d12_52)
  refine op T2 (mkF m 55 #[rv a0, rv a1, iv 0, rv a3, iv 0, iv p5, uu, uu] [(.int 4), (.int 0), (.ref sA), (.int 0), (.ref a3)]) (fun _ k => st' _ k) ?_
  obtain ⟨ks3, As3⟩ := id Hn
  obtain ⟨kd3, Ad3⟩ := id Gm
  obtain ⟨T3, h3, L3, X3, e3, NF3, KPq3, B3, st'⟩ := cpA X2 hx hZ hown (ow hw 97 rfl) (ow hw 100 rfl) (ow hw 98 rfl) (ow hw 99 rfl) e2 As3 Ad3 (Or.inl ⟨rfl, rfl⟩) (sp := (0 : Int32)) (dp := (0 : Int32)) (nn := (4 : Int32)) (by decide) (by decide) (by decide) (by decide) (by decide) rfl (Nat.le_of_ble_eq_true rfl) NF0 J7 (g := (mkF m 55 #[rv a0, rv a1, iv 0, rv a3, iv 0, iv p5, uu, uu] [(.int 4), (.int 0), (.ref sA), (.int 0), (.ref a3)])) rfl (by rw [hml]; rfl) rfl (hb hby d12_55) (by decide) (W := 0) (by show 2 * 0 + _ ≤ _; exact Nat.le_of_eq rfl) (by decide)
  have f4 : own_Iv Z h3 sA (4 : Int32) [r0, r1, r2, r3] := ⟨_, B3⟩
  have SZ3 : n0 ≤ h3.size := Nat.le_trans SZ0 KPq3.1
  have KP3 : Keep h0 h3 [a0, sS, sT, sL, sC, sA] := KP0.trans KPq3 (allS (Or.inl (List.mem_of_getElem? (i := 5) rfl)) all0)
  have f5 := Ga.keep KPq3
  have f6 := Gp.keep KPq3 (ninS J5 nin0)
  have f7 := Hn.keep KPq3 (ninS M5 nin0)
  have f8 := Gk.keep KPq3 (ninS G6 nin0)
  have f9 := Hm.keep KPq3 (ninS G6 nin0)
  have f10 := Hq.keep KPq3 (ninS G6 nin0)
  have f11 := Gg.keep KPq3 (ninS G6 nin0)
  have f12 := Gb.keep KPq3 (ninS G6 nin0)
  have f13 := Gr.keep KPq3 (ninS G6 nin0)
  have f14 := Gw.keep KPq3 (ninS G6 nin0)
  have f15 := Gc.keep KPq3 (ninS G6 nin0)
  have f16 := Gq.keep KPq3 (ninS G6 nin0)
  have f17 := Hf.keep KPq3 (ninS G6 nin0)
  have f18 := Gt.keep KPq3 (ninS G6 nin0)
  have f19 := H6.keep KPq3 (ninS Hu nin0)
  have f20 := Gx.keep KPq3 (ninS Hx nin0)
  have f21 := Gy.keep KPq3 (ninS Hw nin0)
  have f22 := Gv.keep KPq3 (ninS Hv nin0)
  refine op T3 (mkF m 62 #[rv a0, rv a1, iv 0, rv a3, iv 0, iv p5, iv 1, uu] [(.ref a0)]) (fun _ k => st' _ (XS.iconst X3.here hx rfl (hb hby d12_58) (XS.istore X3.here hx rfl (hb hby d12_59) rfl (l' := #[rv a0, rv a1, iv 0, rv a3, iv 0, iv p5, iv 1, uu]) rfl (XS.aloadN X3.here hx rfl (hb hby d12_61) rfl rfl k)))) ?_
  obtain ⟨T23, X23, e23, st'⟩ := getF X3 hx hZ hown (host := "") (Or.inl (ow hw 55 rfl)) Via.refl e3 f12 (g := (mkF m 62 #[rv a0, rv a1, iv 0, rv a3, iv 0, iv p5, iv 1, uu] [(.ref a0)])) rfl rfl (hb hby d12_62)
  refine op T23 (mkF m 71 #[rv a0, rv a1, iv 0, rv a3, iv 0, iv p5, iv 1, iv 3] [(.int 3)]) (fun _ k => st' _ (XS.iconst X23.here hx rfl (hb hby d12_65) (XS.isub X23.here hx rfl (hb hby d12_66) rfl (XS.istore X23.here hx rfl (hb hby d12_67) rfl (l' := #[rv a0, rv a1, iv 0, rv a3, iv 0, iv p5, iv 1, iv 3]) rfl (XS.iload X23.here hx rfl (hb hby d12_69) rfl k))))) ?_
  have hd24 : ¬ ((3 : Int32) < (0 : Int32)) := by decide
  refine op T23 (mkF m 76 #[rv a0, rv a1, iv 0, rv a3, iv 0, iv p5, iv 1, iv 3] [(.int 1)]) (fun _ k => XS.ifNo X23.here hx rfl (hb hby d12_71) rfl ((if0 _ _).trans (flt hd24).1) (XS.iload X23.here hx rfl (hb hby d12_74) rfl k)) ?_
  have hd25 : ¬ ((1 : Int32) = (0 : Int32)) := by decide
  refine op T23 (mkF m 80 #[rv a0, rv a1, iv 0, rv a3, iv 0, iv p5, iv 1, iv 3] [(.ref a0)]) (fun _ k => XS.ifNo X23.here hx rfl (hb hby d12_76) rfl ((if0 _ _).trans (feq hd25).1) (XS.aloadN X23.here hx rfl (hb hby d12_79) rfl rfl k)) ?_
  obtain ⟨T26, X26, e26, st'⟩ := getF X23 hx hZ hown (host := "") (Or.inl (ow hw 63 rfl)) Via.refl e23 f14 (g := (mkF m 80 #[rv a0, rv a1, iv 0, rv a3, iv 0, iv p5, iv 1, iv 3] [(.ref a0)])) rfl rfl (hb hby d12_80)
  refine op T26 (mkF m 86 #[rv a0, rv a1, iv 0, rv a3, iv 0, iv p5, iv 1, iv 3] [(.int 3), (.ref sA), (.int 3), (.ref sA)]) (fun _ k => st' _ (XS.iload X26.here hx rfl (hb hby d12_83) rfl (XT.dup2 X26.here hx rfl (hb hby d12_85) rfl rfl rfl k))) ?_
  obtain ⟨k27, cl27, Ar27, q27, S27, N27, H27, G27⟩ := id f4
  have hin27 : ¬ ((3 : Int32) < 0 ∨ cl27.slots.size ≤ ((3 : Int32)).toNatClampNeg) := inb_of S27 ⟨by decide, by decide⟩
  refine op T26 (mkF m 87 #[rv a0, rv a1, iv 0, rv a3, iv 0, iv p5, iv 1, iv 3] [(.int r3), (.int 3), (.ref sA)]) (fun t k => X26.iaload hx (j := (3 : Int32)) (v := (.int r3)) (by rw [e26]; exact Ar27.1) (State.isArrayOf_alike hZ.alike Ar27.2.1) Ar27.2.2 hin27 (H27.at hin27 rfl) (g := (mkF m 86 #[rv a0, rv a1, iv 0, rv a3, iv 0, iv p5, iv 1, iv 3] [(.int 3), (.ref sA), (.int 3), (.ref sA)])) rfl rfl (hb hby d12_86) t k) ?_
  refine op T26 (mkF m 89 #[rv a0, rv a1, iv 0, rv a3, iv 0, iv p5, iv 1, iv 3] [(.int (r3 + (1 : Int32))), (.int 3), (.ref sA)]) (fun _ k => XS.iconst X26.here hx rfl (hb hby d12_87) (XS.iadd X26.here hx rfl (hb hby d12_88) rfl k)) ?_
  obtain ⟨k28, cl28, Ar28, q28, S28, N28, H28, G28⟩ := id f4
  have hin28 : ¬ ((3 : Int32) < 0 ∨ cl28.slots.size ≤ ((3 : Int32)).toNatClampNeg) := inb_of S28 ⟨by decide, by decide⟩
  obtain ⟨T28, h28, X28, e28, W28, st'⟩ := stI X26 hx hZ e26 Ar28 (j := (3 : Int32)) hin28 (g := (mkF m 89 #[rv a0, rv a1, iv 0, rv a3, iv 0, iv p5, iv 1, iv 3] [(.int (r3 + (1 : Int32))), (.int 3), (.ref sA)])) rfl rfl (hb hby d12_89)
  have f29 : own_Iv Z h28 sA (4 : Int32) [r0, r1, r2, (r3 + (1 : Int32))] := ⟨_, Arv.set Ar28 q28 S28 N28 H28 G28 rfl W28 3 rfl (Nat.le_of_ble_eq_true rfl)⟩
  have f30 := f5.wr W28
  have f31 := f6.other W28 J5
  have f32 := f7.other W28 M5
  have f33 := f8.other W28 (Or.inl G6)
  have f34 := f9.other W28 (Or.inl G6)
  have f35 := f10.other W28 (Or.inl G6)
  have f36 := f11.other W28 (Or.inl G6)
  have f37 := f12.other W28 (Or.inl G6)
  have f38 := f13.other W28 (Or.inl G6)
  have f39 := f14.other W28 (Or.inl G6)
  have f40 := f15.other W28 (Or.inl G6)
  have f41 := f16.other W28 (Or.inl G6)
  have f42 := f17.other W28 (Or.inl G6)
  have f43 := f18.other W28 (Or.inl G6)
  have f44 := f19.other W28 Hu
  have f45 := f20.other W28 Hx
  have f46 := f21.other W28 Hw
  have f47 := f22.other W28 Hv
  have NF28 := Fr.snoc X28 NF3 J7
  have SZ28 : n0 ≤ h28.size := (Nat.le_trans SZ3 (Keep.of_wr W28).1)
  have KP28 : Keep h0 h28 [a0, sS, sT, sL, sC, sA] := KP3.wr W28 (Or.inl (List.mem_of_getElem? (i := 5) rfl))
  refine op T28 (mkF m 91 #[rv a0, rv a1, iv 0, rv a3, iv 0, iv p5, iv 1, iv 3] [(.ref a0)]) (fun _ k => st' _ (XS.aloadN X28.here hx rfl (hb hby d12_90) rfl rfl k)) ?_
  obtain ⟨T48, X48, e48, st'⟩ := getF X28 hx hZ hown (host := "") (Or.inl (ow hw 63 rfl)) Via.refl e28 f39 (g := (mkF m 91 #[rv a0, rv a1, iv 0, rv a3, iv 0, iv p5, iv 1, iv 3] [(.ref a0)])) rfl rfl (hb hby d12_91)
  refine op T48 (mkF m 96 #[rv a0, rv a1, iv 0, rv a3, iv 0, iv p5, iv 1, iv 3] [(.int 3), (.ref sA)]) (fun _ k => st' _ (XS.iload X48.here hx rfl (hb hby d12_94) rfl k)) ?_
  obtain ⟨k49, cl49, Ar49, q49, S49, N49, H49, G49⟩ := id f29
  have hin49 : ¬ ((3 : Int32) < 0 ∨ cl49.slots.size ≤ ((3 : Int32)).toNatClampNeg) := inb_of S49 ⟨by decide, by decide⟩
  refine op T48 (mkF m 97 #[rv a0, rv a1, iv 0, rv a3, iv 0, iv p5, iv 1, iv 3] [(.int (r3 + (1 : Int32)))]) (fun t k => X48.iaload hx (j := (3 : Int32)) (v := (.int (r3 + (1 : Int32)))) (by rw [e48]; exact Ar49.1) (State.isArrayOf_alike hZ.alike Ar49.2.1) Ar49.2.2 hin49 (H49.at hin49 rfl) (g := (mkF m 96 #[rv a0, rv a1, iv 0, rv a3, iv 0, iv p5, iv 1, iv 3] [(.int 3), (.ref sA)])) rfl rfl (hb hby d12_96) t k) ?_
  refine own_iteT Rap4 (Kap4 Z p5 sz rng tsz ful nC nT l0 l1 l2 l3 r0 r1 r2 r3 t0 t1 t2 t3 a0 a1 a3 sS sT sL sC sA h0 n0) (fun hc97 => ?_) (fun hc97 => ?_)
  · skip
    refine op T48 (mkF m 71 #[rv a0, rv a1, iv 0, rv a3, iv 0, iv p5, iv 1, iv 2] [(.int 2)]) (fun _ k => XS.ifNo X48.here hx rfl (hb hby d12_97) rfl ((if0 _ _).trans (teq hc97).2) (XS.iconst X48.here hx rfl (hb hby d12_100) (XS.goto X48.here hx rfl (pc0 := 101) (pc' := 105) rfl (hb hby d12_101) (by decide) (by decide) (XS.istore X48.here hx rfl (hb hby d12_105) rfl (l' := #[rv a0, rv a1, iv 0, rv a3, iv 0, iv p5, iv 1, iv 3]) rfl (XS.iinc X48.here hx rfl (hb hby d12_107) rfl (l' := #[rv a0, rv a1, iv 0, rv a3, iv 0, iv p5, iv 1, iv 2]) rfl (XS.goto X48.here hx rfl (pc0 := 110) (pc' := 69) rfl (hb hby d12_110) (by decide) (by decide) (XS.iload X48.here hx rfl (hb hby d12_69) rfl k))))))) ?_
    have hd50 : ¬ ((2 : Int32) < (0 : Int32)) := by decide
    refine op T48 (mkF m 76 #[rv a0, rv a1, iv 0, rv a3, iv 0, iv p5, iv 1, iv 2] [(.int 1)]) (fun _ k => XS.ifNo X48.here hx rfl (hb hby d12_71) rfl ((if0 _ _).trans (flt hd50).1) (XS.iload X48.here hx rfl (hb hby d12_74) rfl k)) ?_
    have hd51 : ¬ ((1 : Int32) = (0 : Int32)) := by decide
    refine op T48 (mkF m 80 #[rv a0, rv a1, iv 0, rv a3, iv 0, iv p5, iv 1, iv 2] [(.ref a0)]) (fun _ k => XS.ifNo X48.here hx rfl (hb hby d12_76) rfl ((if0 _ _).trans (feq hd51).1) (XS.aloadN X48.here hx rfl (hb hby d12_79) rfl rfl k)) ?_
    obtain ⟨T52, X52, e52, st'⟩ := getF X48 hx hZ hown (host := "") (Or.inl (ow hw 63 rfl)) Via.refl e48 f39 (g := (mkF m 80 #[rv a0, rv a1, iv 0, rv a3, iv 0, iv p5, iv 1, iv 2] [(.ref a0)])) rfl rfl (hb hby d12_80)
    refine op T52 (mkF m 86 #[rv a0, rv a1, iv 0, rv a3, iv 0, iv p5, iv 1, iv 2] [(.int 2), (.ref sA), (.int 2), (.ref sA)]) (fun _ k => st' _ (XS.iload X52.here hx rfl (hb hby d12_83) rfl (XT.dup2 X52.here hx rfl (hb hby d12_85) rfl rfl rfl k))) ?_
    obtain ⟨k53, cl53, Ar53, q53, S53, N53, H53, G53⟩ := id f29
    have hin53 : ¬ ((2 : Int32) < 0 ∨ cl53.slots.size ≤ ((2 : Int32)).toNatClampNeg) := inb_of S53 ⟨by decide, by decide⟩
    refine op T52 (mkF m 87 #[rv a0, rv a1, iv 0, rv a3, iv 0, iv p5, iv 1, iv 2] [(.int r2), (.int 2), (.ref sA)]) (fun t k => X52.iaload hx (j := (2 : Int32)) (v := (.int r2)) (by rw [e52]; exact Ar53.1) (State.isArrayOf_alike hZ.alike Ar53.2.1) Ar53.2.2 hin53 (H53.at hin53 rfl) (g := (mkF m 86 #[rv a0, rv a1, iv 0, rv a3, iv 0, iv p5, iv 1, iv 2] [(.int 2), (.ref sA), (.int 2), (.ref sA)])) rfl rfl (hb hby d12_86) t k) ?_
    refine op T52 (mkF m 89 #[rv a0, rv a1, iv 0, rv a3, iv 0, iv p5, iv 1, iv 2] [(.int (r2 + (1 : Int32))), (.int 2), (.ref sA)]) (fun _ k => XS.iconst X52.here hx rfl (hb hby d12_87) (XS.iadd X52.here hx rfl (hb hby d12_88) rfl k)) ?_
    obtain ⟨k54, cl54, Ar54, q54, S54, N54, H54, G54⟩ := id f29
    have hin54 : ¬ ((2 : Int32) < 0 ∨ cl54.slots.size ≤ ((2 : Int32)).toNatClampNeg) := inb_of S54 ⟨by decide, by decide⟩
    obtain ⟨T54, h54, X54, e54, W54, st'⟩ := stI X52 hx hZ e52 Ar54 (j := (2 : Int32)) hin54 (g := (mkF m 89 #[rv a0, rv a1, iv 0, rv a3, iv 0, iv p5, iv 1, iv 2] [(.int (r2 + (1 : Int32))), (.int 2), (.ref sA)])) rfl rfl (hb hby d12_89)
    have f55 : own_Iv Z h54 sA (4 : Int32) [r0, r1, (r2 + (1 : Int32)), (r3 + (1 : Int32))] := ⟨_, Arv.set Ar54 q54 S54 N54 H54 G54 rfl W54 2 rfl (Nat.le_of_ble_eq_true rfl)⟩
    have f56 := f30.wr W54
    have f57 := f31.other W54 J5
    have f58 := f32.other W54 M5
    have f59 := f33.other W54 (Or.inl G6)
    have f60 := f34.other W54 (Or.inl G6)
    have f61 := f35.other W54 (Or.inl G6)
    have f62 := f36.other W54 (Or.inl G6)
    have f63 := f37.other W54 (Or.inl G6)
    have f64 := f38.other W54 (Or.inl G6)
    have f65 := f39.other W54 (Or.inl G6)
    have f66 := f40.other W54 (Or.inl G6)
    have f67 := f41.other W54 (Or.inl G6)
    have f68 := f42.other W54 (Or.inl G6)
    have f69 := f43.other W54 (Or.inl G6)
    have f70 := f44.other W54 Hu
    have f71 := f45.other W54 Hx
    have f72 := f46.other W54 Hw
    have f73 := f47.other W54 Hv
    have NF54 := Fr.snoc X54 NF28 J7
    have SZ54 : n0 ≤ h54.size := (Nat.le_trans SZ28 (Keep.of_wr W54).1)
    have KP54 : Keep h0 h54 [a0, sS, sT, sL, sC, sA] := KP28.wr W54 (Or.inl (List.mem_of_getElem? (i := 5) rfl))
    refine op T54 (mkF m 91 #[rv a0, rv a1, iv 0, rv a3, iv 0, iv p5, iv 1, iv 2] [(.ref a0)]) (fun _ k => st' _ (XS.aloadN X54.here hx rfl (hb hby d12_90) rfl rfl k)) ?_
    obtain ⟨T74, X74, e74, st'⟩ := getF X54 hx hZ hown (host := "") (Or.inl (ow hw 63 rfl)) Via.refl e54 f65 (g := (mkF m 91 #[rv a0, rv a1, iv 0, rv a3, iv 0, iv p5, iv 1, iv 2] [(.ref a0)])) rfl rfl (hb hby d12_91)
    refine op T74 (mkF m 96 #[rv a0, rv a1, iv 0, rv a3, iv 0, iv p5, iv 1, iv 2] [(.int 2), (.ref sA)]) (fun _ k => st' _ (XS.iload X74.here hx rfl (hb hby d12_94) rfl k)) ?_
    obtain ⟨k75, cl75, Ar75, q75, S75, N75, H75, G75⟩ := id f55
    have hin75 : ¬ ((2 : Int32) < 0 ∨ cl75.slots.size ≤ ((2 : Int32)).toNatClampNeg) := inb_of S75 ⟨by decide, by decide⟩
    refine op T74 (mkF m 97 #[rv a0, rv a1, iv 0, rv a3, iv 0, iv p5, iv 1, iv 2] [(.int (r2 + (1 : Int32)))]) (fun t k => X74.iaload hx (j := (2 : Int32)) (v := (.int (r2 + (1 : Int32)))) (by rw [e74]; exact Ar75.1) (State.isArrayOf_alike hZ.alike Ar75.2.1) Ar75.2.2 hin75 (H75.at hin75 rfl) (g := (mkF m 96 #[rv a0, rv a1, iv 0, rv a3, iv 0, iv p5, iv 1, iv 2] [(.int 2), (.ref sA)])) rfl rfl (hb hby d12_96) t k) ?_
    refine own_iteT Rap4 (Kap4 Z p5 sz rng tsz ful nC nT l0 l1 l2 l3 r0 r1 r2 r3 t0 t1 t2 t3 a0 a1 a3 sS sT sL sC sA h0 n0) (fun hc97 => ?_) (fun hc97 => ?_)
    · skip
      refine op T74 (mkF m 71 #[rv a0, rv a1, iv 0, rv a3, iv 0, iv p5, iv 1, iv 1] [(.int 1)]) (fun _ k => XS.ifNo X74.here hx rfl (hb hby d12_97) rfl ((if0 _ _).trans (teq hc97).2) (XS.iconst X74.here hx rfl (hb hby d12_100) (XS.goto X74.here hx rfl (pc0 := 101) (pc' := 105) rfl (hb hby d12_101) (by decide) (by decide) (XS.istore X74.here hx rfl (hb hby d12_105) rfl (l' := #[rv a0, rv a1, iv 0, rv a3, iv 0, iv p5, iv 1, iv 2]) rfl (XS.iinc X74.here hx rfl (hb hby d12_107) rfl (l' := #[rv a0, rv a1, iv 0, rv a3, iv 0, iv p5, iv 1, iv 1]) rfl (XS.goto X74.here hx rfl (pc0 := 110) (pc' := 69) rfl (hb hby d12_110) (by decide) (by decide) (XS.iload X74.here hx rfl (hb hby d12_69) rfl k))))))) ?_
      have hd76 : ¬ ((1 : Int32) < (0 : Int32)) := by decide
      refine op T74 (mkF m 76 #[rv a0, rv a1, iv 0, rv a3, iv 0, iv p5, iv 1, iv 1] [(.int 1)]) (fun _ k => XS.ifNo X74.here hx rfl (hb hby d12_71) rfl ((if0 _ _).trans (flt hd76).1) (XS.iload X74.here hx rfl (hb hby d12_74) rfl k)) ?_
      have hd77 : ¬ ((1 : Int32) = (0 : Int32)) := by decide
      refine op T74 (mkF m 80 #[rv a0, rv a1, iv 0, rv a3, iv 0, iv p5, iv 1, iv 1] [(.ref a0)]) (fun _ k => XS.ifNo X74.here hx rfl (hb hby d12_76) rfl ((if0 _ _).trans (feq hd77).1) (XS.aloadN X74.here hx rfl (hb hby d12_79) rfl rfl k)) ?_
      obtain ⟨T78, X78, e78, st'⟩ := getF X74 hx hZ hown (host := "") (Or.inl (ow hw 63 rfl)) Via.refl e74 f65 (g := (mkF m 80 #[rv a0, rv a1, iv 0, rv a3, iv 0, iv p5, iv 1, iv 1] [(.ref a0)])) rfl rfl (hb hby d12_80)
      refine op T78 (mkF m 86 #[rv a0, rv a1, iv 0, rv a3, iv 0, iv p5, iv 1, iv 1] [(.int 1), (.ref sA), (.int 1), (.ref sA)]) (fun _ k => st' _ (XS.iload X78.here hx rfl (hb hby d12_83) rfl (XT.dup2 X78.here hx rfl (hb hby d12_85) rfl rfl rfl k))) ?_
      obtain ⟨k79, cl79, Ar79, q79, S79, N79, H79, G79⟩ := id f55
      have hin79 : ¬ ((1 : Int32) < 0 ∨ cl79.slots.size ≤ ((1 : Int32)).toNatClampNeg) := inb_of S79 ⟨by decide, by decide⟩
      refine op T78 (mkF m 87 #[rv a0, rv a1, iv 0, rv a3, iv 0, iv p5, iv 1, iv 1] [(.int r1), (.int 1), (.ref sA)]) (fun t k => X78.iaload hx (j := (1 : Int32)) (v := (.int r1)) (by rw [e78]; exact Ar79.1) (State.isArrayOf_alike hZ.alike Ar79.2.1) Ar79.2.2 hin79 (H79.at hin79 rfl) (g := (mkF m 86 #[rv a0, rv a1, iv 0, rv a3, iv 0, iv p5, iv 1, iv 1] [(.int 1), (.ref sA), (.int 1), (.ref sA)])) rfl rfl (hb hby d12_86) t k) ?_
      refine op T78 (mkF m 89 #[rv a0, rv a1, iv 0, rv a3, iv 0, iv p5, iv 1, iv 1] [(.int (r1 + (1 : Int32))), (.int 1), (.ref sA)]) (fun _ k => XS.iconst X78.here hx rfl (hb hby d12_87) (XS.iadd X78.here hx rfl (hb hby d12_88) rfl k)) ?_
      obtain ⟨k80, cl80, Ar80, q80, S80, N80, H80, G80⟩ := id f55
      have hin80 : ¬ ((1 : Int32) < 0 ∨ cl80.slots.size ≤ ((1 : Int32)).toNatClampNeg) := inb_of S80 ⟨by decide, by decide⟩
      obtain ⟨T80, h80, X80, e80, W80, st'⟩ := stI X78 hx hZ e78 Ar80 (j := (1 : Int32)) hin80 (g := (mkF m 89 #[rv a0, rv a1, iv 0, rv a3, iv 0, iv p5, iv 1, iv 1] [(.int (r1 + (1 : Int32))), (.int 1), (.ref sA)])) rfl rfl (hb hby d12_89)
      have f81 : own_Iv Z h80 sA (4 : Int32) [r0, (r1 + (1 : Int32)), (r2 + (1 : Int32)), (r3 + (1 : Int32))] := ⟨_, Arv.set Ar80 q80 S80 N80 H80 G80 rfl W80 1 rfl (Nat.le_of_ble_eq_true rfl)⟩
      have f82 := f56.wr W80
      have f83 := f57.other W80 J5
      have f84 := f58.other W80 M5
      have f85 := f59.other W80 (Or.inl G6)
      have f86 := f60.other W80 (Or.inl G6)
      have f87 := f61.other W80 (Or.inl G6)
      have f88 := f62.other W80 (Or.inl G6)
      have f89 := f63.other W80 (Or.inl G6)
      have f90 := f64.other W80 (Or.inl G6)
      have f91 := f65.other W80 (Or.inl G6)
      have f92 := f66.other W80 (Or.inl G6)
      have f93 := f67.other W80 (Or.inl G6)
      have f94 := f68.other W80 (Or.inl G6)
      have f95 := f69.other W80 (Or.inl G6)
      have f96 := f70.other W80 Hu
      have f97 := f71.other W80 Hx
      have f98 := f72.other W80 Hw
      have f99 := f73.other W80 Hv
      have NF80 := Fr.snoc X80 NF54 J7
      have SZ80 : n0 ≤ h80.size := (Nat.le_trans SZ54 (Keep.of_wr W80).1)
      have KP80 : Keep h0 h80 [a0, sS, sT, sL, sC, sA] := KP54.wr W80 (Or.inl (List.mem_of_getElem? (i := 5) rfl))
      refine op T80 (mkF m 91 #[rv a0, rv a1, iv 0, rv a3, iv 0, iv p5, iv 1, iv 1] [(.ref a0)]) (fun _ k => st' _ (XS.aloadN X80.here hx rfl (hb hby d12_90) rfl rfl k)) ?_
      obtain ⟨T100, X100, e100, st'⟩ := getF X80 hx hZ hown (host := "") (Or.inl (ow hw 63 rfl)) Via.refl e80 f91 (g := (mkF m 91 #[rv a0, rv a1, iv 0, rv a3, iv 0, iv p5, iv 1, iv 1] [(.ref a0)])) rfl rfl (hb hby d12_91)
      refine op T100 (mkF m 96 #[rv a0, rv a1, iv 0, rv a3, iv 0, iv p5, iv 1, iv 1] [(.int 1), (.ref sA)]) (fun _ k => st' _ (XS.iload X100.here hx rfl (hb hby d12_94) rfl k)) ?_
      obtain ⟨k101, cl101, Ar101, q101, S101, N101, H101, G101⟩ := id f81
      have hin101 : ¬ ((1 : Int32) < 0 ∨ cl101.slots.size ≤ ((1 : Int32)).toNatClampNeg) := inb_of S101 ⟨by decide, by decide⟩
      refine op T100 (mkF m 97 #[rv a0, rv a1, iv 0, rv a3, iv 0, iv p5, iv 1, iv 1] [(.int (r1 + (1 : Int32)))]) (fun t k => X100.iaload hx (j := (1 : Int32)) (v := (.int (r1 + (1 : Int32)))) (by rw [e100]; exact Ar101.1) (State.isArrayOf_alike hZ.alike Ar101.2.1) Ar101.2.2 hin101 (H101.at hin101 rfl) (g := (mkF m 96 #[rv a0, rv a1, iv 0, rv a3, iv 0, iv p5, iv 1, iv 1] [(.int 1), (.ref sA)])) rfl rfl (hb hby d12_96) t k) ?_
      refine own_iteT Rap4 (Kap4 Z p5 sz rng tsz ful nC nT l0 l1 l2 l3 r0 r1 r2 r3 t0 t1 t2 t3 a0 a1 a3 sS sT sL sC sA h0 n0) (fun hc97 => ?_) (fun hc97 => ?_)
      · skip
        refine op T100 (mkF m 71 #[rv a0, rv a1, iv 0, rv a3, iv 0, iv p5, iv 1, iv 0] [(.int 0)]) (fun _ k => XS.ifNo X100.here hx rfl (hb hby d12_97) rfl ((if0 _ _).trans (teq hc97).2) (XS.iconst X100.here hx rfl (hb hby d12_100) (XS.goto X100.here hx rfl (pc0 := 101) (pc' := 105) rfl (hb hby d12_101) (by decide) (by decide) (XS.istore X100.here hx rfl (hb hby d12_105) rfl (l' := #[rv a0, rv a1, iv 0, rv a3, iv 0, iv p5, iv 1, iv 1]) rfl (XS.iinc X100.here hx rfl (hb hby d12_107) rfl (l' := #[rv a0, rv a1, iv 0, rv a3, iv 0, iv p5, iv 1, iv 0]) rfl (XS.goto X100.here hx rfl (pc0 := 110) (pc' := 69) rfl (hb hby d12_110) (by decide) (by decide) (XS.iload X100.here hx rfl (hb hby d12_69) rfl k))))))) ?_
        have hd102 : ¬ ((0 : Int32) < (0 : Int32)) := by decide
        refine op T100 (mkF m 76 #[rv a0, rv a1, iv 0, rv a3, iv 0, iv p5, iv 1, iv 0] [(.int 1)]) (fun _ k => XS.ifNo X100.here hx rfl (hb hby d12_71) rfl ((if0 _ _).trans (flt hd102).1) (XS.iload X100.here hx rfl (hb hby d12_74) rfl k)) ?_
        have hd103 : ¬ ((1 : Int32) = (0 : Int32)) := by decide
        refine op T100 (mkF m 80 #[rv a0, rv a1, iv 0, rv a3, iv 0, iv p5, iv 1, iv 0] [(.ref a0)]) (fun _ k => XS.ifNo X100.here hx rfl (hb hby d12_76) rfl ((if0 _ _).trans (feq hd103).1) (XS.aloadN X100.here hx rfl (hb hby d12_79) rfl rfl k)) ?_
        obtain ⟨T104, X104, e104, st'⟩ := getF X100 hx hZ hown (host := "") (Or.inl (ow hw 63 rfl)) Via.refl e100 f91 (g := (mkF m 80 #[rv a0, rv a1, iv 0, rv a3, iv 0, iv p5, iv 1, iv 0] [(.ref a0)])) rfl rfl (hb hby d12_80)
        refine op T104 (mkF m 86 #[rv a0, rv a1, iv 0, rv a3, iv 0, iv p5, iv 1, iv 0] [(.int 0), (.ref sA), (.int 0), (.ref sA)]) (fun _ k => st' _ (XS.iload X104.here hx rfl (hb hby d12_83) rfl (XT.dup2 X104.here hx rfl (hb hby d12_85) rfl rfl rfl k))) ?_
        obtain ⟨k105, cl105, Ar105, q105, S105, N105, H105, G105⟩ := id f81
        have hin105 : ¬ ((0 : Int32) < 0 ∨ cl105.slots.size ≤ ((0 : Int32)).toNatClampNeg) := inb_of S105 ⟨by decide, by decide⟩
        refine op T104 (mkF m 87 #[rv a0, rv a1, iv 0, rv a3, iv 0, iv p5, iv 1, iv 0] [(.int r0), (.int 0), (.ref sA)]) (fun t k => X104.iaload hx (j := (0 : Int32)) (v := (.int r0)) (by rw [e104]; exact Ar105.1) (State.isArrayOf_alike hZ.alike Ar105.2.1) Ar105.2.2 hin105 (H105.at hin105 rfl) (g := (mkF m 86 #[rv a0, rv a1, iv 0, rv a3, iv 0, iv p5, iv 1, iv 0] [(.int 0), (.ref sA), (.int 0), (.ref sA)])) rfl rfl (hb hby d12_86) t k) ?_
        refine op T104 (mkF m 89 #[rv a0, rv a1, iv 0, rv a3, iv 0, iv p5, iv 1, iv 0] [(.int (r0 + (1 : Int32))), (.int 0), (.ref sA)]) (fun _ k => XS.iconst X104.here hx rfl (hb hby d12_87) (XS.iadd X104.here hx rfl (hb hby d12_88) rfl k)) ?_
        obtain ⟨k106, cl106, Ar106, q106, S106, N106, H106, G106⟩ := id f81
        have hin106 : ¬ ((0 : Int32) < 0 ∨ cl106.slots.size ≤ ((0 : Int32)).toNatClampNeg) := inb_of S106 ⟨by decide, by decide⟩
        obtain ⟨T106, h106, X106, e106, W106, st'⟩ := stI X104 hx hZ e104 Ar106 (j := (0 : Int32)) hin106 (g := (mkF m 89 #[rv a0, rv a1, iv 0, rv a3, iv 0, iv p5, iv 1, iv 0] [(.int (r0 + (1 : Int32))), (.int 0), (.ref sA)])) rfl rfl (hb hby d12_89)
        have f107 : own_Iv Z h106 sA (4 : Int32) [(r0 + (1 : Int32)), (r1 + (1 : Int32)), (r2 + (1 : Int32)), (r3 + (1 : Int32))] := ⟨_, Arv.set Ar106 q106 S106 N106 H106 G106 rfl W106 0 rfl (Nat.le_of_ble_eq_true rfl)⟩
        have f108 := f82.wr W106
        have f109 := f83.other W106 J5
        have f110 := f84.other W106 M5
        have f111 := f85.other W106 (Or.inl G6)
        have f112 := f86.other W106 (Or.inl G6)
        have f113 := f87.other W106 (Or.inl G6)
        have f114 := f88.other W106 (Or.inl G6)
        have f115 := f89.other W106 (Or.inl G6)
        have f116 := f90.other W106 (Or.inl G6)
        have f117 := f91.other W106 (Or.inl G6)
        have f118 := f92.other W106 (Or.inl G6)
        have f119 := f93.other W106 (Or.inl G6)
        have f120 := f94.other W106 (Or.inl G6)
        have f121 := f95.other W106 (Or.inl G6)
        have f122 := f96.other W106 Hu
        have f123 := f97.other W106 Hx
        have f124 := f98.other W106 Hw
        have f125 := f99.other W106 Hv
        have NF106 := Fr.snoc X106 NF80 J7
        have SZ106 : n0 ≤ h106.size := (Nat.le_trans SZ80 (Keep.of_wr W106).1)
        have KP106 : Keep h0 h106 [a0, sS, sT, sL, sC, sA] := KP80.wr W106 (Or.inl (List.mem_of_getElem? (i := 5) rfl))
        refine op T106 (mkF m 91 #[rv a0, rv a1, iv 0, rv a3, iv 0, iv p5, iv 1, iv 0] [(.ref a0)]) (fun _ k => st' _ (XS.aloadN X106.here hx rfl (hb hby d12_90) rfl rfl k)) ?_
        obtain ⟨T126, X126, e126, st'⟩ := getF X106 hx hZ hown (host := "") (Or.inl (ow hw 63 rfl)) Via.refl e106 f117 (g := (mkF m 91 #[rv a0, rv a1, iv 0, rv a3, iv 0, iv p5, iv 1, iv 0] [(.ref a0)])) rfl rfl (hb hby d12_91)
        refine op T126 (mkF m 96 #[rv a0, rv a1, iv 0, rv a3, iv 0, iv p5, iv 1, iv 0] [(.int 0), (.ref sA)]) (fun _ k => st' _ (XS.iload X126.here hx rfl (hb hby d12_94) rfl k)) ?_
        obtain ⟨k127, cl127, Ar127, q127, S127, N127, H127, G127⟩ := id f107
        have hin127 : ¬ ((0 : Int32) < 0 ∨ cl127.slots.size ≤ ((0 : Int32)).toNatClampNeg) := inb_of S127 ⟨by decide, by decide⟩
        refine op T126 (mkF m 97 #[rv a0, rv a1, iv 0, rv a3, iv 0, iv p5, iv 1, iv 0] [(.int (r0 + (1 : Int32)))]) (fun t k => X126.iaload hx (j := (0 : Int32)) (v := (.int (r0 + (1 : Int32)))) (by rw [e126]; exact Ar127.1) (State.isArrayOf_alike hZ.alike Ar127.2.1) Ar127.2.2 hin127 (H127.at hin127 rfl) (g := (mkF m 96 #[rv a0, rv a1, iv 0, rv a3, iv 0, iv p5, iv 1, iv 0] [(.int 0), (.ref sA)])) rfl rfl (hb hby d12_96) t k) ?_
        refine own_iteT Rap4 (Kap4 Z p5 sz rng tsz ful nC nT l0 l1 l2 l3 r0 r1 r2 r3 t0 t1 t2 t3 a0 a1 a3 sS sT sL sC sA h0 n0) (fun hc97 => ?_) (fun hc97 => ?_)
        · skip
          refine op T126 (mkF m 71 #[rv a0, rv a1, iv 0, rv a3, iv 0, iv p5, iv 1, iv (-1 : Int32)] [(.int (-1 : Int32))]) (fun _ k => XS.ifNo X126.here hx rfl (hb hby d12_97) rfl ((if0 _ _).trans (teq hc97).2) (XS.iconst X126.here hx rfl (hb hby d12_100) (XS.goto X126.here hx rfl (pc0 := 101) (pc' := 105) rfl (hb hby d12_101) (by decide) (by decide) (XS.istore X126.here hx rfl (hb hby d12_105) rfl (l' := #[rv a0, rv a1, iv 0, rv a3, iv 0, iv p5, iv 1, iv 0]) rfl (XS.iinc X126.here hx rfl (hb hby d12_107) rfl (l' := #[rv a0, rv a1, iv 0, rv a3, iv 0, iv p5, iv 1, iv (-1 : Int32)]) rfl (XS.goto X126.here hx rfl (pc0 := 110) (pc' := 69) rfl (hb hby d12_110) (by decide) (by decide) (XS.iload X126.here hx rfl (hb hby d12_69) rfl k))))))) ?_
          have hd128 : (-1 : Int32) < (0 : Int32) := by decide
          refine op T126 (mkF m 116 #[rv a0, rv a1, iv 0, rv a3, iv 0, iv p5, iv 1, iv (-1 : Int32)] [(.int 1), (.ref a0)]) (fun _ k => XS.ifYes X126.here hx rfl (pc0 := 71) (pc' := 113) rfl (hb hby d12_71) rfl ((if0 _ _).trans (tlt hd128).1) (by decide) (by decide) (XS.aloadN X126.here hx rfl (hb hby d12_113) rfl rfl (XS.iload X126.here hx rfl (hb hby d12_114) rfl k))) ?_
          obtain ⟨T129, h129, X129, e129, W129, st'⟩ := putFN X126 hx hZ hown (ow hw 101 rfl) Via.refl e126 f121 f108 (Or.inl (ow hw 102 rfl)) (ow hw 41 rfl) (ty := .boolean) (v' := (.int 1)) (by decide) rfl (by decide) (g := (mkF m 116 #[rv a0, rv a1, iv 0, rv a3, iv 0, iv p5, iv 1, iv (-1 : Int32)] [(.int 1), (.ref a0)])) rfl rfl (hb hby d12_116)
          have f130 := f121.same W129
          have f131 := f108.wr W129
          have f132 := f109.other W129 (Ne.symm Gu)
          have f133 := f110.other W129 (Ne.symm J4)
          have f134 := f111.other W129 (Or.inr (sn20 hw))
          have f135 := f112.other W129 (Or.inr (sn21 hw))
          have f136 := f113.other W129 (Or.inr (sn22 hw))
          have f137 := f114.other W129 (Or.inr (sn23 hw))
          have f138 := f115.other W129 (Or.inr (sn24 hw))
          have f139 := f116.other W129 (Or.inr (sn25 hw))
          have f140 := f117.other W129 (Or.inr (sn26 hw))
          have f141 := f118.other W129 (Or.inr (sn27 hw))
          have f142 := f119.other W129 (Or.inr (sn28 hw))
          have f143 := f120.other W129 (Or.inr (sn29 hw))
          have f144 := f122.other W129 (Ne.symm Gd)
          have f145 := f123.other W129 (Ne.symm Gh)
          have f146 := f124.other W129 (Ne.symm Gi)
          have f147 := f125.other W129 (Ne.symm Ge)
          have f148 := f107.other W129 (Ne.symm G6)
          have NF129 := Fr.snoc X129 NF106 G0
          have SZ129 : n0 ≤ h129.size := (Nat.le_trans SZ106 (Keep.of_wr W129).1)
          have KP129 : Keep h0 h129 [a0, sS, sT, sL, sC, sA] := KP106.wr W129 (Or.inl (List.mem_of_getElem? (i := 0) rfl))
          refine op T129 (mkF m 121 #[rv a0, rv a1, iv 0, rv a3, iv 0, iv p5, iv 1, iv (-1 : Int32)] [(.ref a0), (.ref a0)]) (fun _ k => st' _ (XS.aloadN X129.here hx rfl (hb hby d12_119) rfl rfl (XS.dup X129.here hx rfl (hb hby d12_120) rfl rfl k))) ?_
          obtain ⟨T149, X149, e149, st'⟩ := getF X129 hx hZ hown (host := "") (Or.inl (ow hw 80 rfl)) Via.refl e129 f142 (g := (mkF m 121 #[rv a0, rv a1, iv 0, rv a3, iv 0, iv p5, iv 1, iv (-1 : Int32)] [(.ref a0), (.ref a0)])) rfl rfl (hb hby d12_121)
          refine op T149 (mkF m 126 #[rv a0, rv a1, iv 0, rv a3, iv 0, iv p5, iv 1, iv (-1 : Int32)] [(.int (rng + (1 : Int32))), (.ref a0)]) (fun _ k => st' _ (XS.iconst X149.here hx rfl (hb hby d12_124) (XS.iadd X149.here hx rfl (hb hby d12_125) rfl k))) ?_
          obtain ⟨T150, h150, X150, e150, W150, st'⟩ := putF X149 hx hZ hown (host := "") (Or.inl (ow hw 80 rfl)) Via.refl e149 f142 f131 (Or.inl (ow hw 81 rfl)) (ow hw 41 rfl) (ty := .int) (by decide) rfl rfl (g := (mkF m 126 #[rv a0, rv a1, iv 0, rv a3, iv 0, iv p5, iv 1, iv (-1 : Int32)] [(.int (rng + (1 : Int32))), (.ref a0)])) rfl rfl (hb hby d12_126)
          have f151 := f142.same W150
          have f152 := f131.wr W150
          have f153 := f132.other W150 (Ne.symm Gu)
          have f154 := f133.other W150 (Ne.symm J4)
          have f155 := f134.other W150 (Or.inr (sn30 hw))
          have f156 := f135.other W150 (Or.inr (sn31 hw))
          have f157 := f136.other W150 (Or.inr (sn32 hw))
          have f158 := f137.other W150 (Or.inr (sn33 hw))
          have f159 := f138.other W150 (Or.inr (sn34 hw))
          have f160 := f139.other W150 (Or.inr (sn35 hw))
          have f161 := f140.other W150 (Or.inr (sn36 hw))
          have f162 := f141.other W150 (Or.inr (sn37 hw))
          have f163 := f143.other W150 (Or.inr (sn38 hw))
          have f164 := f130.other W150 (Or.inr (sn39 hw))
          have f165 := f144.other W150 (Ne.symm Gd)
          have f166 := f145.other W150 (Ne.symm Gh)
          have f167 := f146.other W150 (Ne.symm Gi)
          have f168 := f147.other W150 (Ne.symm Ge)
          have f169 := f148.other W150 (Ne.symm G6)
          have NF150 := Fr.snoc X150 NF129 G0
          have SZ150 : n0 ≤ h150.size := (Nat.le_trans SZ129 (Keep.of_wr W150).1)
          have KP150 : Keep h0 h150 [a0, sS, sT, sL, sC, sA] := KP129.wr W150 (Or.inl (List.mem_of_getElem? (i := 0) rfl))
          refine op T150 (mkF m 129 #[rv a0, rv a1, iv 0, rv a3, iv 0, iv p5, iv 1, iv (-1 : Int32)] []) (fun _ k => st' _ k) ?_
          exact own_retV X150 hx Bd.notSynchronized Bd.returns (hb hby d12_129) (by rw [e150]; exact ⟨NF150, KP150, f152, f155, f156, f157, f158, f159, f160, f161, f162, f151, f163, f164, f165, f166, f167, f168, f169⟩) (by decide) (by decide)
        · skip
          refine op T126 (mkF m 71 #[rv a0, rv a1, iv 0, rv a3, iv 0, iv p5, iv 0, iv (-1 : Int32)] [(.int (-1 : Int32))]) (fun _ k => XS.ifYes X126.here hx rfl (pc0 := 97) (pc' := 104) rfl (hb hby d12_97) rfl ((if0 _ _).trans (feq hc97).2) (by decide) (by decide) (XS.iconst X126.here hx rfl (hb hby d12_104) (XS.istore X126.here hx rfl (hb hby d12_105) rfl (l' := #[rv a0, rv a1, iv 0, rv a3, iv 0, iv p5, iv 0, iv 0]) rfl (XS.iinc X126.here hx rfl (hb hby d12_107) rfl (l' := #[rv a0, rv a1, iv 0, rv a3, iv 0, iv p5, iv 0, iv (-1 : Int32)]) rfl (XS.goto X126.here hx rfl (pc0 := 110) (pc' := 69) rfl (hb hby d12_110) (by decide) (by decide) (XS.iload X126.here hx rfl (hb hby d12_69) rfl k)))))) ?_
          have hd170 : (-1 : Int32) < (0 : Int32) := by decide
          refine op T126 (mkF m 116 #[rv a0, rv a1, iv 0, rv a3, iv 0, iv p5, iv 0, iv (-1 : Int32)] [(.int 0), (.ref a0)]) (fun _ k => XS.ifYes X126.here hx rfl (pc0 := 71) (pc' := 113) rfl (hb hby d12_71) rfl ((if0 _ _).trans (tlt hd170).1) (by decide) (by decide) (XS.aloadN X126.here hx rfl (hb hby d12_113) rfl rfl (XS.iload X126.here hx rfl (hb hby d12_114) rfl k))) ?_
          obtain ⟨T171, h171, X171, e171, W171, st'⟩ := putFN X126 hx hZ hown (ow hw 101 rfl) Via.refl e126 f121 f108 (Or.inl (ow hw 102 rfl)) (ow hw 41 rfl) (ty := .boolean) (v' := (.int 0)) (by decide) rfl (by decide) (g := (mkF m 116 #[rv a0, rv a1, iv 0, rv a3, iv 0, iv p5, iv 0, iv (-1 : Int32)] [(.int 0), (.ref a0)])) rfl rfl (hb hby d12_116)
          have f172 := f121.same W171
          have f173 := f108.wr W171
          have f174 := f109.other W171 (Ne.symm Gu)
          have f175 := f110.other W171 (Ne.symm J4)
          have f176 := f111.other W171 (Or.inr (sn20 hw))
          have f177 := f112.other W171 (Or.inr (sn21 hw))
          have f178 := f113.other W171 (Or.inr (sn22 hw))
          have f179 := f114.other W171 (Or.inr (sn23 hw))
          have f180 := f115.other W171 (Or.inr (sn24 hw))
          have f181 := f116.other W171 (Or.inr (sn25 hw))
          have f182 := f117.other W171 (Or.inr (sn26 hw))
          have f183 := f118.other W171 (Or.inr (sn27 hw))
          have f184 := f119.other W171 (Or.inr (sn28 hw))
          have f185 := f120.other W171 (Or.inr (sn29 hw))
          have f186 := f122.other W171 (Ne.symm Gd)
          have f187 := f123.other W171 (Ne.symm Gh)
          have f188 := f124.other W171 (Ne.symm Gi)
          have f189 := f125.other W171 (Ne.symm Ge)
          have f190 := f107.other W171 (Ne.symm G6)
          have NF171 := Fr.snoc X171 NF106 G0
          have SZ171 : n0 ≤ h171.size := (Nat.le_trans SZ106 (Keep.of_wr W171).1)
          have KP171 : Keep h0 h171 [a0, sS, sT, sL, sC, sA] := KP106.wr W171 (Or.inl (List.mem_of_getElem? (i := 0) rfl))
          refine op T171 (mkF m 121 #[rv a0, rv a1, iv 0, rv a3, iv 0, iv p5, iv 0, iv (-1 : Int32)] [(.ref a0), (.ref a0)]) (fun _ k => st' _ (XS.aloadN X171.here hx rfl (hb hby d12_119) rfl rfl (XS.dup X171.here hx rfl (hb hby d12_120) rfl rfl k))) ?_
          obtain ⟨T191, X191, e191, st'⟩ := getF X171 hx hZ hown (host := "") (Or.inl (ow hw 80 rfl)) Via.refl e171 f184 (g := (mkF m 121 #[rv a0, rv a1, iv 0, rv a3, iv 0, iv p5, iv 0, iv (-1 : Int32)] [(.ref a0), (.ref a0)])) rfl rfl (hb hby d12_121)
          refine op T191 (mkF m 126 #[rv a0, rv a1, iv 0, rv a3, iv 0, iv p5, iv 0, iv (-1 : Int32)] [(.int (rng + (1 : Int32))), (.ref a0)]) (fun _ k => st' _ (XS.iconst X191.here hx rfl (hb hby d12_124) (XS.iadd X191.here hx rfl (hb hby d12_125) rfl k))) ?_
          obtain ⟨T192, h192, X192, e192, W192, st'⟩ := putF X191 hx hZ hown (host := "") (Or.inl (ow hw 80 rfl)) Via.refl e191 f184 f173 (Or.inl (ow hw 81 rfl)) (ow hw 41 rfl) (ty := .int) (by decide) rfl rfl (g := (mkF m 126 #[rv a0, rv a1, iv 0, rv a3, iv 0, iv p5, iv 0, iv (-1 : Int32)] [(.int (rng + (1 : Int32))), (.ref a0)])) rfl rfl (hb hby d12_126)
          have f193 := f184.same W192
          have f194 := f173.wr W192
          have f195 := f174.other W192 (Ne.symm Gu)
          have f196 := f175.other W192 (Ne.symm J4)
          have f197 := f176.other W192 (Or.inr (sn30 hw))
          have f198 := f177.other W192 (Or.inr (sn31 hw))
          have f199 := f178.other W192 (Or.inr (sn32 hw))
          have f200 := f179.other W192 (Or.inr (sn33 hw))
          have f201 := f180.other W192 (Or.inr (sn34 hw))
          have f202 := f181.other W192 (Or.inr (sn35 hw))
          have f203 := f182.other W192 (Or.inr (sn36 hw))
          have f204 := f183.other W192 (Or.inr (sn37 hw))
          have f205 := f185.other W192 (Or.inr (sn38 hw))
          have f206 := f172.other W192 (Or.inr (sn39 hw))
          have f207 := f186.other W192 (Ne.symm Gd)
          have f208 := f187.other W192 (Ne.symm Gh)
          have f209 := f188.other W192 (Ne.symm Gi)
          have f210 := f189.other W192 (Ne.symm Ge)
          have f211 := f190.other W192 (Ne.symm G6)
          have NF192 := Fr.snoc X192 NF171 G0
          have SZ192 : n0 ≤ h192.size := (Nat.le_trans SZ171 (Keep.of_wr W192).1)
          have KP192 : Keep h0 h192 [a0, sS, sT, sL, sC, sA] := KP171.wr W192 (Or.inl (List.mem_of_getElem? (i := 0) rfl))
          refine op T192 (mkF m 129 #[rv a0, rv a1, iv 0, rv a3, iv 0, iv p5, iv 0, iv (-1 : Int32)] []) (fun _ k => st' _ k) ?_
          exact own_retV X192 hx Bd.notSynchronized Bd.returns (hb hby d12_129) (by rw [e192]; exact ⟨NF192, KP192, f194, f197, f198, f199, f200, f201, f202, f203, f204, f193, f205, f206, f207, f208, f209, f210, f211⟩) (by decide) (by decide)
      · skip
        refine op T100 (mkF m 71 #[rv a0, rv a1, iv 0, rv a3, iv 0, iv p5, iv 0, iv 0] [(.int 0)]) (fun _ k => XS.ifYes X100.here hx rfl (pc0 := 97) (pc' := 104) rfl (hb hby d12_97) rfl ((if0 _ _).trans (feq hc97).2) (by decide) (by decide) (XS.iconst X100.here hx rfl (hb hby d12_104) (XS.istore X100.here hx rfl (hb hby d12_105) rfl (l' := #[rv a0, rv a1, iv 0, rv a3, iv 0, iv p5, iv 0, iv 1]) rfl (XS.iinc X100.here hx rfl (hb hby d12_107) rfl (l' := #[rv a0, rv a1, iv 0, rv a3, iv 0, iv p5, iv 0, iv 0]) rfl (XS.goto X100.here hx rfl (pc0 := 110) (pc' := 69) rfl (hb hby d12_110) (by decide) (by decide) (XS.iload X100.here hx rfl (hb hby d12_69) rfl k)))))) ?_
        have hd212 : ¬ ((0 : Int32) < (0 : Int32)) := by decide
        refine op T100 (mkF m 76 #[rv a0, rv a1, iv 0, rv a3, iv 0, iv p5, iv 0, iv 0] [(.int 0)]) (fun _ k => XS.ifNo X100.here hx rfl (hb hby d12_71) rfl ((if0 _ _).trans (flt hd212).1) (XS.iload X100.here hx rfl (hb hby d12_74) rfl k)) ?_
        have hd213 : (0 : Int32) = (0 : Int32) := by decide
        refine op T100 (mkF m 116 #[rv a0, rv a1, iv 0, rv a3, iv 0, iv p5, iv 0, iv 0] [(.int 0), (.ref a0)]) (fun _ k => XS.ifYes X100.here hx rfl (pc0 := 76) (pc' := 113) rfl (hb hby d12_76) rfl ((if0 _ _).trans (teq hd213).1) (by decide) (by decide) (XS.aloadN X100.here hx rfl (hb hby d12_113) rfl rfl (XS.iload X100.here hx rfl (hb hby d12_114) rfl k))) ?_
        obtain ⟨T214, h214, X214, e214, W214, st'⟩ := putFN X100 hx hZ hown (ow hw 101 rfl) Via.refl e100 f95 f82 (Or.inl (ow hw 102 rfl)) (ow hw 41 rfl) (ty := .boolean) (v' := (.int 0)) (by decide) rfl (by decide) (g := (mkF m 116 #[rv a0, rv a1, iv 0, rv a3, iv 0, iv p5, iv 0, iv 0] [(.int 0), (.ref a0)])) rfl rfl (hb hby d12_116)
        have f215 := f95.same W214
        have f216 := f82.wr W214
        have f217 := f83.other W214 (Ne.symm Gu)
        have f218 := f84.other W214 (Ne.symm J4)
        have f219 := f85.other W214 (Or.inr (sn20 hw))
        have f220 := f86.other W214 (Or.inr (sn21 hw))
        have f221 := f87.other W214 (Or.inr (sn22 hw))
        have f222 := f88.other W214 (Or.inr (sn23 hw))
        have f223 := f89.other W214 (Or.inr (sn24 hw))
        have f224 := f90.other W214 (Or.inr (sn25 hw))
        have f225 := f91.other W214 (Or.inr (sn26 hw))
        have f226 := f92.other W214 (Or.inr (sn27 hw))
        have f227 := f93.other W214 (Or.inr (sn28 hw))
        have f228 := f94.other W214 (Or.inr (sn29 hw))
        have f229 := f96.other W214 (Ne.symm Gd)
        have f230 := f97.other W214 (Ne.symm Gh)
        have f231 := f98.other W214 (Ne.symm Gi)
        have f232 := f99.other W214 (Ne.symm Ge)
        have f233 := f81.other W214 (Ne.symm G6)
        have NF214 := Fr.snoc X214 NF80 G0
        have SZ214 : n0 ≤ h214.size := (Nat.le_trans SZ80 (Keep.of_wr W214).1)
        have KP214 : Keep h0 h214 [a0, sS, sT, sL, sC, sA] := KP80.wr W214 (Or.inl (List.mem_of_getElem? (i := 0) rfl))
        refine op T214 (mkF m 121 #[rv a0, rv a1, iv 0, rv a3, iv 0, iv p5, iv 0, iv 0] [(.ref a0), (.ref a0)]) (fun _ k => st' _ (XS.aloadN X214.here hx rfl (hb hby d12_119) rfl rfl (XS.dup X214.here hx rfl (hb hby d12_120) rfl rfl k))) ?_
        obtain ⟨T234, X234, e234, st'⟩ := getF X214 hx hZ hown (host := "") (Or.inl (ow hw 80 rfl)) Via.refl e214 f227 (g := (mkF m 121 #[rv a0, rv a1, iv 0, rv a3, iv 0, iv p5, iv 0, iv 0] [(.ref a0), (.ref a0)])) rfl rfl (hb hby d12_121)
        refine op T234 (mkF m 126 #[rv a0, rv a1, iv 0, rv a3, iv 0, iv p5, iv 0, iv 0] [(.int (rng + (1 : Int32))), (.ref a0)]) (fun _ k => st' _ (XS.iconst X234.here hx rfl (hb hby d12_124) (XS.iadd X234.here hx rfl (hb hby d12_125) rfl k))) ?_
        obtain ⟨T235, h235, X235, e235, W235, st'⟩ := putF X234 hx hZ hown (host := "") (Or.inl (ow hw 80 rfl)) Via.refl e234 f227 f216 (Or.inl (ow hw 81 rfl)) (ow hw 41 rfl) (ty := .int) (by decide) rfl rfl (g := (mkF m 126 #[rv a0, rv a1, iv 0, rv a3, iv 0, iv p5, iv 0, iv 0] [(.int (rng + (1 : Int32))), (.ref a0)])) rfl rfl (hb hby d12_126)
        have f236 := f227.same W235
        have f237 := f216.wr W235
        have f238 := f217.other W235 (Ne.symm Gu)
        have f239 := f218.other W235 (Ne.symm J4)
        have f240 := f219.other W235 (Or.inr (sn30 hw))
        have f241 := f220.other W235 (Or.inr (sn31 hw))
        have f242 := f221.other W235 (Or.inr (sn32 hw))
        have f243 := f222.other W235 (Or.inr (sn33 hw))
        have f244 := f223.other W235 (Or.inr (sn34 hw))
        have f245 := f224.other W235 (Or.inr (sn35 hw))
        have f246 := f225.other W235 (Or.inr (sn36 hw))
        have f247 := f226.other W235 (Or.inr (sn37 hw))
        have f248 := f228.other W235 (Or.inr (sn38 hw))
        have f249 := f215.other W235 (Or.inr (sn39 hw))
        have f250 := f229.other W235 (Ne.symm Gd)
        have f251 := f230.other W235 (Ne.symm Gh)
        have f252 := f231.other W235 (Ne.symm Gi)
        have f253 := f232.other W235 (Ne.symm Ge)
        have f254 := f233.other W235 (Ne.symm G6)
        have NF235 := Fr.snoc X235 NF214 G0
        have SZ235 : n0 ≤ h235.size := (Nat.le_trans SZ214 (Keep.of_wr W235).1)
        have KP235 : Keep h0 h235 [a0, sS, sT, sL, sC, sA] := KP214.wr W235 (Or.inl (List.mem_of_getElem? (i := 0) rfl))
        refine op T235 (mkF m 129 #[rv a0, rv a1, iv 0, rv a3, iv 0, iv p5, iv 0, iv 0] []) (fun _ k => st' _ k) ?_
        exact own_retV X235 hx Bd.notSynchronized Bd.returns (hb hby d12_129) (by rw [e235]; exact ⟨NF235, KP235, f237, f240, f241, f242, f243, f244, f245, f246, f247, f236, f248, f249, f250, f251, f252, f253, f254⟩) (by decide) (by decide)
    · skip
      refine op T74 (mkF m 71 #[rv a0, rv a1, iv 0, rv a3, iv 0, iv p5, iv 0, iv 1] [(.int 1)]) (fun _ k => XS.ifYes X74.here hx rfl (pc0 := 97) (pc' := 104) rfl (hb hby d12_97) rfl ((if0 _ _).trans (feq hc97).2) (by decide) (by decide) (XS.iconst X74.here hx rfl (hb hby d12_104) (XS.istore X74.here hx rfl (hb hby d12_105) rfl (l' := #[rv a0, rv a1, iv 0, rv a3, iv 0, iv p5, iv 0, iv 2]) rfl (XS.iinc X74.here hx rfl (hb hby d12_107) rfl (l' := #[rv a0, rv a1, iv 0, rv a3, iv 0, iv p5, iv 0, iv 1]) rfl (XS.goto X74.here hx rfl (pc0 := 110) (pc' := 69) rfl (hb hby d12_110) (by decide) (by decide) (XS.iload X74.here hx rfl (hb hby d12_69) rfl k)))))) ?_
      have hd255 : ¬ ((1 : Int32) < (0 : Int32)) := by decide
      refine op T74 (mkF m 76 #[rv a0, rv a1, iv 0, rv a3, iv 0, iv p5, iv 0, iv 1] [(.int 0)]) (fun _ k => XS.ifNo X74.here hx rfl (hb hby d12_71) rfl ((if0 _ _).trans (flt hd255).1) (XS.iload X74.here hx rfl (hb hby d12_74) rfl k)) ?_
      have hd256 : (0 : Int32) = (0 : Int32) := by decide
      refine op T74 (mkF m 116 #[rv a0, rv a1, iv 0, rv a3, iv 0, iv p5, iv 0, iv 1] [(.int 0), (.ref a0)]) (fun _ k => XS.ifYes X74.here hx rfl (pc0 := 76) (pc' := 113) rfl (hb hby d12_76) rfl ((if0 _ _).trans (teq hd256).1) (by decide) (by decide) (XS.aloadN X74.here hx rfl (hb hby d12_113) rfl rfl (XS.iload X74.here hx rfl (hb hby d12_114) rfl k))) ?_
      obtain ⟨T257, h257, X257, e257, W257, st'⟩ := putFN X74 hx hZ hown (ow hw 101 rfl) Via.refl e74 f69 f56 (Or.inl (ow hw 102 rfl)) (ow hw 41 rfl) (ty := .boolean) (v' := (.int 0)) (by decide) rfl (by decide) (g := (mkF m 116 #[rv a0, rv a1, iv 0, rv a3, iv 0, iv p5, iv 0, iv 1] [(.int 0), (.ref a0)])) rfl rfl (hb hby d12_116)
      have f258 := f69.same W257
      have f259 := f56.wr W257
      have f260 := f57.other W257 (Ne.symm Gu)
      have f261 := f58.other W257 (Ne.symm J4)
      have f262 := f59.other W257 (Or.inr (sn20 hw))
      have f263 := f60.other W257 (Or.inr (sn21 hw))
      have f264 := f61.other W257 (Or.inr (sn22 hw))
      have f265 := f62.other W257 (Or.inr (sn23 hw))
      have f266 := f63.other W257 (Or.inr (sn24 hw))
      have f267 := f64.other W257 (Or.inr (sn25 hw))
      have f268 := f65.other W257 (Or.inr (sn26 hw))
      have f269 := f66.other W257 (Or.inr (sn27 hw))
      have f270 := f67.other W257 (Or.inr (sn28 hw))
      have f271 := f68.other W257 (Or.inr (sn29 hw))
      have f272 := f70.other W257 (Ne.symm Gd)
      have f273 := f71.other W257 (Ne.symm Gh)
      have f274 := f72.other W257 (Ne.symm Gi)
      have f275 := f73.other W257 (Ne.symm Ge)
      have f276 := f55.other W257 (Ne.symm G6)
      have NF257 := Fr.snoc X257 NF54 G0
      have SZ257 : n0 ≤ h257.size := (Nat.le_trans SZ54 (Keep.of_wr W257).1)
      have KP257 : Keep h0 h257 [a0, sS, sT, sL, sC, sA] := KP54.wr W257 (Or.inl (List.mem_of_getElem? (i := 0) rfl))
      refine op T257 (mkF m 121 #[rv a0, rv a1, iv 0, rv a3, iv 0, iv p5, iv 0, iv 1] [(.ref a0), (.ref a0)]) (fun _ k => st' _ (XS.aloadN X257.here hx rfl (hb hby d12_119) rfl rfl (XS.dup X257.here hx rfl (hb hby d12_120) rfl rfl k))) ?_
      obtain ⟨T277, X277, e277, st'⟩ := getF X257 hx hZ hown (host := "") (Or.inl (ow hw 80 rfl)) Via.refl e257 f270 (g := (mkF m 121 #[rv a0, rv a1, iv 0, rv a3, iv 0, iv p5, iv 0, iv 1] [(.ref a0), (.ref a0)])) rfl rfl (hb hby d12_121)
      refine op T277 (mkF m 126 #[rv a0, rv a1, iv 0, rv a3, iv 0, iv p5, iv 0, iv 1] [(.int (rng + (1 : Int32))), (.ref a0)]) (fun _ k => st' _ (XS.iconst X277.here hx rfl (hb hby d12_124) (XS.iadd X277.here hx rfl (hb hby d12_125) rfl k))) ?_
      obtain ⟨T278, h278, X278, e278, W278, st'⟩ := putF X277 hx hZ hown (host := "") (Or.inl (ow hw 80 rfl)) Via.refl e277 f270 f259 (Or.inl (ow hw 81 rfl)) (ow hw 41 rfl) (ty := .int) (by decide) rfl rfl (g := (mkF m 126 #[rv a0, rv a1, iv 0, rv a3, iv 0, iv p5, iv 0, iv 1] [(.int (rng + (1 : Int32))), (.ref a0)])) rfl rfl (hb hby d12_126)
      have f279 := f270.same W278
      have f280 := f259.wr W278
      have f281 := f260.other W278 (Ne.symm Gu)
      have f282 := f261.other W278 (Ne.symm J4)
      have f283 := f262.other W278 (Or.inr (sn30 hw))
      have f284 := f263.other W278 (Or.inr (sn31 hw))
      have f285 := f264.other W278 (Or.inr (sn32 hw))
      have f286 := f265.other W278 (Or.inr (sn33 hw))
      have f287 := f266.other W278 (Or.inr (sn34 hw))
      have f288 := f267.other W278 (Or.inr (sn35 hw))
      have f289 := f268.other W278 (Or.inr (sn36 hw))
      have f290 := f269.other W278 (Or.inr (sn37 hw))
      have f291 := f271.other W278 (Or.inr (sn38 hw))
      have f292 := f258.other W278 (Or.inr (sn39 hw))
      have f293 := f272.other W278 (Ne.symm Gd)
      have f294 := f273.other W278 (Ne.symm Gh)
      have f295 := f274.other W278 (Ne.symm Gi)
      have f296 := f275.other W278 (Ne.symm Ge)
      have f297 := f276.other W278 (Ne.symm G6)
      have NF278 := Fr.snoc X278 NF257 G0
      have SZ278 : n0 ≤ h278.size := (Nat.le_trans SZ257 (Keep.of_wr W278).1)
      have KP278 : Keep h0 h278 [a0, sS, sT, sL, sC, sA] := KP257.wr W278 (Or.inl (List.mem_of_getElem? (i := 0) rfl))
      refine op T278 (mkF m 129 #[rv a0, rv a1, iv 0, rv a3, iv 0, iv p5, iv 0, iv 1] []) (fun _ k => st' _ k) ?_
      exact own_retV X278 hx Bd.notSynchronized Bd.returns (hb hby d12_129) (by rw [e278]; exact ⟨NF278, KP278, f280, f283, f284, f285, f286, f287, f288, f289, f290, f279, f291, f292, f293, f294, f295, f296, f297⟩) (by decide) (by decide)
  · skip
    refine op T48 (mkF m 71 #[rv a0, rv a1, iv 0, rv a3, iv 0, iv p5, iv 0, iv 2] [(.int 2)]) (fun _ k => XS.ifYes X48.here hx rfl (pc0 := 97) (pc' := 104) rfl (hb hby d12_97) rfl ((if0 _ _).trans (feq hc97).2) (by decide) (by decide) (XS.iconst X48.here hx rfl (hb hby d12_104) (XS.istore X48.here hx rfl (hb hby d12_105) rfl (l' := #[rv a0, rv a1, iv 0, rv a3, iv 0, iv p5, iv 0, iv 3]) rfl (XS.iinc X48.here hx rfl (hb hby d12_107) rfl (l' := #[rv a0, rv a1, iv 0, rv a3, iv 0, iv p5, iv 0, iv 2]) rfl (XS.goto X48.here hx rfl (pc0 := 110) (pc' := 69) rfl (hb hby d12_110) (by decide) (by decide) (XS.iload X48.here hx rfl (hb hby d12_69) rfl k)))))) ?_
    have hd298 : ¬ ((2 : Int32) < (0 : Int32)) := by decide
    refine op T48 (mkF m 76 #[rv a0, rv a1, iv 0, rv a3, iv 0, iv p5, iv 0, iv 2] [(.int 0)]) (fun _ k => XS.ifNo X48.here hx rfl (hb hby d12_71) rfl ((if0 _ _).trans (flt hd298).1) (XS.iload X48.here hx rfl (hb hby d12_74) rfl k)) ?_
    have hd299 : (0 : Int32) = (0 : Int32) := by decide
    refine op T48 (mkF m 116 #[rv a0, rv a1, iv 0, rv a3, iv 0, iv p5, iv 0, iv 2] [(.int 0), (.ref a0)]) (fun _ k => XS.ifYes X48.here hx rfl (pc0 := 76) (pc' := 113) rfl (hb hby d12_76) rfl ((if0 _ _).trans (teq hd299).1) (by decide) (by decide) (XS.aloadN X48.here hx rfl (hb hby d12_113) rfl rfl (XS.iload X48.here hx rfl (hb hby d12_114) rfl k))) ?_
    obtain ⟨T300, h300, X300, e300, W300, st'⟩ := putFN X48 hx hZ hown (ow hw 101 rfl) Via.refl e48 f43 f30 (Or.inl (ow hw 102 rfl)) (ow hw 41 rfl) (ty := .boolean) (v' := (.int 0)) (by decide) rfl (by decide) (g := (mkF m 116 #[rv a0, rv a1, iv 0, rv a3, iv 0, iv p5, iv 0, iv 2] [(.int 0), (.ref a0)])) rfl rfl (hb hby d12_116)
    have f301 := f43.same W300
    have f302 := f30.wr W300
    have f303 := f31.other W300 (Ne.symm Gu)
    have f304 := f32.other W300 (Ne.symm J4)
    have f305 := f33.other W300 (Or.inr (sn20 hw))
    have f306 := f34.other W300 (Or.inr (sn21 hw))
    have f307 := f35.other W300 (Or.inr (sn22 hw))
    have f308 := f36.other W300 (Or.inr (sn23 hw))
    have f309 := f37.other W300 (Or.inr (sn24 hw))
    have f310 := f38.other W300 (Or.inr (sn25 hw))
    have f311 := f39.other W300 (Or.inr (sn26 hw))
    have f312 := f40.other W300 (Or.inr (sn27 hw))
    have f313 := f41.other W300 (Or.inr (sn28 hw))
    have f314 := f42.other W300 (Or.inr (sn29 hw))
    have f315 := f44.other W300 (Ne.symm Gd)
    have f316 := f45.other W300 (Ne.symm Gh)
    have f317 := f46.other W300 (Ne.symm Gi)
    have f318 := f47.other W300 (Ne.symm Ge)
    have f319 := f29.other W300 (Ne.symm G6)
    have NF300 := Fr.snoc X300 NF28 G0
    have SZ300 : n0 ≤ h300.size := (Nat.le_trans SZ28 (Keep.of_wr W300).1)
    have KP300 : Keep h0 h300 [a0, sS, sT, sL, sC, sA] := KP28.wr W300 (Or.inl (List.mem_of_getElem? (i := 0) rfl))
    refine op T300 (mkF m 121 #[rv a0, rv a1, iv 0, rv a3, iv 0, iv p5, iv 0, iv 2] [(.ref a0), (.ref a0)]) (fun _ k => st' _ (XS.aloadN X300.here hx rfl (hb hby d12_119) rfl rfl (XS.dup X300.here hx rfl (hb hby d12_120) rfl rfl k))) ?_
    obtain ⟨T320, X320, e320, st'⟩ := getF X300 hx hZ hown (host := "") (Or.inl (ow hw 80 rfl)) Via.refl e300 f313 (g := (mkF m 121 #[rv a0, rv a1, iv 0, rv a3, iv 0, iv p5, iv 0, iv 2] [(.ref a0), (.ref a0)])) rfl rfl (hb hby d12_121)
    refine op T320 (mkF m 126 #[rv a0, rv a1, iv 0, rv a3, iv 0, iv p5, iv 0, iv 2] [(.int (rng + (1 : Int32))), (.ref a0)]) (fun _ k => st' _ (XS.iconst X320.here hx rfl (hb hby d12_124) (XS.iadd X320.here hx rfl (hb hby d12_125) rfl k))) ?_
    obtain ⟨T321, h321, X321, e321, W321, st'⟩ := putF X320 hx hZ hown (host := "") (Or.inl (ow hw 80 rfl)) Via.refl e320 f313 f302 (Or.inl (ow hw 81 rfl)) (ow hw 41 rfl) (ty := .int) (by decide) rfl rfl (g := (mkF m 126 #[rv a0, rv a1, iv 0, rv a3, iv 0, iv p5, iv 0, iv 2] [(.int (rng + (1 : Int32))), (.ref a0)])) rfl rfl (hb hby d12_126)
    have f322 := f313.same W321
    have f323 := f302.wr W321
    have f324 := f303.other W321 (Ne.symm Gu)
    have f325 := f304.other W321 (Ne.symm J4)
    have f326 := f305.other W321 (Or.inr (sn30 hw))
    have f327 := f306.other W321 (Or.inr (sn31 hw))
    have f328 := f307.other W321 (Or.inr (sn32 hw))
    have f329 := f308.other W321 (Or.inr (sn33 hw))
    have f330 := f309.other W321 (Or.inr (sn34 hw))
    have f331 := f310.other W321 (Or.inr (sn35 hw))
    have f332 := f311.other W321 (Or.inr (sn36 hw))
    have f333 := f312.other W321 (Or.inr (sn37 hw))
    have f334 := f314.other W321 (Or.inr (sn38 hw))
    have f335 := f301.other W321 (Or.inr (sn39 hw))
    have f336 := f315.other W321 (Ne.symm Gd)
    have f337 := f316.other W321 (Ne.symm Gh)
    have f338 := f317.other W321 (Ne.symm Gi)
    have f339 := f318.other W321 (Ne.symm Ge)
    have f340 := f319.other W321 (Ne.symm G6)
    have NF321 := Fr.snoc X321 NF300 G0
    have SZ321 : n0 ≤ h321.size := (Nat.le_trans SZ300 (Keep.of_wr W321).1)
    have KP321 : Keep h0 h321 [a0, sS, sT, sL, sC, sA] := KP300.wr W321 (Or.inl (List.mem_of_getElem? (i := 0) rfl))
    refine op T321 (mkF m 129 #[rv a0, rv a1, iv 0, rv a3, iv 0, iv p5, iv 0, iv 2] []) (fun _ k => st' _ k) ?_
    exact own_retV X321 hx Bd.notSynchronized Bd.returns (hb hby d12_129) (by rw [e321]; exact ⟨NF321, KP321, f323, f326, f327, f328, f329, f330, f331, f332, f333, f322, f334, f335, f336, f337, f338, f339, f340⟩) (by decide) (by decide)
def fap4_35 (p5 sz rng tsz ful nC nT l0 l1 l2 l3 r0 r1 r2 r3 t0 t1 t2 t3 J3 Ht : Int32) : Int32 × Int32 × Int32 × Int32 × Int32 × Int32 × Int32 × Int32 := (fap4_43 p5 sz rng tsz ful nC nT l0 l1 l2 l3 r0 r1 r2 r3 t0 t1 t2 t3 (fpu4a_0 p5 J3 rng Ht ful nC nT l0 l1 l2 l3).1 (fpu4a_0 p5 J3 rng Ht ful nC nT l0 l1 l2 l3).2)
set_option maxRecDepth 65536 in
set_option maxHeartbeats 40000000 in
theorem gap4_35 (hw : HW aw Z) {h0 : Heap} {n0 : Nat} (p5 sz rng tsz ful nC nT l0 l1 l2 l3 r0 r1 r2 r3 t0 t1 t2 t3 : Int32) (a0 a1 a3 sS sT sL sC sA : Addr) (Gd : a0 ≠ sS) (Hb : sS ≠ sT) (Hc : sS ≠ sL) (Ha : sS ≠ sC) (Hu : sS ≠ sA) (Ge : a0 ≠ sC) (Hd : sT ≠ sC) (He : sL ≠ sC) (Hv : sC ≠ sA) (Gh : a0 ≠ sT) (Jb : sT ≠ sL) (Hx : sT ≠ sA) (Gi : a0 ≠ sL) (Hw : sL ≠ sA) (G6 : a0 ≠ sA) (H0 : a1 ≠ sC) (Hs : a1 ≠ sL) (Hr : a1 ≠ sT) (Gz : a1 ≠ sS) (Gu : a0 ≠ a1) (Mm : a3 ≠ sC) (Mn : a3 ≠ sL) (Mo : a3 ≠ sT) (Mp : a3 ≠ sS) (J4 : a0 ≠ a3) (J5 : a1 ≠ sA) (M5 : a3 ≠ sA) (HS : 0 ≤ sz.toInt) (HS2 : sz.toInt ≤ 1000) (HC : nC.toInt ≤ 100) (HT : 0 ≤ tsz.toInt) (HT2 : tsz.toInt ≤ 1000) (HN : nT.toInt ≤ 100) (J3 Ht : Int32) (IS : 0 ≤ J3.toInt) (IT : 0 ≤ Ht.toInt)
    (Bd : BodyLoose p l y4 (head1 (Jvm.Cond.code y4 Gn 8 none :: ws) Qap4) Gn 8 none e s m #[(.ref a0), (.ref a1), (.int 0), (.ref a3), (.int 0), (.int p5)] below meth c s₁) (hml : c.maxLocals = 8) (hZ : Z.Warmed39 s.vm) (G0 : n0 ≤ a0) (Hg : n0 ≤ sS) (Hj : n0 ≤ sT) (Hk : n0 ≤ sL) (Hh : n0 ≤ sC) (J7 : n0 ≤ sA) (T0 : State) {locs : List Loc} (X0 : Stand p l e Qap4 s m #[(.ref a0), (.ref a1), (.int 0), (.ref a3), (.int 0), (.int p5)] below meth c T0 locs 0 0) {h : Heap} (e0 : T0.heap = h) (SZ0 : n0 ≤ h.size) (NF0 : Fr n0 locs) (KP0 : Keep h0 h [a0, sS, sT, sL, sC, sA]) (Ga : Exa Z h a0 cS) (Gk : Fld Z h a0 cS "starts" "[I" (.ref sS)) (Hm : Fld Z h a0 cS "tailed" "[I" (.ref sT)) (Hq : Fld Z h a0 cS "tails" "[I" (.ref sL)) (Gg : Fld Z h a0 cS "countries" "[C" (.ref sC)) (Gb : Fld Z h a0 cS "width" "I" (.int 4)) (Gr : Fld Z h a0 cS "head" "I" (.int 2)) (Gw : Fld Z h a0 cS "after" "[I" (.ref sA)) (Gc : Fld Z h a0 cS "size" "I" (.int J3)) (Gq : Fld Z h a0 cS "ranges" "I" (.int rng)) (Hf : Fld Z h a0 cS "tailedSize" "I" (.int Ht)) (Gt : Fld Z h a0 cS "full" "Z" (.int ful)) (H6 : own_Ar Z h sS .int (nC * (2 : Int32))) (Gx : own_Ar Z h sT .int nT) (Gy : own_Ar Z h sL .int (nT * (2 : Int32))) (Gv : own_Ar Z h sC .char nC) (Gp : own_Iv Z h a1 (4 : Int32) [l0, l1, l2, l3]) (Hn : own_Iv Z h a3 (4 : Int32) [r0, r1, r2, r3]) (Gm : own_Iv Z h sA (4 : Int32) [t0, t1, t2, t3]) :
    own_Go p e below s Qap4.cells Qap4.slots (Rap4 (fap4_35 p5 sz rng tsz ful nC nT l0 l1 l2 l3 r0 r1 r2 r3 t0 t1 t2 t3 J3 Ht)) (Kap4 Z p5 sz rng tsz ful nC nT l0 l1 l2 l3 r0 r1 r2 r3 t0 t1 t2 t3 a0 a1 a3 sS sT sL sC sA h0 n0 (fap4_35 p5 sz rng tsz ful nC nT l0 l1 l2 l3 r0 r1 r2 r3 t0 t1 t2 t3 J3 Ht)) (T0.setTop (mkF m 35 #[rv a0, rv a1, iv 0, rv a3, iv 0, iv p5, uu, uu] [])) := by
  have hx := Bd.exec
  have hby := Bd.bytes
  have hown : s.vm.findClass cS = some m.cls := findClass_of_methodNamed Bd.named
  have hnm := (name_of_methodNamed Bd.named Bd.method).1
  unfold fap4_35
  refine op T0 (mkF m 40 #[rv a0, rv a1, iv 0, rv a3, iv 0, iv p5, uu, uu] [(.int p5), (.int 0), (.ref a1), (.ref a0)]) (fun _ k => XS.aloadN X0.here hx rfl (hb hby d12_35) rfl rfl (XS.aloadN X0.here hx rfl (hb hby d12_36) rfl rfl (XS.iloadN X0.here hx rfl (hb hby d12_37) rfl (XS.iload X0.here hx rfl (hb hby d12_38) rfl k)))) ?_
  obtain ⟨cq1, q1, q1'⟩ := Ga.cell
  obtain ⟨_, _, ⟨T1, L1, k1, n1⟩, -, X1', ⟨Lc1, hQ1, l1, y1, z1⟩, st'⟩ := X0.privateBack hx (y := y3) hown (mvT hZ (ow hw 87 rfl)) (mvT hZ (ow hw 88 rfl)) (mvT hZ (Jvm.Kit.selects_private (by decide) (ow hw 41 rfl) (ow hw 89 rfl) (ow hw 88 rfl))) (Cond.privateMethod_at (mvP hZ (ow hw 89 rfl) (args := #[]))) (mvT hZ (ow hw 90 rfl)) (by decide) (backOf (W := 0) (rmpu4a l Z aw hw [] p5 J3 rng Ht ful nC nT l0 l1 l2 l3 a0 a1 sS sT sL sC sA h n0 SZ0 Ga Gk Hm Hq Gg Gb Gr Gw Gc Gq Hf Gt H6 Gx Gy Gv Gp Gd Hb Hc Ha Gz Ge Hd He H0 Gh Jb Hr Gi Hs Gu IS HC IT HN G0 Hg Hj Hk Hh) hZ (ow hw 90 rfl) (ow hw 42 rfl) (by decide) (by decide)) (g := (mkF m 40 #[rv a0, rv a1, iv 0, rv a3, iv 0, iv p5, uu, uu] [(.int p5), (.int 0), (.ref a1), (.ref a0)])) rfl (by rw [hml]; rfl) (Steps.refl _) (a := a0) (by rw [e0]; exact q1) q1' (argsL := [(.ref a1), (.int 0), (.int p5)]) (rest := []) (lenOf own_pd3 rfl) rfl (by show 2 * 0 + _ ≤ _; exact Nat.le_of_eq rfl) (hb hby d12_40) (fun _ _ => ⟨rfl, e0, (by decide : 0 + 0 ≤ _), (by decide : 0 + 0 ≤ _)⟩)
  dsimp only [Pt.U, Pt.locs, Pt.cells, Pt.slots] at X1' l1 y1 z1 st' hQ1
  subst l1 y1 z1
  obtain ⟨rfl, NFq1, KPq1, p1_0, p1_1, p1_2, p1_3, p1_4, p1_5, p1_6, p1_7, p1_8, p1_9, p1_10, p1_11, p1_12, p1_13, p1_14, p1_15⟩ := hQ1
  have X1 : Stand p l e Qap4 s m #[(.ref a0), (.ref a1), (.int 0), (.ref a3), (.int 0), (.int p5)] below meth c T1 _ 0 0 := X1'
  have NF1 := Fr.app NF0 NFq1
  have SZ1 : n0 ≤ T1.heap.size := Nat.le_trans SZ0 KPq1.1
  have KP1 : Keep h0 T1.heap [a0, sS, sT, sL, sC, sA] := KP0.trans KPq1 (allS (Or.inl (List.mem_of_getElem? (i := 0) rfl)) (allS (Or.inl (List.mem_of_getElem? (i := 1) rfl)) (allS (Or.inl (List.mem_of_getElem? (i := 2) rfl)) (allS (Or.inl (List.mem_of_getElem? (i := 3) rfl)) (allS (Or.inl (List.mem_of_getElem? (i := 4) rfl)) all0)))))
  have f2 := Ga.keep KPq1
  have f3 := Gp.keep KPq1 (ninS (Ne.symm Gu) (ninS Gz (ninS Hr (ninS Hs (ninS H0 nin0)))))
  have f4 := Hn.keep KPq1 (ninS (Ne.symm J4) (ninS Mp (ninS Mo (ninS Mn (ninS Mm nin0)))))
  have f5 := Gm.keep KPq1 (ninS (Ne.symm G6) (ninS (Ne.symm Hu) (ninS (Ne.symm Hx) (ninS (Ne.symm Hw) (ninS (Ne.symm Hv) nin0)))))
  refine op T1 (mkF m 43 #[rv a0, rv a1, iv 0, rv a3, iv 0, iv p5, uu, uu] []) (fun _ k => st'.trans k) ?_
  exact gap4_43 hw p5 sz rng tsz ful nC nT l0 l1 l2 l3 r0 r1 r2 r3 t0 t1 t2 t3 a0 a1 a3 sS sT sL sC sA Gd Hb Hc Ha Hu Ge Hd He Hv Gh Jb Hx Gi Hw G6 H0 Hs Hr Gz Gu Mm Mn Mo Mp J4 J5 M5 HS HS2 HC HT HT2 HN (fpu4a_0 p5 J3 rng Ht ful nC nT l0 l1 l2 l3).1 (fpu4a_0 p5 J3 rng Ht ful nC nT l0 l1 l2 l3).2 Bd hml hZ G0 Hg Hj Hk Hh J7 T1 X1 (rfl : T1.heap = T1.heap) SZ1 NF1 KP1 p1_0 f3 f4 f5 p1_1 p1_2 p1_3 p1_4 p1_5 p1_6 p1_7 p1_8 p1_9 p1_10 p1_11 p1_12 p1_13 p1_14 p1_15
def fap4_0 (p5 sz rng tsz ful nC nT l0 l1 l2 l3 r0 r1 r2 r3 t0 t1 t2 t3 : Int32) : Int32 × Int32 × Int32 × Int32 × Int32 × Int32 × Int32 × Int32 := (if (0 : Int32) < rng then (if (fcm4_0 l0 l1 l2 l3 t0 t1 t2 t3) = (0 : Int32) then (fap4_35 p5 sz rng tsz ful nC nT l0 l1 l2 l3 r0 r1 r2 r3 t0 t1 t2 t3 sz tsz) else (fap4_35 p5 sz rng tsz ful nC nT l0 l1 l2 l3 r0 r1 r2 r3 t0 t1 t2 t3 (fpu4a_0 (65535 : Int32) sz rng tsz ful nC nT t0 t1 t2 t3).1 (fpu4a_0 (65535 : Int32) sz rng tsz ful nC nT t0 t1 t2 t3).2)) else (fap4_35 p5 sz rng tsz ful nC nT l0 l1 l2 l3 r0 r1 r2 r3 t0 t1 t2 t3 sz tsz))
set_option maxRecDepth 65536 in
set_option maxHeartbeats 40000000 in
theorem gap4_0 (hw : HW aw Z) {h0 : Heap} {n0 : Nat} (p5 sz rng tsz ful nC nT l0 l1 l2 l3 r0 r1 r2 r3 t0 t1 t2 t3 : Int32) (a0 a1 a3 sS sT sL sC sA : Addr) (Gd : a0 ≠ sS) (Hb : sS ≠ sT) (Hc : sS ≠ sL) (Ha : sS ≠ sC) (Hu : sS ≠ sA) (Ge : a0 ≠ sC) (Hd : sT ≠ sC) (He : sL ≠ sC) (Hv : sC ≠ sA) (Gh : a0 ≠ sT) (Jb : sT ≠ sL) (Hx : sT ≠ sA) (Gi : a0 ≠ sL) (Hw : sL ≠ sA) (G6 : a0 ≠ sA) (H0 : a1 ≠ sC) (Hs : a1 ≠ sL) (Hr : a1 ≠ sT) (Gz : a1 ≠ sS) (Gu : a0 ≠ a1) (Mm : a3 ≠ sC) (Mn : a3 ≠ sL) (Mo : a3 ≠ sT) (Mp : a3 ≠ sS) (J4 : a0 ≠ a3) (J5 : a1 ≠ sA) (M5 : a3 ≠ sA) (HS : 0 ≤ sz.toInt) (HS2 : sz.toInt ≤ 1000) (HC : nC.toInt ≤ 100) (HT : 0 ≤ tsz.toInt) (HT2 : tsz.toInt ≤ 1000) (HN : nT.toInt ≤ 100)
    (Bd : BodyLoose p l y4 (head1 (Jvm.Cond.code y4 Gn 8 none :: ws) Qap4) Gn 8 none e s m #[(.ref a0), (.ref a1), (.int 0), (.ref a3), (.int 0), (.int p5)] below meth c s₁) (hml : c.maxLocals = 8) (hZ : Z.Warmed39 s.vm) (G0 : n0 ≤ a0) (Hg : n0 ≤ sS) (Hj : n0 ≤ sT) (Hk : n0 ≤ sL) (Hh : n0 ≤ sC) (J7 : n0 ≤ sA) (T0 : State) {locs : List Loc} (X0 : Stand p l e Qap4 s m #[(.ref a0), (.ref a1), (.int 0), (.ref a3), (.int 0), (.int p5)] below meth c T0 locs 0 0) (e0 : T0.heap = h0) (SZ0 : n0 ≤ h0.size) (NF0 : Fr n0 locs) (KP0 : Keep h0 h0 [a0, sS, sT, sL, sC, sA]) (Ga : Exa Z h0 a0 cS) (Gk : Fld Z h0 a0 cS "starts" "[I" (.ref sS)) (Hm : Fld Z h0 a0 cS "tailed" "[I" (.ref sT)) (Hq : Fld Z h0 a0 cS "tails" "[I" (.ref sL)) (Gg : Fld Z h0 a0 cS "countries" "[C" (.ref sC)) (Gb : Fld Z h0 a0 cS "width" "I" (.int 4)) (Gr : Fld Z h0 a0 cS "head" "I" (.int 2)) (Gw : Fld Z h0 a0 cS "after" "[I" (.ref sA)) (Gc : Fld Z h0 a0 cS "size" "I" (.int sz)) (Gq : Fld Z h0 a0 cS "ranges" "I" (.int rng)) (Hf : Fld Z h0 a0 cS "tailedSize" "I" (.int tsz)) (Gt : Fld Z h0 a0 cS "full" "Z" (.int ful)) (H6 : own_Ar Z h0 sS .int (nC * (2 : Int32))) (Gx : own_Ar Z h0 sT .int nT) (Gy : own_Ar Z h0 sL .int (nT * (2 : Int32))) (Gv : own_Ar Z h0 sC .char nC) (Gp : own_Iv Z h0 a1 (4 : Int32) [l0, l1, l2, l3]) (Hn : own_Iv Z h0 a3 (4 : Int32) [r0, r1, r2, r3]) (Gm : own_Iv Z h0 sA (4 : Int32) [t0, t1, t2, t3]) :
    own_Go p e below s Qap4.cells Qap4.slots (Rap4 (fap4_0 p5 sz rng tsz ful nC nT l0 l1 l2 l3 r0 r1 r2 r3 t0 t1 t2 t3)) (Kap4 Z p5 sz rng tsz ful nC nT l0 l1 l2 l3 r0 r1 r2 r3 t0 t1 t2 t3 a0 a1 a3 sS sT sL sC sA h0 n0 (fap4_0 p5 sz rng tsz ful nC nT l0 l1 l2 l3 r0 r1 r2 r3 t0 t1 t2 t3)) (T0.setTop (mkF m 0 #[rv a0, rv a1, iv 0, rv a3, iv 0, iv p5, uu, uu] [])) := by
  have hx := Bd.exec
  have hby := Bd.bytes
  have hown : s.vm.findClass cS = some m.cls := findClass_of_methodNamed Bd.named
  have hnm := (name_of_methodNamed Bd.named Bd.method).1
  unfold fap4_0
  refine op T0 (mkF m 1 #[rv a0, rv a1, iv 0, rv a3, iv 0, iv p5, uu, uu] [(.ref a0)]) (fun _ k => XS.aloadN X0.here hx rfl (hb hby d12_0) rfl rfl k) ?_
  obtain ⟨T1, X1, e1, st'⟩ := getF X0 hx hZ hown (host := "") (Or.inl (ow hw 80 rfl)) Via.refl e0 Gq (g := (mkF m 1 #[rv a0, rv a1, iv 0, rv a3, iv 0, iv p5, uu, uu] [(.ref a0)])) rfl rfl (hb hby d12_1)
  refine op T1 (mkF m 4 #[rv a0, rv a1, iv 0, rv a3, iv 0, iv p5, uu, uu] [(.int rng)]) (fun _ k => st' _ k) ?_
  refine own_iteT Rap4 (Kap4 Z p5 sz rng tsz ful nC nT l0 l1 l2 l3 r0 r1 r2 r3 t0 t1 t2 t3 a0 a1 a3 sS sT sL sC sA h0 n0) (fun hc4 => ?_) (fun hc4 => ?_)
  · skip
    refine op T1 (mkF m 10 #[rv a0, rv a1, iv 0, rv a3, iv 0, iv p5, uu, uu] [(.ref a0), (.int 0), (.ref a1)]) (fun _ k => XS.ifNo X1.here hx rfl (hb hby d12_4) rfl ((if0 _ _).trans (tlt hc4).2.2.2) (XS.aloadN X1.here hx rfl (hb hby d12_7) rfl rfl (XS.iloadN X1.here hx rfl (hb hby d12_8) rfl (XS.aloadN X1.here hx rfl (hb hby d12_9) rfl rfl k)))) ?_
    obtain ⟨T2, X2, e2, st'⟩ := getF X1 hx hZ hown (host := "") (Or.inl (ow hw 63 rfl)) Via.refl e1 Gw (g := (mkF m 10 #[rv a0, rv a1, iv 0, rv a3, iv 0, iv p5, uu, uu] [(.ref a0), (.int 0), (.ref a1)])) rfl rfl (hb hby d12_10)
    refine op T2 (mkF m 15 #[rv a0, rv a1, iv 0, rv a3, iv 0, iv p5, uu, uu] [(.ref a0), (.int 0), (.ref sA), (.int 0), (.ref a1)]) (fun _ k => st' _ (XS.iconst X2.here hx rfl (hb hby d12_13) (XS.aloadN X2.here hx rfl (hb hby d12_14) rfl rfl k))) ?_
    obtain ⟨T3, X3, e3, st'⟩ := getF X2 hx hZ hown (host := "") (Or.inl (ow hw 55 rfl)) Via.refl e2 Gb (g := (mkF m 15 #[rv a0, rv a1, iv 0, rv a3, iv 0, iv p5, uu, uu] [(.ref a0), (.int 0), (.ref sA), (.int 0), (.ref a1)])) rfl rfl (hb hby d12_15)
    refine op T3 (mkF m 18 #[rv a0, rv a1, iv 0, rv a3, iv 0, iv p5, uu, uu] [(.int 4), (.int 0), (.ref sA), (.int 0), (.ref a1)]) (fun _ k => st' _ k) ?_
    obtain ⟨_, _, ⟨T4, L4, k4, n4⟩, -, X4', ⟨Lc4, hQ4, l4, y4, z4⟩, st'⟩ := Jvm.LawKit.callS X3 hx (y := y1) hown (mvT hZ (ow hw 105 rfl)) (mvT hZ (ow hw 106 rfl)) (mvT hZ (ow hw 107 rfl)) (mvT hZ (ow hw 108 rfl)) (by decide) (backOf (W := 0) (rmcm4 l Z aw hw [] l0 l1 l2 l3 t0 t1 t2 t3 a1 sA h0 n0 SZ0 Gp Gm) hZ (ow hw 108 rfl) (ow hw 107 rfl) (by decide) (by decide)) (g := (mkF m 18 #[rv a0, rv a1, iv 0, rv a3, iv 0, iv p5, uu, uu] [(.int 4), (.int 0), (.ref sA), (.int 0), (.ref a1)])) rfl (by rw [hml]; rfl) (argsL := [(.ref a1), (.int 0), (.ref sA), (.int 0), (.int 4)]) (rest := []) (lenOf own_pd2 rfl) rfl (by show 2 * 0 + _ ≤ _; exact Nat.le_of_eq rfl) (hb hby d12_18) (fun _ _ => ⟨rfl, e3, (by decide : 0 + 0 ≤ _), (by decide : 0 + 0 ≤ _)⟩)
    dsimp only [Pt.U, Pt.locs, Pt.cells, Pt.slots] at X4' l4 y4 z4 st' hQ4
    subst l4 y4 z4
    obtain ⟨rfl, NFq4, KPq4⟩ := hQ4
    have X4 : Stand p l e Qap4 s m #[(.ref a0), (.ref a1), (.int 0), (.ref a3), (.int 0), (.int p5)] below meth c T4 _ 0 0 := X4'
    have NF4 := Fr.app NF0 NFq4
    have SZ4 : n0 ≤ T4.heap.size := Nat.le_trans SZ0 KPq4.1
    have KP4 : Keep h0 T4.heap [a0, sS, sT, sL, sC, sA] := KP0.trans KPq4 all0
    have f5 := Ga.keep KPq4
    have f6 := Gk.keep KPq4 nin0
    have f7 := Hm.keep KPq4 nin0
    have f8 := Hq.keep KPq4 nin0
    have f9 := Gg.keep KPq4 nin0
    have f10 := Gb.keep KPq4 nin0
    have f11 := Gr.keep KPq4 nin0
    have f12 := Gw.keep KPq4 nin0
    have f13 := Gc.keep KPq4 nin0
    have f14 := Gq.keep KPq4 nin0
    have f15 := Hf.keep KPq4 nin0
    have f16 := Gt.keep KPq4 nin0
    have f17 := H6.keep KPq4 nin0
    have f18 := Gx.keep KPq4 nin0
    have f19 := Gy.keep KPq4 nin0
    have f20 := Gv.keep KPq4 nin0
    have f21 := Gp.keep KPq4 nin0
    have f22 := Hn.keep KPq4 nin0
    have f23 := Gm.keep KPq4 nin0
    refine op T4 (mkF m 21 #[rv a0, rv a1, iv 0, rv a3, iv 0, iv p5, uu, uu] [(.int (fcm4_0 l0 l1 l2 l3 t0 t1 t2 t3))]) (fun _ k => st' _ k) ?_
    refine own_iteT Rap4 (Kap4 Z p5 sz rng tsz ful nC nT l0 l1 l2 l3 r0 r1 r2 r3 t0 t1 t2 t3 a0 a1 a3 sS sT sL sC sA h0 n0) (fun hc21 => ?_) (fun hc21 => ?_)
    · skip
      refine op T4 (mkF m 35 #[rv a0, rv a1, iv 0, rv a3, iv 0, iv p5, uu, uu] []) (fun _ k => XS.ifYes X4.here hx rfl (pc0 := 21) (pc' := 35) rfl (hb hby d12_21) rfl ((if0 _ _).trans (teq hc21).1) (by decide) (by decide) k) ?_
      exact gap4_35 hw p5 sz rng tsz ful nC nT l0 l1 l2 l3 r0 r1 r2 r3 t0 t1 t2 t3 a0 a1 a3 sS sT sL sC sA Gd Hb Hc Ha Hu Ge Hd He Hv Gh Jb Hx Gi Hw G6 H0 Hs Hr Gz Gu Mm Mn Mo Mp J4 J5 M5 HS HS2 HC HT HT2 HN sz tsz (by first | exact HS | exact (own_pub4a HS HS2 HT HT2).1) (by first | exact HT | exact (own_pub4a HS HS2 HT HT2).2) Bd hml hZ G0 Hg Hj Hk Hh J7 T4 X4 (rfl : T4.heap = T4.heap) SZ4 NF4 KP4 f5 f6 f7 f8 f9 f10 f11 f12 f13 f14 f15 f16 f17 f18 f19 f20 f21 f22 f23
    · skip
      refine op T4 (mkF m 26 #[rv a0, rv a1, iv 0, rv a3, iv 0, iv p5, uu, uu] [(.ref a0), (.ref a0)]) (fun _ k => XS.ifNo X4.here hx rfl (hb hby d12_21) rfl ((if0 _ _).trans (feq hc21).1) (XS.aloadN X4.here hx rfl (hb hby d12_24) rfl rfl (XS.aloadN X4.here hx rfl (hb hby d12_25) rfl rfl k))) ?_
      obtain ⟨T24, X24, e24, st'⟩ := getF X4 hx hZ hown (host := "") (Or.inl (ow hw 63 rfl)) Via.refl (rfl : T4.heap = T4.heap) f12 (g := (mkF m 26 #[rv a0, rv a1, iv 0, rv a3, iv 0, iv p5, uu, uu] [(.ref a0), (.ref a0)])) rfl rfl (hb hby d12_26)
      refine op T24 (mkF m 30 #[rv a0, rv a1, iv 0, rv a3, iv 0, iv p5, uu, uu] [(.int 0), (.ref sA), (.ref a0)]) (fun _ k => st' _ (XS.iconst X24.here hx rfl (hb hby d12_29) k)) ?_
      refine op T24 (mkF m 32 #[rv a0, rv a1, iv 0, rv a3, iv 0, iv p5, uu, uu] [(.int 65535), (.int 0), (.ref sA), (.ref a0)]) (fun _ k => X24.ldcInt hx hown (mvT hZ (ow hw 154 rfl)) (g := (mkF m 30 #[rv a0, rv a1, iv 0, rv a3, iv 0, iv p5, uu, uu] [(.int 0), (.ref sA), (.ref a0)])) rfl (hb hby d12_30) _ k) ?_
      obtain ⟨cq25, q25, q25'⟩ := f5.cell
      obtain ⟨_, _, ⟨T25, L25, k25, n25⟩, -, X25', ⟨Lc25, hQ25, l25, y25, z25⟩, st'⟩ := X24.privateBack hx (y := y3) hown (mvT hZ (ow hw 87 rfl)) (mvT hZ (ow hw 88 rfl)) (mvT hZ (Jvm.Kit.selects_private (by decide) (ow hw 41 rfl) (ow hw 89 rfl) (ow hw 88 rfl))) (Cond.privateMethod_at (mvP hZ (ow hw 89 rfl) (args := #[]))) (mvT hZ (ow hw 90 rfl)) (by decide) (backOf (W := 0) (rmpu4a l Z aw hw [] (65535 : Int32) sz rng tsz ful nC nT t0 t1 t2 t3 a0 sA sS sT sL sC sA T4.heap n0 SZ4 f5 f6 f7 f8 f9 f10 f11 f12 f13 f14 f15 f16 f17 f18 f19 f20 f23 Gd Hb Hc Ha (Ne.symm Hu) Ge Hd He (Ne.symm Hv) Gh Jb (Ne.symm Hx) Gi (Ne.symm Hw) G6 HS HC HT HN G0 Hg Hj Hk Hh) hZ (ow hw 90 rfl) (ow hw 42 rfl) (by decide) (by decide)) (g := (mkF m 32 #[rv a0, rv a1, iv 0, rv a3, iv 0, iv p5, uu, uu] [(.int 65535), (.int 0), (.ref sA), (.ref a0)])) rfl (by rw [hml]; rfl) (Steps.refl _) (a := a0) (by rw [e24]; exact q25) q25' (argsL := [(.ref sA), (.int 0), (.int 65535)]) (rest := []) (lenOf own_pd3 rfl) rfl (by show 2 * 0 + _ ≤ _; exact Nat.le_of_eq rfl) (hb hby d12_32) (fun _ _ => ⟨rfl, e24, (by decide : 0 + 0 ≤ _), (by decide : 0 + 0 ≤ _)⟩)
      dsimp only [Pt.U, Pt.locs, Pt.cells, Pt.slots] at X25' l25 y25 z25 st' hQ25
      subst l25 y25 z25
      obtain ⟨rfl, NFq25, KPq25, p25_0, p25_1, p25_2, p25_3, p25_4, p25_5, p25_6, p25_7, p25_8, p25_9, p25_10, p25_11, p25_12, p25_13, p25_14, p25_15⟩ := hQ25
      have X25 : Stand p l e Qap4 s m #[(.ref a0), (.ref a1), (.int 0), (.ref a3), (.int 0), (.int p5)] below meth c T25 _ 0 0 := X25'
      have NF25 := Fr.app NF4 NFq25
      have SZ25 : n0 ≤ T25.heap.size := Nat.le_trans SZ4 KPq25.1
      have KP25 : Keep h0 T25.heap [a0, sS, sT, sL, sC, sA] := KP4.trans KPq25 (allS (Or.inl (List.mem_of_getElem? (i := 0) rfl)) (allS (Or.inl (List.mem_of_getElem? (i := 1) rfl)) (allS (Or.inl (List.mem_of_getElem? (i := 2) rfl)) (allS (Or.inl (List.mem_of_getElem? (i := 3) rfl)) (allS (Or.inl (List.mem_of_getElem? (i := 4) rfl)) all0)))))
      have f26 := f5.keep KPq25
      have f27 := f21.keep KPq25 (ninS (Ne.symm Gu) (ninS Gz (ninS Hr (ninS Hs (ninS H0 nin0)))))
      have f28 := f22.keep KPq25 (ninS (Ne.symm J4) (ninS Mp (ninS Mo (ninS Mn (ninS Mm nin0)))))
      have f29 := f23.keep KPq25 (ninS (Ne.symm G6) (ninS (Ne.symm Hu) (ninS (Ne.symm Hx) (ninS (Ne.symm Hw) (ninS (Ne.symm Hv) nin0)))))
      refine op T25 (mkF m 35 #[rv a0, rv a1, iv 0, rv a3, iv 0, iv p5, uu, uu] []) (fun _ k => st'.trans k) ?_
      exact gap4_35 hw p5 sz rng tsz ful nC nT l0 l1 l2 l3 r0 r1 r2 r3 t0 t1 t2 t3 a0 a1 a3 sS sT sL sC sA Gd Hb Hc Ha Hu Ge Hd He Hv Gh Jb Hx Gi Hw G6 H0 Hs Hr Gz Gu Mm Mn Mo Mp J4 J5 M5 HS HS2 HC HT HT2 HN (fpu4a_0 (65535 : Int32) sz rng tsz ful nC nT t0 t1 t2 t3).1 (fpu4a_0 (65535 : Int32) sz rng tsz ful nC nT t0 t1 t2 t3).2 (by first | exact HS | exact (own_pub4a HS HS2 HT HT2).1) (by first | exact HT | exact (own_pub4a HS HS2 HT HT2).2) Bd hml hZ G0 Hg Hj Hk Hh J7 T25 X25 (rfl : T25.heap = T25.heap) SZ25 NF25 KP25 p25_0 p25_1 p25_2 p25_3 p25_4 p25_5 p25_6 p25_7 p25_8 p25_9 p25_10 p25_11 p25_12 p25_13 p25_14 p25_15 f27 f28 f29
  · skip
    refine op T1 (mkF m 35 #[rv a0, rv a1, iv 0, rv a3, iv 0, iv p5, uu, uu] []) (fun _ k => XS.ifYes X1.here hx rfl (pc0 := 4) (pc' := 35) rfl (hb hby d12_4) rfl ((if0 _ _).trans (flt hc4).2.2.2) (by decide) (by decide) k) ?_
    exact gap4_35 hw p5 sz rng tsz ful nC nT l0 l1 l2 l3 r0 r1 r2 r3 t0 t1 t2 t3 a0 a1 a3 sS sT sL sC sA Gd Hb Hc Ha Hu Ge Hd He Hv Gh Jb Hx Gi Hw G6 H0 Hs Hr Gz Gu Mm Mn Mo Mp J4 J5 M5 HS HS2 HC HT HT2 HN sz tsz (by first | exact HS | exact (own_pub4a HS HS2 HT HT2).1) (by first | exact HT | exact (own_pub4a HS HS2 HT HT2).2) Bd hml hZ G0 Hg Hj Hk Hh J7 T1 X1 e1 SZ0 NF0 KP0 Ga Gk Hm Hq Gg Gb Gr Gw Gc Gq Hf Gt H6 Gx Gy Gv Gp Hn Gm
theorem ef_ap4 (m : MethodId) (a0 a1 a3 : Addr) (p5 : Int32) : entryFrame m #[(.ref a0), (.ref a1), (.int 0), (.ref a3), (.int 0), (.int p5)] 8 = mkF m 0 #[rv a0, rv a1, iv 0, rv a3, iv 0, iv p5, uu, uu] [] := by first | (simp [entryFrame, mkF, argsToLocals, Value.category]; done) | rfl
set_option maxRecDepth 65536 in
set_option maxHeartbeats 40000000 in
theorem rmap4 (l : Launch) (Z : State) (aw : Array Value) (hw : HW aw Z) (ws : List Jvm.Cond) (p5 sz rng tsz ful nC nT l0 l1 l2 l3 r0 r1 r2 r3 t0 t1 t2 t3 : Int32) (a0 a1 a3 sS sT sL sC sA : Addr) (h0 : Heap) (n0 : Nat) (SZ0 : n0 ≤ h0.size) (Ga : Exa Z h0 a0 cS) (Gk : Fld Z h0 a0 cS "starts" "[I" (.ref sS)) (Hm : Fld Z h0 a0 cS "tailed" "[I" (.ref sT)) (Hq : Fld Z h0 a0 cS "tails" "[I" (.ref sL)) (Gg : Fld Z h0 a0 cS "countries" "[C" (.ref sC)) (Gb : Fld Z h0 a0 cS "width" "I" (.int 4)) (Gr : Fld Z h0 a0 cS "head" "I" (.int 2)) (Gw : Fld Z h0 a0 cS "after" "[I" (.ref sA)) (Gc : Fld Z h0 a0 cS "size" "I" (.int sz)) (Gq : Fld Z h0 a0 cS "ranges" "I" (.int rng)) (Hf : Fld Z h0 a0 cS "tailedSize" "I" (.int tsz)) (Gt : Fld Z h0 a0 cS "full" "Z" (.int ful)) (H6 : own_Ar Z h0 sS .int (nC * (2 : Int32))) (Gx : own_Ar Z h0 sT .int nT) (Gy : own_Ar Z h0 sL .int (nT * (2 : Int32))) (Gv : own_Ar Z h0 sC .char nC) (Gp : own_Iv Z h0 a1 (4 : Int32) [l0, l1, l2, l3]) (Hn : own_Iv Z h0 a3 (4 : Int32) [r0, r1, r2, r3]) (Gm : own_Iv Z h0 sA (4 : Int32) [t0, t1, t2, t3]) (Gd : a0 ≠ sS) (Hb : sS ≠ sT) (Hc : sS ≠ sL) (Ha : sS ≠ sC) (Hu : sS ≠ sA) (Ge : a0 ≠ sC) (Hd : sT ≠ sC) (He : sL ≠ sC) (Hv : sC ≠ sA) (Gh : a0 ≠ sT) (Jb : sT ≠ sL) (Hx : sT ≠ sA) (Gi : a0 ≠ sL) (Hw : sL ≠ sA) (G6 : a0 ≠ sA) (H0 : a1 ≠ sC) (Hs : a1 ≠ sL) (Hr : a1 ≠ sT) (Gz : a1 ≠ sS) (Gu : a0 ≠ a1) (Mm : a3 ≠ sC) (Mn : a3 ≠ sL) (Mo : a3 ≠ sT) (Mp : a3 ≠ sS) (J4 : a0 ≠ a3) (J5 : a1 ≠ sA) (M5 : a3 ≠ sA) (HS : 0 ≤ sz.toInt) (HS2 : sz.toInt ≤ 1000) (HC : nC.toInt ≤ 100) (HT : 0 ≤ tsz.toInt) (HT2 : tsz.toInt ≤ 1000) (HN : nT.toInt ≤ 100) (G0 : n0 ≤ a0) (Hg : n0 ≤ sS) (Hj : n0 ≤ sT) (Hk : n0 ≤ sL) (Hh : n0 ≤ sC) (J7 : n0 ≤ sA) :
    MetFree l y4 (head1 (Jvm.Cond.code y4 Gn 8 none :: ws) Qap4) (fun a U => a = #[(.ref a0), (.ref a1), (.int 0), (.ref a3), (.int 0), (.int p5)] ∧ Z.Warmed39 U.vm ∧ U.heap = h0) (fun _ _ _ _ _ => True) (fun _ U o U' => ∃ v L, o = .returned v ∧ own_Q (Rap4 (fap4_0 p5 sz rng tsz ful nC nT l0 l1 l2 l3 r0 r1 r2 r3 t0 t1 t2 t3)) (Kap4 Z p5 sz rng tsz ful nC nT l0 l1 l2 l3 r0 r1 r2 r3 t0 t1 t2 t3 a0 a1 a3 sS sT sL sC sA h0 n0 (fap4_0 p5 sz rng tsz ful nC nT l0 l1 l2 l3 r0 r1 r2 r3 t0 t1 t2 t3)) v U'.heap L ∧ FrameEnd U o U' L Qap4.cells Qap4.slots) := by
  refine MetFree.of_bodySF (plainFor_of_name own_pn2) hisR ?_
  intro p e s m args below meth c s₁ Bd hml0 hP hK
  obtain ⟨rfl, hZ, hh⟩ := hP
  have hml : c.maxLocals = 8 := hml0
  have e0 : s₁.heap = h0 := by rw [← hh, Bd.state]; rfl
  exact own_pre (fun t k => castTop (ef_ap4 m a0 a1 a3 p5) k) (gap4_0 hw p5 sz rng tsz ful nC nT l0 l1 l2 l3 r0 r1 r2 r3 t0 t1 t2 t3 a0 a1 a3 sS sT sL sC sA Gd Hb Hc Ha Hu Ge Hd He Hv Gh Jb Hx Gi Hw G6 H0 Hs Hr Gz Gu Mm Mn Mo Mp J4 J5 M5 HS HS2 HC HT HT2 HN Bd hml hZ G0 Hg Hj Hk Hh J7 s₁ (Stand.of_body Bd) e0 SZ0 (Fr.nil n0) (Keep.refl _ _) Ga Gk Hm Hq Gg Gb Gr Gw Gc Gq Hf Gt H6 Gx Gy Gv Gp Hn Gm)
abbrev Qga : Room := { frames := 0, cells := 0, slots := 0, locals := 0 }
/-! body 21, ga -/
theorem d21_0 : De Un 0 (.aload_n 0) 1 := by decide +kernel
theorem d21_1 : De Un 1 (.getfield 41) 3 := by decide +kernel
theorem d21_4 : De Un 4 (.ifCond .le 14) 3 := by decide +kernel
theorem d21_7 : De Un 7 (.aload_n 0) 1 := by decide +kernel
theorem d21_8 : De Un 8 (.getfield 44) 3 := by decide +kernel
theorem d21_11 : De Un 11 (.ifCond .ne 7) 3 := by decide +kernel
theorem d21_14 : De Un 14 (.iconst 1) 1 := by decide +kernel
theorem d21_15 : De Un 15 (.goto 4) 3 := by decide +kernel
theorem d21_18 : De Un 18 (.iconst 0) 1 := by decide +kernel
theorem d21_19 : De Un 19 (.ireturn) 1 := by decide +kernel
abbrev y5 : MethodName := ⟨cS, "gapAfterLast", "()I"⟩
def Rga (t : Int32) : Option Value := some (.int t)
def Kga (Z : State) (rng ful : Int32) (a0 : Addr) (h0 : Heap) (n0 : Nat) (t : Int32) (h : Heap) (L : List Loc) : Prop := Fr n0 L ∧ Keep h0 h []
def fga_18 (rng ful : Int32) : Int32 := (0 : Int32)
set_option maxRecDepth 65536 in
set_option maxHeartbeats 40000000 in
theorem gga_18 (hw : HW aw Z) {h0 : Heap} {n0 : Nat} (rng ful : Int32) (a0 : Addr)
    (Bd : BodyLoose p l y5 (head1 (Jvm.Cond.code y5 Un 1 (some .int) :: ws) Qga) Un 1 (some .int) e s m #[(.ref a0)] below meth c s₁) (hml : c.maxLocals = 1) (hZ : Z.Warmed39 s.vm) (T0 : State) {locs : List Loc} (X0 : Stand p l e Qga s m #[(.ref a0)] below meth c T0 locs 0 0) {h : Heap} (e0 : T0.heap = h) (SZ0 : n0 ≤ h.size) (NF0 : Fr n0 locs) (KP0 : Keep h0 h []) (Ga : Exa Z h a0 cS) (Gq : Fld Z h a0 cS "ranges" "I" (.int rng)) (Gt : Fld Z h a0 cS "full" "Z" (.int ful)) :
    own_Go p e below s Qga.cells Qga.slots (Rga (fga_18 rng ful)) (Kga Z rng ful a0 h0 n0 (fga_18 rng ful)) (T0.setTop (mkF m 18 #[rv a0] [])) := by
  have hx := Bd.exec
  have hby := Bd.bytes
  have hown : s.vm.findClass cS = some m.cls := findClass_of_methodNamed Bd.named
  have hnm := (name_of_methodNamed Bd.named Bd.method).1
  unfold fga_18
  refine op T0 (mkF m 19 #[rv a0] [(.int 0)]) (fun _ k => XS.iconst X0.here hx rfl (hb hby d21_18) k) ?_
  exact own_ret (w := (.int 0)) X0 hx Bd.notSynchronized Bd.returns rfl (Or.inl ⟨rfl, by simp, _, rfl⟩) (hb hby d21_19) (by rw [e0]; exact ⟨NF0, KP0⟩) (by decide) (by decide)
def fga_0 (rng ful : Int32) : Int32 := (if (0 : Int32) < rng then (if ful = (0 : Int32) then (1 : Int32) else (fga_18 rng ful)) else (fga_18 rng ful))
set_option maxRecDepth 65536 in
set_option maxHeartbeats 40000000 in
theorem gga_0 (hw : HW aw Z) {h0 : Heap} {n0 : Nat} (rng ful : Int32) (a0 : Addr)
    (Bd : BodyLoose p l y5 (head1 (Jvm.Cond.code y5 Un 1 (some .int) :: ws) Qga) Un 1 (some .int) e s m #[(.ref a0)] below meth c s₁) (hml : c.maxLocals = 1) (hZ : Z.Warmed39 s.vm) (T0 : State) {locs : List Loc} (X0 : Stand p l e Qga s m #[(.ref a0)] below meth c T0 locs 0 0) (e0 : T0.heap = h0) (SZ0 : n0 ≤ h0.size) (NF0 : Fr n0 locs) (KP0 : Keep h0 h0 []) (Ga : Exa Z h0 a0 cS) (Gq : Fld Z h0 a0 cS "ranges" "I" (.int rng)) (Gt : Fld Z h0 a0 cS "full" "Z" (.int ful)) :
    own_Go p e below s Qga.cells Qga.slots (Rga (fga_0 rng ful)) (Kga Z rng ful a0 h0 n0 (fga_0 rng ful)) (T0.setTop (mkF m 0 #[rv a0] [])) := by
  have hx := Bd.exec
  have hby := Bd.bytes
  have hown : s.vm.findClass cS = some m.cls := findClass_of_methodNamed Bd.named
  have hnm := (name_of_methodNamed Bd.named Bd.method).1
  unfold fga_0
  refine op T0 (mkF m 1 #[rv a0] [(.ref a0)]) (fun _ k => XS.aloadN X0.here hx rfl (hb hby d21_0) rfl rfl k) ?_
  obtain ⟨T1, X1, e1, st'⟩ := getF X0 hx hZ hown (host := "") (Or.inl (ow hw 80 rfl)) Via.refl e0 Gq (g := (mkF m 1 #[rv a0] [(.ref a0)])) rfl rfl (hb hby d21_1)
  refine op T1 (mkF m 4 #[rv a0] [(.int rng)]) (fun _ k => st' _ k) ?_
  refine own_iteT Rga (Kga Z rng ful a0 h0 n0) (fun hc4 => ?_) (fun hc4 => ?_)
  · skip
    refine op T1 (mkF m 8 #[rv a0] [(.ref a0)]) (fun _ k => XS.ifNo X1.here hx rfl (hb hby d21_4) rfl ((if0 _ _).trans (tlt hc4).2.2.2) (XS.aloadN X1.here hx rfl (hb hby d21_7) rfl rfl k)) ?_
    obtain ⟨T2, X2, e2, st'⟩ := getF X1 hx hZ hown (host := "") (Or.inl (ow hw 101 rfl)) Via.refl e1 Gt (g := (mkF m 8 #[rv a0] [(.ref a0)])) rfl rfl (hb hby d21_8)
    refine op T2 (mkF m 11 #[rv a0] [(.int ful)]) (fun _ k => st' _ k) ?_
    refine own_iteT Rga (Kga Z rng ful a0 h0 n0) (fun hc11 => ?_) (fun hc11 => ?_)
    · skip
      refine op T2 (mkF m 19 #[rv a0] [(.int 1)]) (fun _ k => XS.ifNo X2.here hx rfl (hb hby d21_11) rfl ((if0 _ _).trans (teq hc11).2) (XS.iconst X2.here hx rfl (hb hby d21_14) (XS.goto X2.here hx rfl (pc0 := 15) (pc' := 19) rfl (hb hby d21_15) (by decide) (by decide) k))) ?_
      exact own_ret (w := (.int 1)) X2 hx Bd.notSynchronized Bd.returns rfl (Or.inl ⟨rfl, by simp, _, rfl⟩) (hb hby d21_19) (by rw [e2]; exact ⟨NF0, KP0⟩) (by decide) (by decide)
    · skip
      refine op T2 (mkF m 18 #[rv a0] []) (fun _ k => XS.ifYes X2.here hx rfl (pc0 := 11) (pc' := 18) rfl (hb hby d21_11) rfl ((if0 _ _).trans (feq hc11).2) (by decide) (by decide) k) ?_
      exact gga_18 hw rng ful a0 Bd hml hZ T2 X2 e2 SZ0 NF0 KP0 Ga Gq Gt
  · skip
    refine op T1 (mkF m 18 #[rv a0] []) (fun _ k => XS.ifYes X1.here hx rfl (pc0 := 4) (pc' := 18) rfl (hb hby d21_4) rfl ((if0 _ _).trans (flt hc4).2.2.2) (by decide) (by decide) k) ?_
    exact gga_18 hw rng ful a0 Bd hml hZ T1 X1 e1 SZ0 NF0 KP0 Ga Gq Gt
theorem ef_ga (m : MethodId) (a0 : Addr) : entryFrame m #[(.ref a0)] 1 = mkF m 0 #[rv a0] [] := by first | (simp [entryFrame, mkF, argsToLocals, Value.category]; done) | rfl
set_option maxRecDepth 65536 in
set_option maxHeartbeats 40000000 in
theorem rmga (l : Launch) (Z : State) (aw : Array Value) (hw : HW aw Z) (ws : List Jvm.Cond) (rng ful : Int32) (a0 : Addr) (h0 : Heap) (n0 : Nat) (SZ0 : n0 ≤ h0.size) (Ga : Exa Z h0 a0 cS) (Gq : Fld Z h0 a0 cS "ranges" "I" (.int rng)) (Gt : Fld Z h0 a0 cS "full" "Z" (.int ful)) :
    MetFree l y5 (head1 (Jvm.Cond.code y5 Un 1 (some .int) :: ws) Qga) (fun a U => a = #[(.ref a0)] ∧ Z.Warmed39 U.vm ∧ U.heap = h0) (fun _ _ _ _ _ => True) (fun _ U o U' => ∃ v L, o = .returned v ∧ own_Q (Rga (fga_0 rng ful)) (Kga Z rng ful a0 h0 n0 (fga_0 rng ful)) v U'.heap L ∧ FrameEnd U o U' L Qga.cells Qga.slots) := by
  refine MetFree.of_bodySF (plainFor_of_name own_pn2) hisR ?_
  intro p e s m args below meth c s₁ Bd hml0 hP hK
  obtain ⟨rfl, hZ, hh⟩ := hP
  have hml : c.maxLocals = 1 := hml0
  have e0 : s₁.heap = h0 := by rw [← hh, Bd.state]; rfl
  exact own_pre (fun t k => castTop (ef_ga m a0) k) (gga_0 hw rng ful a0 Bd hml hZ s₁ (Stand.of_body Bd) e0 SZ0 (Fr.nil n0) (Keep.refl _ _) Ga Gq Gt)
abbrev own_hd (w : Int32) : Int32 := f8_0 w (2 : Int32)
theorem own_hd1 : own_hd 1 = 1 := by decide
theorem own_hd4 : own_hd 4 = 2 := by decide
theorem own_t1 : (1 : Int32) - 1 = 0 := by decide
theorem own_t4 : (4 : Int32) - 2 = 2 := by decide
theorem own_wn {w : Int32} (HD : w = 1 ∨ w = 4) : ¬ w < 0 := by rcases HD with rfl | rfl <;> decide
theorem own_w0 (w : Int32) : (0 : Int32).toNatClampNeg + w.toNatClampNeg ≤ w.toNatClampNeg := by show 0 + _ ≤ _; omega
theorem own_cw {x n w : Int32} (HD : w = 1 ∨ w = 4) (h : 0 ≤ x.toInt) (h1 : x < n) (h2 : n.toInt ≤ 100) : ¬ (x * w) < 0 ∧ (x * w).toNatClampNeg + w.toNatClampNeg ≤ (n * w).toNatClampNeg := by
  rcases HD with rfl | rfl
  · exact own_c1 h h1 h2
  · exact own_c4 h h1 h2
theorem own_ga (r f : Int32) : fga_0 r f = 0 ∨ fga_0 r f = 1 := by
  unfold fga_0 fga_18; split <;> (try split) <;> simp
theorem own_tot {x g : Int32} (h1 : 0 ≤ x.toInt) (h2 : x.toInt ≤ 6) (hg : g = 0 ∨ g = 1) : 0 ≤ (x + g).toInt ∧ (x + g).toInt ≤ 7 := by
  have a := c_iadd x g; have r := rng32 (x + g)
  rcases hg with rfl | rfl
  · rw [show (0 : Int32).toInt = 0 from rfl] at a; omega
  · rw [show (1 : Int32).toInt = 1 from rfl] at a; omega
theorem own_capx {x : Int32} (h : 0 ≤ x.toInt ∧ x.toInt ≤ 7) : ¬ x < 0 ∧ x.toNatClampNeg ≤ 8 := ⟨own_n0 h.1, by have := own_nn h.1; omega⟩
theorem own_cap0 {x : Int32} (h : 0 ≤ x.toInt ∧ x.toInt ≤ 7) : ¬ (x * (0 : Int32)) < 0 ∧ (x * (0 : Int32)).toNatClampNeg ≤ 16 := by
  have a := own_m0 h.1 (by omega); exact ⟨own_n0 (by omega), by have := own_nn (x := x * 0) (by omega); omega⟩
theorem own_cap1 {x : Int32} (h : 0 ≤ x.toInt ∧ x.toInt ≤ 7) : ¬ (x * (1 : Int32)) < 0 ∧ (x * (1 : Int32)).toNatClampNeg ≤ 16 := by
  have a := own_m1 h.1 (by omega); exact ⟨own_n0 (by omega), by have := own_nn (x := x * 1) (by omega); omega⟩
theorem own_cap2 {x : Int32} (h : 0 ≤ x.toInt ∧ x.toInt ≤ 7) : ¬ (x * (2 : Int32)) < 0 ∧ (x * (2 : Int32)).toNatClampNeg ≤ 16 := by
  have a := own_m2 h.1 (by omega); exact ⟨own_n0 (by omega), by have := own_nn (x := x * 2) (by omega); omega⟩
theorem own_cap4 {x : Int32} (h : 0 ≤ x.toInt ∧ x.toInt ≤ 3) : ¬ (x * (4 : Int32)) < 0 ∧ (x * (4 : Int32)).toNatClampNeg ≤ 16 := by
  have a := own_m4 h.1 (by omega); exact ⟨own_n0 (by omega), by have := own_nn (x := x * 4) (by omega); omega⟩
theorem own_capH {x w : Int32} (HD : w = 1 ∨ w = 4) (h : 0 ≤ x.toInt ∧ x.toInt ≤ 7) : ¬ (x * own_hd w) < 0 ∧ (x * own_hd w).toNatClampNeg ≤ 16 := by
  rcases HD with rfl | rfl
  · rw [own_hd1]; exact own_cap1 h
  · rw [own_hd4]; exact own_cap2 h
theorem own_capT {x w : Int32} (HD : w = 1 ∨ w = 4) (h : 0 ≤ x.toInt ∧ x.toInt ≤ 7) : ¬ (x * (w - own_hd w)) < 0 ∧ (x * (w - own_hd w)).toNatClampNeg ≤ 16 := by
  rcases HD with rfl | rfl
  · rw [own_hd1, own_t1]; exact own_cap0 h
  · rw [own_hd4, own_t4]; exact own_cap2 h
theorem own_capW {x w : Int32} (HD : w = 1 ∨ w = 4) (h : 0 ≤ x.toInt ∧ x.toInt ≤ 3) : ¬ (x * w) < 0 ∧ (x * w).toNatClampNeg ≤ 16 := by
  rcases HD with rfl | rfl
  · exact own_cap1 ⟨h.1, by omega⟩
  · exact own_cap4 h
theorem own_capV {w : Int32} (HD : w = 1 ∨ w = 4) : ¬ w < 0 ∧ w.toNatClampNeg ≤ 4 := by rcases HD with rfl | rfl <;> decide
def gcm (p4 l0 l1 l2 l3 r0 r1 r2 r3 : Int32) : Int32 := if p4 = 1 then fcm1_0 l0 r0 else fcm4_0 l0 l1 l2 l3 r0 r1 r2 r3
theorem gcm_1 (l0 l1 l2 l3 r0 r1 r2 r3 : Int32) : gcm 1 l0 l1 l2 l3 r0 r1 r2 r3 = fcm1_0 l0 r0 := if_pos rfl
theorem gcm_4 (l0 l1 l2 l3 r0 r1 r2 r3 : Int32) : gcm 4 l0 l1 l2 l3 r0 r1 r2 r3 = fcm4_0 l0 l1 l2 l3 r0 r1 r2 r3 := if_neg (by decide)
set_option maxRecDepth 65536 in
set_option maxHeartbeats 40000000 in
theorem rmgcm (l : Launch) (Z : State) (aw : Array Value) (hw : HW aw Z) (ws : List Jvm.Cond) (p4 l0 l1 l2 l3 r0 r1 r2 r3 : Int32) (a0 a2 : Addr) (h0 : Heap) (n0 : Nat) (SZ0 : n0 ≤ h0.size) (Up : own_G Z h0 a0 p4 l0 l1 l2 l3) (Hi : own_G Z h0 a2 p4 r0 r1 r2 r3) (HD : p4 = 1 ∨ p4 = 4) :
    MetFree l y1 (head1 (Jvm.Cond.code y1 Jf 7 (some .int) :: ws) Qcm1) (fun a U => a = #[(.ref a0), (.int 0), (.ref a2), (.int 0), (.int p4)] ∧ Z.Warmed39 U.vm ∧ U.heap = h0) (fun _ _ _ _ _ => True) (fun _ U o U' => ∃ v L, o = .returned v ∧ own_Q (some (.int (gcm p4 l0 l1 l2 l3 r0 r1 r2 r3))) (fun h L => Fr n0 L ∧ Keep h0 h []) v U'.heap L ∧ FrameEnd U o U' L Qcm1.cells Qcm1.slots) := by
  rcases HD with rfl | rfl
  · rw [gcm_1]; exact rmcm1 l Z aw hw ws l0 r0 a0 a2 h0 n0 SZ0 Up.iv1 Hi.iv1
  · rw [gcm_4]; exact rmcm4 l Z aw hw ws l0 l1 l2 l3 r0 r1 r2 r3 a0 a2 h0 n0 SZ0 Up.iv4 Hi.iv4
def ght (w l0 l1 l2 l3 : Int32) : Int32 := if w = 1 then fht1a_0 l0 else fht4a_0 l0 l1 l2 l3
theorem ght_1 (l0 l1 l2 l3 : Int32) : ght 1 l0 l1 l2 l3 = fht1a_0 l0 := if_pos rfl
theorem ght_4 (l0 l1 l2 l3 : Int32) : ght 4 l0 l1 l2 l3 = fht4a_0 l0 l1 l2 l3 := if_neg (by decide)
set_option maxRecDepth 65536 in
set_option maxHeartbeats 40000000 in
theorem rmght (l : Launch) (Z : State) (aw : Array Value) (hw : HW aw Z) (ws : List Jvm.Cond) (w l0 l1 l2 l3 : Int32) (a0 a1 : Addr) (h0 : Heap) (n0 : Nat) (SZ0 : n0 ≤ h0.size) (Ga : Exa Z h0 a0 cS) (Gb : Fld Z h0 a0 cS "width" "I" (.int w)) (Gr : Fld Z h0 a0 cS "head" "I" (.int (own_hd w))) (Gp : own_G Z h0 a1 w l0 l1 l2 l3) (HD : w = 1 ∨ w = 4) :
    MetFree l y2 (head1 (Jvm.Cond.code y2 Jg 5 (some .boolean) :: ws) Qht1a) (fun a U => a = #[(.ref a0), (.ref a1), (.int 0)] ∧ Z.Warmed39 U.vm ∧ U.heap = h0) (fun _ _ _ _ _ => True) (fun _ U o U' => ∃ v L, o = .returned v ∧ own_Q (some (.int (ght w l0 l1 l2 l3))) (fun h L => Fr n0 L ∧ Keep h0 h []) v U'.heap L ∧ FrameEnd U o U' L Qht1a.cells Qht1a.slots) := by
  rcases HD with rfl | rfl
  · rw [ght_1]; exact rmht1a l Z aw hw ws l0 a0 a1 h0 n0 SZ0 Ga Gb Gr Gp.iv1
  · rw [ght_4]; exact rmht4a l Z aw hw ws l0 l1 l2 l3 a0 a1 h0 n0 SZ0 Ga Gb Gr Gp.iv4
def fgap_0 (p5 sz rng tsz ful nC nT w l0 l1 l2 l3 r0 r1 r2 r3 t0 t1 t2 t3 : Int32) : Int32 × Int32 × Int32 × Int32 × Int32 × Int32 × Int32 × Int32 := if w = 1 then ((fap1_0 p5 sz rng tsz ful nC nT l0 r0 t0).1, (fap1_0 p5 sz rng tsz ful nC nT l0 r0 t0).2.1, (fap1_0 p5 sz rng tsz ful nC nT l0 r0 t0).2.2.1, (fap1_0 p5 sz rng tsz ful nC nT l0 r0 t0).2.2.2.1, (fap1_0 p5 sz rng tsz ful nC nT l0 r0 t0).2.2.2.2, t1, t2, t3) else fap4_0 p5 sz rng tsz ful nC nT l0 l1 l2 l3 r0 r1 r2 r3 t0 t1 t2 t3
theorem gap_1 (p5 sz rng tsz ful nC nT l0 l1 l2 l3 r0 r1 r2 r3 t0 t1 t2 t3 : Int32) : fgap_0 p5 sz rng tsz ful nC nT 1 l0 l1 l2 l3 r0 r1 r2 r3 t0 t1 t2 t3 = ((fap1_0 p5 sz rng tsz ful nC nT l0 r0 t0).1, (fap1_0 p5 sz rng tsz ful nC nT l0 r0 t0).2.1, (fap1_0 p5 sz rng tsz ful nC nT l0 r0 t0).2.2.1, (fap1_0 p5 sz rng tsz ful nC nT l0 r0 t0).2.2.2.1, (fap1_0 p5 sz rng tsz ful nC nT l0 r0 t0).2.2.2.2, t1, t2, t3) := if_pos rfl
theorem gap_4 (p5 sz rng tsz ful nC nT l0 l1 l2 l3 r0 r1 r2 r3 t0 t1 t2 t3 : Int32) : fgap_0 p5 sz rng tsz ful nC nT 4 l0 l1 l2 l3 r0 r1 r2 r3 t0 t1 t2 t3 = fap4_0 p5 sz rng tsz ful nC nT l0 l1 l2 l3 r0 r1 r2 r3 t0 t1 t2 t3 := if_neg (by decide)
set_option maxRecDepth 65536 in
set_option maxHeartbeats 40000000 in
theorem rmgap (l : Launch) (Z : State) (aw : Array Value) (hw : HW aw Z) (ws : List Jvm.Cond) (p5 sz rng tsz ful nC nT w l0 l1 l2 l3 r0 r1 r2 r3 t0 t1 t2 t3 : Int32) (a0 a1 a3 sS sT sL sC sA : Addr) (h0 : Heap) (n0 : Nat) (SZ0 : n0 ≤ h0.size) (Ga : Exa Z h0 a0 cS) (Gk : Fld Z h0 a0 cS "starts" "[I" (.ref sS)) (Hm : Fld Z h0 a0 cS "tailed" "[I" (.ref sT)) (Hq : Fld Z h0 a0 cS "tails" "[I" (.ref sL)) (Gg : Fld Z h0 a0 cS "countries" "[C" (.ref sC)) (Gb : Fld Z h0 a0 cS "width" "I" (.int w)) (Gr : Fld Z h0 a0 cS "head" "I" (.int (own_hd w))) (Gw : Fld Z h0 a0 cS "after" "[I" (.ref sA)) (Gc : Fld Z h0 a0 cS "size" "I" (.int sz)) (Gq : Fld Z h0 a0 cS "ranges" "I" (.int rng)) (Hf : Fld Z h0 a0 cS "tailedSize" "I" (.int tsz)) (Gt : Fld Z h0 a0 cS "full" "Z" (.int ful)) (H6 : own_Ar Z h0 sS .int (nC * (own_hd w))) (Gx : own_Ar Z h0 sT .int nT) (Gy : own_Ar Z h0 sL .int (nT * (w - (own_hd w)))) (Gv : own_Ar Z h0 sC .char nC) (Gp : own_G Z h0 a1 w l0 l1 l2 l3) (Hn : own_G Z h0 a3 w r0 r1 r2 r3) (Gm : own_G Z h0 sA w t0 t1 t2 t3) (Gd : a0 ≠ sS) (Hb : sS ≠ sT) (Hc : sS ≠ sL) (Ha : sS ≠ sC) (Hu : sS ≠ sA) (Ge : a0 ≠ sC) (Hd : sT ≠ sC) (He : sL ≠ sC) (Hv : sC ≠ sA) (Gh : a0 ≠ sT) (Jb : sT ≠ sL) (Hx : sT ≠ sA) (Gi : a0 ≠ sL) (Hw : sL ≠ sA) (G6 : a0 ≠ sA) (H0 : a1 ≠ sC) (Hs : a1 ≠ sL) (Hr : a1 ≠ sT) (Gz : a1 ≠ sS) (Gu : a0 ≠ a1) (Mm : a3 ≠ sC) (Mn : a3 ≠ sL) (Mo : a3 ≠ sT) (Mp : a3 ≠ sS) (J4 : a0 ≠ a3) (J5 : a1 ≠ sA) (M5 : a3 ≠ sA) (HS : 0 ≤ sz.toInt) (HS2 : sz.toInt ≤ 1000) (HC : nC.toInt ≤ 100) (HT : 0 ≤ tsz.toInt) (HT2 : tsz.toInt ≤ 1000) (HN : nT.toInt ≤ 100) (HD : w = 1 ∨ w = 4) (G0 : n0 ≤ a0) (Hg : n0 ≤ sS) (Hj : n0 ≤ sT) (Hk : n0 ≤ sL) (Hh : n0 ≤ sC) (J7 : n0 ≤ sA) :
    MetFree l y4 (head1 (Jvm.Cond.code y4 Gn 8 none :: ws) Qap4) (fun a U => a = #[(.ref a0), (.ref a1), (.int 0), (.ref a3), (.int 0), (.int p5)] ∧ Z.Warmed39 U.vm ∧ U.heap = h0) (fun _ _ _ _ _ => True) (fun _ U o U' => ∃ v L, o = .returned v ∧ own_Q none (fun h L => Fr n0 L ∧ Keep h0 h [a0, sS, sT, sL, sC, sA] ∧ Exa Z h a0 cS ∧ Fld Z h a0 cS "starts" "[I" (.ref sS) ∧ Fld Z h a0 cS "tailed" "[I" (.ref sT) ∧ Fld Z h a0 cS "tails" "[I" (.ref sL) ∧ Fld Z h a0 cS "countries" "[C" (.ref sC) ∧ Fld Z h a0 cS "width" "I" (.int w) ∧ Fld Z h a0 cS "head" "I" (.int (own_hd w)) ∧ Fld Z h a0 cS "after" "[I" (.ref sA) ∧ Fld Z h a0 cS "size" "I" (.int (fgap_0 p5 sz rng tsz ful nC nT w l0 l1 l2 l3 r0 r1 r2 r3 t0 t1 t2 t3).1) ∧ Fld Z h a0 cS "ranges" "I" (.int (fgap_0 p5 sz rng tsz ful nC nT w l0 l1 l2 l3 r0 r1 r2 r3 t0 t1 t2 t3).2.1) ∧ Fld Z h a0 cS "tailedSize" "I" (.int (fgap_0 p5 sz rng tsz ful nC nT w l0 l1 l2 l3 r0 r1 r2 r3 t0 t1 t2 t3).2.2.1) ∧ Fld Z h a0 cS "full" "Z" (.int (fgap_0 p5 sz rng tsz ful nC nT w l0 l1 l2 l3 r0 r1 r2 r3 t0 t1 t2 t3).2.2.2.1) ∧ own_Ar Z h sS .int (nC * (own_hd w)) ∧ own_Ar Z h sT .int nT ∧ own_Ar Z h sL .int (nT * (w - (own_hd w))) ∧ own_Ar Z h sC .char nC ∧ own_G Z h sA w (fgap_0 p5 sz rng tsz ful nC nT w l0 l1 l2 l3 r0 r1 r2 r3 t0 t1 t2 t3).2.2.2.2.1 (fgap_0 p5 sz rng tsz ful nC nT w l0 l1 l2 l3 r0 r1 r2 r3 t0 t1 t2 t3).2.2.2.2.2.1 (fgap_0 p5 sz rng tsz ful nC nT w l0 l1 l2 l3 r0 r1 r2 r3 t0 t1 t2 t3).2.2.2.2.2.2.1 (fgap_0 p5 sz rng tsz ful nC nT w l0 l1 l2 l3 r0 r1 r2 r3 t0 t1 t2 t3).2.2.2.2.2.2.2) v U'.heap L ∧ FrameEnd U o U' L Qap4.cells Qap4.slots) := by
  rcases HD with rfl | rfl
  · rw [own_hd1] at Gr H6 Gy; rw [own_t1] at Gy
    refine own_met (rmap1 l Z aw hw ws p5 sz rng tsz ful nC nT l0 r0 t0 a0 a1 a3 sS sT sL sC sA h0 n0 SZ0 Ga Gk Hm Hq Gg Gb Gr Gw Gc Gq Hf Gt H6 Gx Gy Gv Gp.iv1 Hn.iv1 Gm.iv1 Gd Hb Hc Ha Hu Ge Hd He Hv Gh Gi G6 H0 Hs Hr Gz Gu Mm Mn Mo Mp J4 Hw Hx J5 M5 HS HS2 HC HT HT2 HN G0 Hg Hj Hk Hh J7) ?_
    intro h L hk
    obtain ⟨NF, KP, q0, q1, q2, q3, q4, q5, q6, q7, q8, q9, q10, q11, q12, q13, q14, q15, q16⟩ := hk
    rw [gap_1, own_hd1, own_t1]
    exact ⟨NF, KP, q0, q1, q2, q3, q4, q5, q6, q7, q8, q9, q10, q11, q12, q13, q14, q15, own_G.of1 q16⟩
  · rw [own_hd4] at Gr H6 Gy; rw [own_t4] at Gy
    refine own_met (rmap4 l Z aw hw ws p5 sz rng tsz ful nC nT l0 l1 l2 l3 r0 r1 r2 r3 t0 t1 t2 t3 a0 a1 a3 sS sT sL sC sA h0 n0 SZ0 Ga Gk Hm Hq Gg Gb Gr Gw Gc Gq Hf Gt H6 Gx Gy Gv Gp.iv4 Hn.iv4 Gm.iv4 Gd Hb Hc Ha Hu Ge Hd He Hv Gh Jb Hx Gi Hw G6 H0 Hs Hr Gz Gu Mm Mn Mo Mp J4 J5 M5 HS HS2 HC HT HT2 HN G0 Hg Hj Hk Hh J7) ?_
    intro h L hk
    obtain ⟨NF, KP, q0, q1, q2, q3, q4, q5, q6, q7, q8, q9, q10, q11, q12, q13, q14, q15, q16⟩ := hk
    rw [gap_4, own_hd4, own_t4]
    exact ⟨NF, KP, q0, q1, q2, q3, q4, q5, q6, q7, q8, q9, q10, q11, q12, q13, q14, q15, own_G.of4 q16⟩
abbrev Qab : Room := { frames := 3, cells := 0, slots := 0, locals := 68 }
/-! body 11, ab -/
theorem d11_0 : De Me 0 (.aload_n 0) 1 := by decide +kernel
theorem d11_1 : De Me 1 (.getfield 41) 3 := by decide +kernel
theorem d11_4 : De Me 4 (.ifCond .eq 27) 3 := by decide +kernel
theorem d11_7 : De Me 7 (.aload_n 0) 1 := by decide +kernel
theorem d11_8 : De Me 8 (.getfield 44) 3 := by decide +kernel
theorem d11_11 : De Me 11 (.ifCond .ne 24) 3 := by decide +kernel
theorem d11_14 : De Me 14 (.aload_n 1) 1 := by decide +kernel
theorem d11_15 : De Me 15 (.iload_n 2) 1 := by decide +kernel
theorem d11_16 : De Me 16 (.aload_n 0) 1 := by decide +kernel
theorem d11_17 : De Me 17 (.getfield 38) 3 := by decide +kernel
theorem d11_20 : De Me 20 (.iconst 0) 1 := by decide +kernel
theorem d11_21 : De Me 21 (.aload_n 0) 1 := by decide +kernel
theorem d11_22 : De Me 22 (.getfield 25) 3 := by decide +kernel
theorem d11_25 : De Me 25 (.invokestatic 48) 3 := by decide +kernel
theorem d11_28 : De Me 28 (.ifCond .lt 7) 3 := by decide +kernel
theorem d11_31 : De Me 31 (.iconst 1) 1 := by decide +kernel
theorem d11_32 : De Me 32 (.goto 4) 3 := by decide +kernel
theorem d11_35 : De Me 35 (.iconst 0) 1 := by decide +kernel
theorem d11_36 : De Me 36 (.ireturn) 1 := by decide +kernel
abbrev y6 : MethodName := ⟨cS, "above", "([II)Z"⟩
def Rab (t : Int32) : Option Value := some (.int t)
def Kab (Z : State) (rng ful w l0 l1 l2 l3 t0 t1 t2 t3 : Int32) (a0 a1 sA : Addr) (h0 : Heap) (n0 : Nat) (t : Int32) (h : Heap) (L : List Loc) : Prop := Fr n0 L ∧ Keep h0 h []
def fab_35 (rng ful w l0 l1 l2 l3 t0 t1 t2 t3 : Int32) : Int32 := (0 : Int32)
set_option maxRecDepth 65536 in
set_option maxHeartbeats 40000000 in
theorem gab_35 (hw : HW aw Z) {h0 : Heap} {n0 : Nat} (rng ful w l0 l1 l2 l3 t0 t1 t2 t3 : Int32) (a0 a1 sA : Addr) (HD : w = 1 ∨ w = 4)
    (Bd : BodyLoose p l y6 (head1 (Jvm.Cond.code y6 Me 3 (some .boolean) :: ws) Qab) Me 3 (some .boolean) e s m #[(.ref a0), (.ref a1), (.int 0)] below meth c s₁) (hml : c.maxLocals = 3) (hZ : Z.Warmed39 s.vm) (T0 : State) {locs : List Loc} (X0 : Stand p l e Qab s m #[(.ref a0), (.ref a1), (.int 0)] below meth c T0 locs 0 0) {h : Heap} (e0 : T0.heap = h) (SZ0 : n0 ≤ h.size) (NF0 : Fr n0 locs) (KP0 : Keep h0 h []) (Ga : Exa Z h a0 cS) (Gq : Fld Z h a0 cS "ranges" "I" (.int rng)) (Gt : Fld Z h a0 cS "full" "Z" (.int ful)) (Gw : Fld Z h a0 cS "after" "[I" (.ref sA)) (Gb : Fld Z h a0 cS "width" "I" (.int w)) (Gp : own_G Z h a1 w l0 l1 l2 l3) (Gm : own_G Z h sA w t0 t1 t2 t3) :
    own_Go p e below s Qab.cells Qab.slots (Rab (fab_35 rng ful w l0 l1 l2 l3 t0 t1 t2 t3)) (Kab Z rng ful w l0 l1 l2 l3 t0 t1 t2 t3 a0 a1 sA h0 n0 (fab_35 rng ful w l0 l1 l2 l3 t0 t1 t2 t3)) (T0.setTop (mkF m 35 #[rv a0, rv a1, iv 0] [])) := by
  have hx := Bd.exec
  have hby := Bd.bytes
  have hown : s.vm.findClass cS = some m.cls := findClass_of_methodNamed Bd.named
  have hnm := (name_of_methodNamed Bd.named Bd.method).1
  unfold fab_35
  refine op T0 (mkF m 36 #[rv a0, rv a1, iv 0] [(.int 0)]) (fun _ k => XS.iconst X0.here hx rfl (hb hby d11_35) k) ?_
  exact own_ret (w := (.int 0)) X0 hx Bd.notSynchronized Bd.returns rfl (Or.inl ⟨rfl, by simp, _, rfl⟩) (hb hby d11_36) (by rw [e0]; exact ⟨NF0, KP0⟩) (by decide) (by decide)
def fab_31 (rng ful w l0 l1 l2 l3 t0 t1 t2 t3 : Int32) : Int32 := (1 : Int32)
set_option maxRecDepth 65536 in
set_option maxHeartbeats 40000000 in
theorem gab_31 (hw : HW aw Z) {h0 : Heap} {n0 : Nat} (rng ful w l0 l1 l2 l3 t0 t1 t2 t3 : Int32) (a0 a1 sA : Addr) (HD : w = 1 ∨ w = 4)
    (Bd : BodyLoose p l y6 (head1 (Jvm.Cond.code y6 Me 3 (some .boolean) :: ws) Qab) Me 3 (some .boolean) e s m #[(.ref a0), (.ref a1), (.int 0)] below meth c s₁) (hml : c.maxLocals = 3) (hZ : Z.Warmed39 s.vm) (T0 : State) {locs : List Loc} (X0 : Stand p l e Qab s m #[(.ref a0), (.ref a1), (.int 0)] below meth c T0 locs 0 0) {h : Heap} (e0 : T0.heap = h) (SZ0 : n0 ≤ h.size) (NF0 : Fr n0 locs) (KP0 : Keep h0 h []) (Ga : Exa Z h a0 cS) (Gq : Fld Z h a0 cS "ranges" "I" (.int rng)) (Gt : Fld Z h a0 cS "full" "Z" (.int ful)) (Gw : Fld Z h a0 cS "after" "[I" (.ref sA)) (Gb : Fld Z h a0 cS "width" "I" (.int w)) (Gp : own_G Z h a1 w l0 l1 l2 l3) (Gm : own_G Z h sA w t0 t1 t2 t3) :
    own_Go p e below s Qab.cells Qab.slots (Rab (fab_31 rng ful w l0 l1 l2 l3 t0 t1 t2 t3)) (Kab Z rng ful w l0 l1 l2 l3 t0 t1 t2 t3 a0 a1 sA h0 n0 (fab_31 rng ful w l0 l1 l2 l3 t0 t1 t2 t3)) (T0.setTop (mkF m 31 #[rv a0, rv a1, iv 0] [])) := by
  have hx := Bd.exec
  have hby := Bd.bytes
  have hown : s.vm.findClass cS = some m.cls := findClass_of_methodNamed Bd.named
  have hnm := (name_of_methodNamed Bd.named Bd.method).1
  unfold fab_31
  refine op T0 (mkF m 36 #[rv a0, rv a1, iv 0] [(.int 1)]) (fun _ k => XS.iconst X0.here hx rfl (hb hby d11_31) (XS.goto X0.here hx rfl (pc0 := 32) (pc' := 36) rfl (hb hby d11_32) (by decide) (by decide) k)) ?_
  exact own_ret (w := (.int 1)) X0 hx Bd.notSynchronized Bd.returns rfl (Or.inl ⟨rfl, by simp, _, rfl⟩) (hb hby d11_36) (by rw [e0]; exact ⟨NF0, KP0⟩) (by decide) (by decide)
def fab_0 (rng ful w l0 l1 l2 l3 t0 t1 t2 t3 : Int32) : Int32 := (if rng = (0 : Int32) then (fab_31 rng ful w l0 l1 l2 l3 t0 t1 t2 t3) else (if ful = (0 : Int32) then (if (gcm w l0 l1 l2 l3 t0 t1 t2 t3) < (0 : Int32) then (fab_35 rng ful w l0 l1 l2 l3 t0 t1 t2 t3) else (fab_31 rng ful w l0 l1 l2 l3 t0 t1 t2 t3)) else (fab_35 rng ful w l0 l1 l2 l3 t0 t1 t2 t3)))
set_option maxRecDepth 65536 in
set_option maxHeartbeats 40000000 in
theorem gab_0 (hw : HW aw Z) {h0 : Heap} {n0 : Nat} (rng ful w l0 l1 l2 l3 t0 t1 t2 t3 : Int32) (a0 a1 sA : Addr) (HD : w = 1 ∨ w = 4)
    (Bd : BodyLoose p l y6 (head1 (Jvm.Cond.code y6 Me 3 (some .boolean) :: ws) Qab) Me 3 (some .boolean) e s m #[(.ref a0), (.ref a1), (.int 0)] below meth c s₁) (hml : c.maxLocals = 3) (hZ : Z.Warmed39 s.vm) (T0 : State) {locs : List Loc} (X0 : Stand p l e Qab s m #[(.ref a0), (.ref a1), (.int 0)] below meth c T0 locs 0 0) (e0 : T0.heap = h0) (SZ0 : n0 ≤ h0.size) (NF0 : Fr n0 locs) (KP0 : Keep h0 h0 []) (Ga : Exa Z h0 a0 cS) (Gq : Fld Z h0 a0 cS "ranges" "I" (.int rng)) (Gt : Fld Z h0 a0 cS "full" "Z" (.int ful)) (Gw : Fld Z h0 a0 cS "after" "[I" (.ref sA)) (Gb : Fld Z h0 a0 cS "width" "I" (.int w)) (Gp : own_G Z h0 a1 w l0 l1 l2 l3) (Gm : own_G Z h0 sA w t0 t1 t2 t3) :
    own_Go p e below s Qab.cells Qab.slots (Rab (fab_0 rng ful w l0 l1 l2 l3 t0 t1 t2 t3)) (Kab Z rng ful w l0 l1 l2 l3 t0 t1 t2 t3 a0 a1 sA h0 n0 (fab_0 rng ful w l0 l1 l2 l3 t0 t1 t2 t3)) (T0.setTop (mkF m 0 #[rv a0, rv a1, iv 0] [])) := by
  have hx := Bd.exec
  have hby := Bd.bytes
  have hown : s.vm.findClass cS = some m.cls := findClass_of_methodNamed Bd.named
  have hnm := (name_of_methodNamed Bd.named Bd.method).1
  unfold fab_0
  refine op T0 (mkF m 1 #[rv a0, rv a1, iv 0] [(.ref a0)]) (fun _ k => XS.aloadN X0.here hx rfl (hb hby d11_0) rfl rfl k) ?_
  obtain ⟨T1, X1, e1, st'⟩ := getF X0 hx hZ hown (host := "") (Or.inl (ow hw 80 rfl)) Via.refl e0 Gq (g := (mkF m 1 #[rv a0, rv a1, iv 0] [(.ref a0)])) rfl rfl (hb hby d11_1)
  refine op T1 (mkF m 4 #[rv a0, rv a1, iv 0] [(.int rng)]) (fun _ k => st' _ k) ?_
  refine own_iteT Rab (Kab Z rng ful w l0 l1 l2 l3 t0 t1 t2 t3 a0 a1 sA h0 n0) (fun hc4 => ?_) (fun hc4 => ?_)
  · skip
    refine op T1 (mkF m 31 #[rv a0, rv a1, iv 0] []) (fun _ k => XS.ifYes X1.here hx rfl (pc0 := 4) (pc' := 31) rfl (hb hby d11_4) rfl ((if0 _ _).trans (teq hc4).1) (by decide) (by decide) k) ?_
    exact gab_31 hw rng ful w l0 l1 l2 l3 t0 t1 t2 t3 a0 a1 sA HD Bd hml hZ T1 X1 e1 SZ0 NF0 KP0 Ga Gq Gt Gw Gb Gp Gm
  · skip
    refine op T1 (mkF m 8 #[rv a0, rv a1, iv 0] [(.ref a0)]) (fun _ k => XS.ifNo X1.here hx rfl (hb hby d11_4) rfl ((if0 _ _).trans (feq hc4).1) (XS.aloadN X1.here hx rfl (hb hby d11_7) rfl rfl k)) ?_
    obtain ⟨T2, X2, e2, st'⟩ := getF X1 hx hZ hown (host := "") (Or.inl (ow hw 101 rfl)) Via.refl e1 Gt (g := (mkF m 8 #[rv a0, rv a1, iv 0] [(.ref a0)])) rfl rfl (hb hby d11_8)
    refine op T2 (mkF m 11 #[rv a0, rv a1, iv 0] [(.int ful)]) (fun _ k => st' _ k) ?_
    refine own_iteT Rab (Kab Z rng ful w l0 l1 l2 l3 t0 t1 t2 t3 a0 a1 sA h0 n0) (fun hc11 => ?_) (fun hc11 => ?_)
    · skip
      refine op T2 (mkF m 17 #[rv a0, rv a1, iv 0] [(.ref a0), (.int 0), (.ref a1)]) (fun _ k => XS.ifNo X2.here hx rfl (hb hby d11_11) rfl ((if0 _ _).trans (teq hc11).2) (XS.aloadN X2.here hx rfl (hb hby d11_14) rfl rfl (XS.iloadN X2.here hx rfl (hb hby d11_15) rfl (XS.aloadN X2.here hx rfl (hb hby d11_16) rfl rfl k)))) ?_
      obtain ⟨T3, X3, e3, st'⟩ := getF X2 hx hZ hown (host := "") (Or.inl (ow hw 63 rfl)) Via.refl e2 Gw (g := (mkF m 17 #[rv a0, rv a1, iv 0] [(.ref a0), (.int 0), (.ref a1)])) rfl rfl (hb hby d11_17)
      refine op T3 (mkF m 22 #[rv a0, rv a1, iv 0] [(.ref a0), (.int 0), (.ref sA), (.int 0), (.ref a1)]) (fun _ k => st' _ (XS.iconst X3.here hx rfl (hb hby d11_20) (XS.aloadN X3.here hx rfl (hb hby d11_21) rfl rfl k))) ?_
      obtain ⟨T4, X4, e4, st'⟩ := getF X3 hx hZ hown (host := "") (Or.inl (ow hw 55 rfl)) Via.refl e3 Gb (g := (mkF m 22 #[rv a0, rv a1, iv 0] [(.ref a0), (.int 0), (.ref sA), (.int 0), (.ref a1)])) rfl rfl (hb hby d11_22)
      refine op T4 (mkF m 25 #[rv a0, rv a1, iv 0] [(.int w), (.int 0), (.ref sA), (.int 0), (.ref a1)]) (fun _ k => st' _ k) ?_
      obtain ⟨_, _, ⟨T5, L5, k5, n5⟩, -, X5', ⟨Lc5, hQ5, l5, y5, z5⟩, st'⟩ := Jvm.LawKit.callS X4 hx (y := y1) hown (mvT hZ (ow hw 105 rfl)) (mvT hZ (ow hw 106 rfl)) (mvT hZ (ow hw 107 rfl)) (mvT hZ (ow hw 108 rfl)) (by decide) (backOf (W := 0) (rmgcm l Z aw hw [] w l0 l1 l2 l3 t0 t1 t2 t3 a1 sA h0 n0 SZ0 Gp Gm HD) hZ (ow hw 108 rfl) (ow hw 107 rfl) (by decide) (by decide)) (g := (mkF m 25 #[rv a0, rv a1, iv 0] [(.int w), (.int 0), (.ref sA), (.int 0), (.ref a1)])) rfl (by rw [hml]; rfl) (argsL := [(.ref a1), (.int 0), (.ref sA), (.int 0), (.int w)]) (rest := []) (lenOf own_pd2 rfl) rfl (by show 2 * 0 + _ ≤ _; exact Nat.le_of_eq rfl) (hb hby d11_25) (fun _ _ => ⟨rfl, e4, (by decide : 0 + 0 ≤ _), (by decide : 0 + 0 ≤ _)⟩)
      dsimp only [Pt.U, Pt.locs, Pt.cells, Pt.slots] at X5' l5 y5 z5 st' hQ5
      subst l5 y5 z5
      obtain ⟨rfl, NFq5, KPq5⟩ := hQ5
      have X5 : Stand p l e Qab s m #[(.ref a0), (.ref a1), (.int 0)] below meth c T5 _ 0 0 := X5'
      have NF5 := Fr.app NF0 NFq5
      have SZ5 : n0 ≤ T5.heap.size := Nat.le_trans SZ0 KPq5.1
      have KP5 : Keep h0 T5.heap [] := KP0.trans KPq5 all0
      have f6 := Ga.keep KPq5
      have f7 := Gq.keep KPq5 nin0
      have f8 := Gt.keep KPq5 nin0
      have f9 := Gw.keep KPq5 nin0
      have f10 := Gb.keep KPq5 nin0
      have f11 := Gp.keep KPq5 nin0
      have f12 := Gm.keep KPq5 nin0
      refine op T5 (mkF m 28 #[rv a0, rv a1, iv 0] [(.int (gcm w l0 l1 l2 l3 t0 t1 t2 t3))]) (fun _ k => st' _ k) ?_
      refine own_iteT Rab (Kab Z rng ful w l0 l1 l2 l3 t0 t1 t2 t3 a0 a1 sA h0 n0) (fun hc28 => ?_) (fun hc28 => ?_)
      · skip
        refine op T5 (mkF m 35 #[rv a0, rv a1, iv 0] []) (fun _ k => XS.ifYes X5.here hx rfl (pc0 := 28) (pc' := 35) rfl (hb hby d11_28) rfl ((if0 _ _).trans (tlt hc28).1) (by decide) (by decide) k) ?_
        exact gab_35 hw rng ful w l0 l1 l2 l3 t0 t1 t2 t3 a0 a1 sA HD Bd hml hZ T5 X5 (rfl : T5.heap = T5.heap) SZ5 NF5 KP5 f6 f7 f8 f9 f10 f11 f12
      · skip
        refine op T5 (mkF m 31 #[rv a0, rv a1, iv 0] []) (fun _ k => XS.ifNo X5.here hx rfl (hb hby d11_28) rfl ((if0 _ _).trans (flt hc28).1) k) ?_
        exact gab_31 hw rng ful w l0 l1 l2 l3 t0 t1 t2 t3 a0 a1 sA HD Bd hml hZ T5 X5 (rfl : T5.heap = T5.heap) SZ5 NF5 KP5 f6 f7 f8 f9 f10 f11 f12
    · skip
      refine op T2 (mkF m 35 #[rv a0, rv a1, iv 0] []) (fun _ k => XS.ifYes X2.here hx rfl (pc0 := 11) (pc' := 35) rfl (hb hby d11_11) rfl ((if0 _ _).trans (feq hc11).2) (by decide) (by decide) k) ?_
      exact gab_35 hw rng ful w l0 l1 l2 l3 t0 t1 t2 t3 a0 a1 sA HD Bd hml hZ T2 X2 e2 SZ0 NF0 KP0 Ga Gq Gt Gw Gb Gp Gm
theorem ef_ab (m : MethodId) (a0 a1 : Addr) : entryFrame m #[(.ref a0), (.ref a1), (.int 0)] 3 = mkF m 0 #[rv a0, rv a1, iv 0] [] := by first | (simp [entryFrame, mkF, argsToLocals, Value.category]; done) | rfl
set_option maxRecDepth 65536 in
set_option maxHeartbeats 40000000 in
theorem rmab (l : Launch) (Z : State) (aw : Array Value) (hw : HW aw Z) (ws : List Jvm.Cond) (rng ful w l0 l1 l2 l3 t0 t1 t2 t3 : Int32) (a0 a1 sA : Addr) (h0 : Heap) (n0 : Nat) (SZ0 : n0 ≤ h0.size) (Ga : Exa Z h0 a0 cS) (Gq : Fld Z h0 a0 cS "ranges" "I" (.int rng)) (Gt : Fld Z h0 a0 cS "full" "Z" (.int ful)) (Gw : Fld Z h0 a0 cS "after" "[I" (.ref sA)) (Gb : Fld Z h0 a0 cS "width" "I" (.int w)) (Gp : own_G Z h0 a1 w l0 l1 l2 l3) (Gm : own_G Z h0 sA w t0 t1 t2 t3) (HD : w = 1 ∨ w = 4) :
    MetFree l y6 (head1 (Jvm.Cond.code y6 Me 3 (some .boolean) :: ws) Qab) (fun a U => a = #[(.ref a0), (.ref a1), (.int 0)] ∧ Z.Warmed39 U.vm ∧ U.heap = h0) (fun _ _ _ _ _ => True) (fun _ U o U' => ∃ v L, o = .returned v ∧ own_Q (Rab (fab_0 rng ful w l0 l1 l2 l3 t0 t1 t2 t3)) (Kab Z rng ful w l0 l1 l2 l3 t0 t1 t2 t3 a0 a1 sA h0 n0 (fab_0 rng ful w l0 l1 l2 l3 t0 t1 t2 t3)) v U'.heap L ∧ FrameEnd U o U' L Qab.cells Qab.slots) := by
  refine MetFree.of_bodySF (plainFor_of_name own_pn2) hisR ?_
  intro p e s m args below meth c s₁ Bd hml0 hP hK
  obtain ⟨rfl, hZ, hh⟩ := hP
  have hml : c.maxLocals = 3 := hml0
  have e0 : s₁.heap = h0 := by rw [← hh, Bd.state]; rfl
  exact own_pre (fun t k => castTop (ef_ab m a0 a1) k) (gab_0 hw rng ful w l0 l1 l2 l3 t0 t1 t2 t3 a0 a1 sA HD Bd hml hZ s₁ (Stand.of_body Bd) e0 SZ0 (Fr.nil n0) (Keep.refl _ _) Ga Gq Gt Gw Gb Gp Gm)
abbrev Qtl : Room := { frames := 1, cells := 0, slots := 0, locals := 24 }
theorem own_pd4 : parseMethodDescriptor "()I" = some ⟨[], some .int⟩ := by decide +kernel
/-! body 22, tl -/
theorem d22_0 : De Ub 0 (.aload_n 0) 1 := by decide +kernel
theorem d22_1 : De Ub 1 (.invokevirtual 66) 3 := by decide +kernel
theorem d22_4 : De Ub 4 (.ifCond .le 19) 3 := by decide +kernel
theorem d22_7 : De Ub 7 (.aload_n 0) 1 := by decide +kernel
theorem d22_8 : De Ub 8 (.aload_n 0) 1 := by decide +kernel
theorem d22_9 : De Ub 9 (.getfield 38) 3 := by decide +kernel
theorem d22_12 : De Ub 12 (.iconst 0) 1 := by decide +kernel
theorem d22_13 : De Ub 13 (.invokevirtual 79) 3 := by decide +kernel
theorem d22_16 : De Ub 16 (.ifCond .eq 7) 3 := by decide +kernel
theorem d22_19 : De Ub 19 (.iconst 1) 1 := by decide +kernel
theorem d22_20 : De Ub 20 (.goto 4) 3 := by decide +kernel
theorem d22_23 : De Ub 23 (.iconst 0) 1 := by decide +kernel
theorem d22_24 : De Ub 24 (.ireturn) 1 := by decide +kernel
abbrev y7 : MethodName := ⟨cS, "tailedAfterLast", "()I"⟩
def Rtl (t : Int32) : Option Value := some (.int t)
def Ktl (Z : State) (rng ful w t0 t1 t2 t3 : Int32) (a0 sA : Addr) (h0 : Heap) (n0 : Nat) (t : Int32) (h : Heap) (L : List Loc) : Prop := Fr n0 L ∧ Keep h0 h []
def ftl_23 (rng ful w t0 t1 t2 t3 : Int32) : Int32 := (0 : Int32)
set_option maxRecDepth 65536 in
set_option maxHeartbeats 40000000 in
theorem gtl_23 (hw : HW aw Z) {h0 : Heap} {n0 : Nat} (rng ful w t0 t1 t2 t3 : Int32) (a0 sA : Addr) (HD : w = 1 ∨ w = 4)
    (Bd : BodyLoose p l y7 (head1 (Jvm.Cond.code y7 Ub 1 (some .int) :: ws) Qtl) Ub 1 (some .int) e s m #[(.ref a0)] below meth c s₁) (hml : c.maxLocals = 1) (hZ : Z.Warmed39 s.vm) (T0 : State) {locs : List Loc} (X0 : Stand p l e Qtl s m #[(.ref a0)] below meth c T0 locs 0 0) {h : Heap} (e0 : T0.heap = h) (SZ0 : n0 ≤ h.size) (NF0 : Fr n0 locs) (KP0 : Keep h0 h []) (Ga : Exa Z h a0 cS) (Gq : Fld Z h a0 cS "ranges" "I" (.int rng)) (Gt : Fld Z h a0 cS "full" "Z" (.int ful)) (Gw : Fld Z h a0 cS "after" "[I" (.ref sA)) (Gb : Fld Z h a0 cS "width" "I" (.int w)) (Gr : Fld Z h a0 cS "head" "I" (.int (own_hd w))) (Gm : own_G Z h sA w t0 t1 t2 t3) :
    own_Go p e below s Qtl.cells Qtl.slots (Rtl (ftl_23 rng ful w t0 t1 t2 t3)) (Ktl Z rng ful w t0 t1 t2 t3 a0 sA h0 n0 (ftl_23 rng ful w t0 t1 t2 t3)) (T0.setTop (mkF m 23 #[rv a0] [])) := by
  have hx := Bd.exec
  have hby := Bd.bytes
  have hown : s.vm.findClass cS = some m.cls := findClass_of_methodNamed Bd.named
  have hnm := (name_of_methodNamed Bd.named Bd.method).1
  unfold ftl_23
  refine op T0 (mkF m 24 #[rv a0] [(.int 0)]) (fun _ k => XS.iconst X0.here hx rfl (hb hby d22_23) k) ?_
  exact own_ret (w := (.int 0)) X0 hx Bd.notSynchronized Bd.returns rfl (Or.inl ⟨rfl, by simp, _, rfl⟩) (hb hby d22_24) (by rw [e0]; exact ⟨NF0, KP0⟩) (by decide) (by decide)
def ftl_0 (rng ful w t0 t1 t2 t3 : Int32) : Int32 := (if (0 : Int32) < (fga_0 rng ful) then (if (ght w t0 t1 t2 t3) = (0 : Int32) then (ftl_23 rng ful w t0 t1 t2 t3) else (1 : Int32)) else (ftl_23 rng ful w t0 t1 t2 t3))
set_option maxRecDepth 65536 in
set_option maxHeartbeats 40000000 in
theorem gtl_0 (hw : HW aw Z) {h0 : Heap} {n0 : Nat} (rng ful w t0 t1 t2 t3 : Int32) (a0 sA : Addr) (HD : w = 1 ∨ w = 4)
    (Bd : BodyLoose p l y7 (head1 (Jvm.Cond.code y7 Ub 1 (some .int) :: ws) Qtl) Ub 1 (some .int) e s m #[(.ref a0)] below meth c s₁) (hml : c.maxLocals = 1) (hZ : Z.Warmed39 s.vm) (T0 : State) {locs : List Loc} (X0 : Stand p l e Qtl s m #[(.ref a0)] below meth c T0 locs 0 0) (e0 : T0.heap = h0) (SZ0 : n0 ≤ h0.size) (NF0 : Fr n0 locs) (KP0 : Keep h0 h0 []) (Ga : Exa Z h0 a0 cS) (Gq : Fld Z h0 a0 cS "ranges" "I" (.int rng)) (Gt : Fld Z h0 a0 cS "full" "Z" (.int ful)) (Gw : Fld Z h0 a0 cS "after" "[I" (.ref sA)) (Gb : Fld Z h0 a0 cS "width" "I" (.int w)) (Gr : Fld Z h0 a0 cS "head" "I" (.int (own_hd w))) (Gm : own_G Z h0 sA w t0 t1 t2 t3) :
    own_Go p e below s Qtl.cells Qtl.slots (Rtl (ftl_0 rng ful w t0 t1 t2 t3)) (Ktl Z rng ful w t0 t1 t2 t3 a0 sA h0 n0 (ftl_0 rng ful w t0 t1 t2 t3)) (T0.setTop (mkF m 0 #[rv a0] [])) := by
  have hx := Bd.exec
  have hby := Bd.bytes
  have hown : s.vm.findClass cS = some m.cls := findClass_of_methodNamed Bd.named
  have hnm := (name_of_methodNamed Bd.named Bd.method).1
  unfold ftl_0
  refine op T0 (mkF m 1 #[rv a0] [(.ref a0)]) (fun _ k => XS.aloadN X0.here hx rfl (hb hby d22_0) rfl rfl k) ?_
  obtain ⟨cq1, q1, q1'⟩ := Ga.cell
  obtain ⟨_, _, ⟨T1, L1, k1, n1⟩, -, X1', ⟨Lc1, hQ1, l1, y1, z1⟩, st'⟩ := X0.privateBack hx (y := y5) hown (mvT hZ (ow hw 138 rfl)) (mvT hZ (ow hw 139 rfl)) (mvT hZ (Jvm.Kit.selects_private (by decide) (ow hw 41 rfl) (ow hw 140 rfl) (ow hw 139 rfl))) (Cond.privateMethod_at (mvP hZ (ow hw 140 rfl) (args := #[]))) (mvT hZ (ow hw 141 rfl)) (by decide) (backOf (W := 0) (rmga l Z aw hw [] rng ful a0 h0 n0 SZ0 Ga Gq Gt) hZ (ow hw 141 rfl) (ow hw 42 rfl) (by decide) (by decide)) (g := (mkF m 1 #[rv a0] [(.ref a0)])) rfl (by rw [hml]; rfl) (Steps.refl _) (a := a0) (by rw [e0]; exact q1) q1' (argsL := []) (rest := []) (lenOf own_pd4 rfl) rfl (by show 2 * 0 + _ ≤ _; exact Nat.le_of_eq rfl) (hb hby d22_1) (fun _ _ => ⟨rfl, e0, (by decide : 0 + 0 ≤ _), (by decide : 0 + 0 ≤ _)⟩)
  dsimp only [Pt.U, Pt.locs, Pt.cells, Pt.slots] at X1' l1 y1 z1 st' hQ1
  subst l1 y1 z1
  obtain ⟨rfl, NFq1, KPq1⟩ := hQ1
  have X1 : Stand p l e Qtl s m #[(.ref a0)] below meth c T1 _ 0 0 := X1'
  have NF1 := Fr.app NF0 NFq1
  have SZ1 : n0 ≤ T1.heap.size := Nat.le_trans SZ0 KPq1.1
  have KP1 : Keep h0 T1.heap [] := KP0.trans KPq1 all0
  have f2 := Ga.keep KPq1
  have f3 := Gq.keep KPq1 nin0
  have f4 := Gt.keep KPq1 nin0
  have f5 := Gw.keep KPq1 nin0
  have f6 := Gb.keep KPq1 nin0
  have f7 := Gr.keep KPq1 nin0
  have f8 := Gm.keep KPq1 nin0
  refine op T1 (mkF m 4 #[rv a0] [(.int (fga_0 rng ful))]) (fun _ k => st'.trans k) ?_
  refine own_iteT Rtl (Ktl Z rng ful w t0 t1 t2 t3 a0 sA h0 n0) (fun hc4 => ?_) (fun hc4 => ?_)
  · skip
    refine op T1 (mkF m 9 #[rv a0] [(.ref a0), (.ref a0)]) (fun _ k => XS.ifNo X1.here hx rfl (hb hby d22_4) rfl ((if0 _ _).trans (tlt hc4).2.2.2) (XS.aloadN X1.here hx rfl (hb hby d22_7) rfl rfl (XS.aloadN X1.here hx rfl (hb hby d22_8) rfl rfl k))) ?_
    obtain ⟨T9, X9, e9, st'⟩ := getF X1 hx hZ hown (host := "") (Or.inl (ow hw 63 rfl)) Via.refl (rfl : T1.heap = T1.heap) f5 (g := (mkF m 9 #[rv a0] [(.ref a0), (.ref a0)])) rfl rfl (hb hby d22_9)
    refine op T9 (mkF m 13 #[rv a0] [(.int 0), (.ref sA), (.ref a0)]) (fun _ k => st' _ (XS.iconst X9.here hx rfl (hb hby d22_12) k)) ?_
    obtain ⟨cq10, q10, q10'⟩ := f2.cell
    obtain ⟨_, _, ⟨T10, L10, k10, n10⟩, -, X10', ⟨Lc10, hQ10, l10, y10, z10⟩, st'⟩ := X9.privateBack hx (y := y2) hown (mvT hZ (ow hw 93 rfl)) (mvT hZ (ow hw 94 rfl)) (mvT hZ (Jvm.Kit.selects_private (by decide) (ow hw 41 rfl) (ow hw 95 rfl) (ow hw 94 rfl))) (Cond.privateMethod_at (mvP hZ (ow hw 95 rfl) (args := #[]))) (mvT hZ (ow hw 96 rfl)) (by decide) (backOf (W := 0) (rmght l Z aw hw [] w t0 t1 t2 t3 a0 sA T1.heap n0 SZ1 f2 f6 f7 f8 HD) hZ (ow hw 96 rfl) (ow hw 42 rfl) (by decide) (by decide)) (g := (mkF m 13 #[rv a0] [(.int 0), (.ref sA), (.ref a0)])) rfl (by rw [hml]; rfl) (Steps.refl _) (a := a0) (by rw [e9]; exact q10) q10' (argsL := [(.ref sA), (.int 0)]) (rest := []) (lenOf own_pd1 rfl) rfl (by show 2 * 0 + _ ≤ _; exact Nat.le_of_eq rfl) (hb hby d22_13) (fun _ _ => ⟨rfl, e9, (by decide : 0 + 0 ≤ _), (by decide : 0 + 0 ≤ _)⟩)
    dsimp only [Pt.U, Pt.locs, Pt.cells, Pt.slots] at X10' l10 y10 z10 st' hQ10
    subst l10 y10 z10
    obtain ⟨rfl, NFq10, KPq10⟩ := hQ10
    have X10 : Stand p l e Qtl s m #[(.ref a0)] below meth c T10 _ 0 0 := X10'
    have NF10 := Fr.app NF1 NFq10
    have SZ10 : n0 ≤ T10.heap.size := Nat.le_trans SZ1 KPq10.1
    have KP10 : Keep h0 T10.heap [] := KP1.trans KPq10 all0
    have f11 := f2.keep KPq10
    have f12 := f3.keep KPq10 nin0
    have f13 := f4.keep KPq10 nin0
    have f14 := f5.keep KPq10 nin0
    have f15 := f6.keep KPq10 nin0
    have f16 := f7.keep KPq10 nin0
    have f17 := f8.keep KPq10 nin0
    refine op T10 (mkF m 16 #[rv a0] [(.int (ght w t0 t1 t2 t3))]) (fun _ k => st'.trans k) ?_
    refine own_iteT Rtl (Ktl Z rng ful w t0 t1 t2 t3 a0 sA h0 n0) (fun hc16 => ?_) (fun hc16 => ?_)
    · skip
      refine op T10 (mkF m 23 #[rv a0] []) (fun _ k => XS.ifYes X10.here hx rfl (pc0 := 16) (pc' := 23) rfl (hb hby d22_16) rfl ((if0 _ _).trans (teq hc16).1) (by decide) (by decide) k) ?_
      exact gtl_23 hw rng ful w t0 t1 t2 t3 a0 sA HD Bd hml hZ T10 X10 (rfl : T10.heap = T10.heap) SZ10 NF10 KP10 f11 f12 f13 f14 f15 f16 f17
    · skip
      refine op T10 (mkF m 24 #[rv a0] [(.int 1)]) (fun _ k => XS.ifNo X10.here hx rfl (hb hby d22_16) rfl ((if0 _ _).trans (feq hc16).1) (XS.iconst X10.here hx rfl (hb hby d22_19) (XS.goto X10.here hx rfl (pc0 := 20) (pc' := 24) rfl (hb hby d22_20) (by decide) (by decide) k))) ?_
      exact own_ret (w := (.int 1)) X10 hx Bd.notSynchronized Bd.returns rfl (Or.inl ⟨rfl, by simp, _, rfl⟩) (hb hby d22_24) ⟨NF10, KP10⟩ (by decide) (by decide)
  · skip
    refine op T1 (mkF m 23 #[rv a0] []) (fun _ k => XS.ifYes X1.here hx rfl (pc0 := 4) (pc' := 23) rfl (hb hby d22_4) rfl ((if0 _ _).trans (flt hc4).2.2.2) (by decide) (by decide) k) ?_
    exact gtl_23 hw rng ful w t0 t1 t2 t3 a0 sA HD Bd hml hZ T1 X1 (rfl : T1.heap = T1.heap) SZ1 NF1 KP1 f2 f3 f4 f5 f6 f7 f8
theorem ef_tl (m : MethodId) (a0 : Addr) : entryFrame m #[(.ref a0)] 1 = mkF m 0 #[rv a0] [] := by first | (simp [entryFrame, mkF, argsToLocals, Value.category]; done) | rfl
set_option maxRecDepth 65536 in
set_option maxHeartbeats 40000000 in
theorem rmtl (l : Launch) (Z : State) (aw : Array Value) (hw : HW aw Z) (ws : List Jvm.Cond) (rng ful w t0 t1 t2 t3 : Int32) (a0 sA : Addr) (h0 : Heap) (n0 : Nat) (SZ0 : n0 ≤ h0.size) (Ga : Exa Z h0 a0 cS) (Gq : Fld Z h0 a0 cS "ranges" "I" (.int rng)) (Gt : Fld Z h0 a0 cS "full" "Z" (.int ful)) (Gw : Fld Z h0 a0 cS "after" "[I" (.ref sA)) (Gb : Fld Z h0 a0 cS "width" "I" (.int w)) (Gr : Fld Z h0 a0 cS "head" "I" (.int (own_hd w))) (Gm : own_G Z h0 sA w t0 t1 t2 t3) (HD : w = 1 ∨ w = 4) :
    MetFree l y7 (head1 (Jvm.Cond.code y7 Ub 1 (some .int) :: ws) Qtl) (fun a U => a = #[(.ref a0)] ∧ Z.Warmed39 U.vm ∧ U.heap = h0) (fun _ _ _ _ _ => True) (fun _ U o U' => ∃ v L, o = .returned v ∧ own_Q (Rtl (ftl_0 rng ful w t0 t1 t2 t3)) (Ktl Z rng ful w t0 t1 t2 t3 a0 sA h0 n0 (ftl_0 rng ful w t0 t1 t2 t3)) v U'.heap L ∧ FrameEnd U o U' L Qtl.cells Qtl.slots) := by
  refine MetFree.of_bodySF (plainFor_of_name own_pn2) hisR ?_
  intro p e s m args below meth c s₁ Bd hml0 hP hK
  obtain ⟨rfl, hZ, hh⟩ := hP
  have hml : c.maxLocals = 1 := hml0
  have e0 : s₁.heap = h0 := by rw [← hh, Bd.state]; rfl
  exact own_pre (fun t k => castTop (ef_tl m a0) k) (gtl_0 hw rng ful w t0 t1 t2 t3 a0 sA HD Bd hml hZ s₁ (Stand.of_body Bd) e0 SZ0 (Fr.nil n0) (Keep.refl _ _) Ga Gq Gt Gw Gb Gr Gm)
abbrev Qac : Room := { frames := 2, cells := 0, slots := 0, locals := 44 }
/-! body 23, ac -/
theorem d23_0 : De Mc 0 (.aload_n 0) 1 := by decide +kernel
theorem d23_1 : De Mc 1 (.getfield 63) 3 := by decide +kernel
theorem d23_4 : De Mc 4 (.aload_n 0) 1 := by decide +kernel
theorem d23_5 : De Mc 5 (.invokevirtual 66) 3 := by decide +kernel
theorem d23_8 : De Mc 8 (.iadd) 1 := by decide +kernel
theorem d23_9 : De Mc 9 (.aload_n 0) 1 := by decide +kernel
theorem d23_10 : De Mc 10 (.getfield 21) 3 := by decide +kernel
theorem d23_13 : De Mc 13 (.arraylength) 1 := by decide +kernel
theorem d23_14 : De Mc 14 (.if_icmp .ne 24) 3 := by decide +kernel
theorem d23_17 : De Mc 17 (.aload_n 0) 1 := by decide +kernel
theorem d23_18 : De Mc 18 (.getfield 70) 3 := by decide +kernel
theorem d23_21 : De Mc 21 (.aload_n 0) 1 := by decide +kernel
theorem d23_22 : De Mc 22 (.invokevirtual 73) 3 := by decide +kernel
theorem d23_25 : De Mc 25 (.iadd) 1 := by decide +kernel
theorem d23_26 : De Mc 26 (.aload_n 0) 1 := by decide +kernel
theorem d23_27 : De Mc 27 (.getfield 15) 3 := by decide +kernel
theorem d23_30 : De Mc 30 (.arraylength) 1 := by decide +kernel
theorem d23_31 : De Mc 31 (.if_icmp .ne 7) 3 := by decide +kernel
theorem d23_34 : De Mc 34 (.iconst 1) 1 := by decide +kernel
theorem d23_35 : De Mc 35 (.goto 4) 3 := by decide +kernel
theorem d23_38 : De Mc 38 (.iconst 0) 1 := by decide +kernel
theorem d23_39 : De Mc 39 (.ireturn) 1 := by decide +kernel
abbrev y8 : MethodName := ⟨cS, "appendedAsCounted", "()Z"⟩
def Rac (t : Int32) : Option Value := some (.int t)
def Kac (Z : State) (sz rng tsz ful nC nT w t0 t1 t2 t3 : Int32) (a0 sC sT sA : Addr) (h0 : Heap) (n0 : Nat) (t : Int32) (h : Heap) (L : List Loc) : Prop := Fr n0 L ∧ Keep h0 h []
def fac_38 (sz rng tsz ful nC nT w t0 t1 t2 t3 : Int32) : Int32 := (0 : Int32)
set_option maxRecDepth 65536 in
set_option maxHeartbeats 40000000 in
theorem gac_38 (hw : HW aw Z) {h0 : Heap} {n0 : Nat} (sz rng tsz ful nC nT w t0 t1 t2 t3 : Int32) (a0 sC sT sA : Addr) (HD : w = 1 ∨ w = 4)
    (Bd : BodyLoose p l y8 (head1 (Jvm.Cond.code y8 Mc 1 (some .boolean) :: ws) Qac) Mc 1 (some .boolean) e s m #[(.ref a0)] below meth c s₁) (hml : c.maxLocals = 1) (hZ : Z.Warmed39 s.vm) (T0 : State) {locs : List Loc} (X0 : Stand p l e Qac s m #[(.ref a0)] below meth c T0 locs 0 0) {h : Heap} (e0 : T0.heap = h) (SZ0 : n0 ≤ h.size) (NF0 : Fr n0 locs) (KP0 : Keep h0 h []) (Ga : Exa Z h a0 cS) (Gq : Fld Z h a0 cS "ranges" "I" (.int rng)) (Gt : Fld Z h a0 cS "full" "Z" (.int ful)) (Gw : Fld Z h a0 cS "after" "[I" (.ref sA)) (Gb : Fld Z h a0 cS "width" "I" (.int w)) (Gr : Fld Z h a0 cS "head" "I" (.int (own_hd w))) (Gm : own_G Z h sA w t0 t1 t2 t3) (Gc : Fld Z h a0 cS "size" "I" (.int sz)) (Gg : Fld Z h a0 cS "countries" "[C" (.ref sC)) (Hf : Fld Z h a0 cS "tailedSize" "I" (.int tsz)) (Hm : Fld Z h a0 cS "tailed" "[I" (.ref sT)) (Gv : own_Ar Z h sC .char nC) (Gx : own_Ar Z h sT .int nT) :
    own_Go p e below s Qac.cells Qac.slots (Rac (fac_38 sz rng tsz ful nC nT w t0 t1 t2 t3)) (Kac Z sz rng tsz ful nC nT w t0 t1 t2 t3 a0 sC sT sA h0 n0 (fac_38 sz rng tsz ful nC nT w t0 t1 t2 t3)) (T0.setTop (mkF m 38 #[rv a0] [])) := by
  have hx := Bd.exec
  have hby := Bd.bytes
  have hown : s.vm.findClass cS = some m.cls := findClass_of_methodNamed Bd.named
  have hnm := (name_of_methodNamed Bd.named Bd.method).1
  unfold fac_38
  refine op T0 (mkF m 39 #[rv a0] [(.int 0)]) (fun _ k => XS.iconst X0.here hx rfl (hb hby d23_38) k) ?_
  exact own_ret (w := (.int 0)) X0 hx Bd.notSynchronized Bd.returns rfl (Or.inl ⟨rfl, by simp, _, rfl⟩) (hb hby d23_39) (by rw [e0]; exact ⟨NF0, KP0⟩) (by decide) (by decide)
def fac_0 (sz rng tsz ful nC nT w t0 t1 t2 t3 : Int32) : Int32 := (if (sz + (fga_0 rng ful)) = nC then (if (tsz + (ftl_0 rng ful w t0 t1 t2 t3)) = nT then (1 : Int32) else (fac_38 sz rng tsz ful nC nT w t0 t1 t2 t3)) else (fac_38 sz rng tsz ful nC nT w t0 t1 t2 t3))
set_option maxRecDepth 65536 in
set_option maxHeartbeats 40000000 in
theorem gac_0 (hw : HW aw Z) {h0 : Heap} {n0 : Nat} (sz rng tsz ful nC nT w t0 t1 t2 t3 : Int32) (a0 sC sT sA : Addr) (HD : w = 1 ∨ w = 4)
    (Bd : BodyLoose p l y8 (head1 (Jvm.Cond.code y8 Mc 1 (some .boolean) :: ws) Qac) Mc 1 (some .boolean) e s m #[(.ref a0)] below meth c s₁) (hml : c.maxLocals = 1) (hZ : Z.Warmed39 s.vm) (T0 : State) {locs : List Loc} (X0 : Stand p l e Qac s m #[(.ref a0)] below meth c T0 locs 0 0) (e0 : T0.heap = h0) (SZ0 : n0 ≤ h0.size) (NF0 : Fr n0 locs) (KP0 : Keep h0 h0 []) (Ga : Exa Z h0 a0 cS) (Gq : Fld Z h0 a0 cS "ranges" "I" (.int rng)) (Gt : Fld Z h0 a0 cS "full" "Z" (.int ful)) (Gw : Fld Z h0 a0 cS "after" "[I" (.ref sA)) (Gb : Fld Z h0 a0 cS "width" "I" (.int w)) (Gr : Fld Z h0 a0 cS "head" "I" (.int (own_hd w))) (Gm : own_G Z h0 sA w t0 t1 t2 t3) (Gc : Fld Z h0 a0 cS "size" "I" (.int sz)) (Gg : Fld Z h0 a0 cS "countries" "[C" (.ref sC)) (Hf : Fld Z h0 a0 cS "tailedSize" "I" (.int tsz)) (Hm : Fld Z h0 a0 cS "tailed" "[I" (.ref sT)) (Gv : own_Ar Z h0 sC .char nC) (Gx : own_Ar Z h0 sT .int nT) :
    own_Go p e below s Qac.cells Qac.slots (Rac (fac_0 sz rng tsz ful nC nT w t0 t1 t2 t3)) (Kac Z sz rng tsz ful nC nT w t0 t1 t2 t3 a0 sC sT sA h0 n0 (fac_0 sz rng tsz ful nC nT w t0 t1 t2 t3)) (T0.setTop (mkF m 0 #[rv a0] [])) := by
  have hx := Bd.exec
  have hby := Bd.bytes
  have hown : s.vm.findClass cS = some m.cls := findClass_of_methodNamed Bd.named
  have hnm := (name_of_methodNamed Bd.named Bd.method).1
  unfold fac_0
  refine op T0 (mkF m 1 #[rv a0] [(.ref a0)]) (fun _ k => XS.aloadN X0.here hx rfl (hb hby d23_0) rfl rfl k) ?_
  obtain ⟨T1, X1, e1, st'⟩ := getF X0 hx hZ hown (host := "") (Or.inl (ow hw 91 rfl)) Via.refl e0 Gc (g := (mkF m 1 #[rv a0] [(.ref a0)])) rfl rfl (hb hby d23_1)
  refine op T1 (mkF m 5 #[rv a0] [(.ref a0), (.int sz)]) (fun _ k => st' _ (XS.aloadN X1.here hx rfl (hb hby d23_4) rfl rfl k)) ?_
  obtain ⟨cq2, q2, q2'⟩ := Ga.cell
  obtain ⟨_, _, ⟨T2, L2, k2, n2⟩, -, X2', ⟨Lc2, hQ2, l2, y2, z2⟩, st'⟩ := X1.privateBack hx (y := y5) hown (mvT hZ (ow hw 138 rfl)) (mvT hZ (ow hw 139 rfl)) (mvT hZ (Jvm.Kit.selects_private (by decide) (ow hw 41 rfl) (ow hw 140 rfl) (ow hw 139 rfl))) (Cond.privateMethod_at (mvP hZ (ow hw 140 rfl) (args := #[]))) (mvT hZ (ow hw 141 rfl)) (by decide) (backOf (W := 1) (rmga l Z aw hw [] rng ful a0 h0 n0 SZ0 Ga Gq Gt) hZ (ow hw 141 rfl) (ow hw 42 rfl) (by decide) (by decide)) (g := (mkF m 5 #[rv a0] [(.ref a0), (.int sz)])) rfl (by rw [hml]; rfl) (Steps.refl _) (a := a0) (by rw [e1]; exact q2) q2' (argsL := []) (rest := [(.int sz)]) (lenOf own_pd4 rfl) rfl (by show 2 * 0 + _ ≤ _; exact Nat.le_of_eq rfl) (hb hby d23_5) (fun _ _ => ⟨rfl, e1, (by decide : 0 + 0 ≤ _), (by decide : 0 + 0 ≤ _)⟩)
  dsimp only [Pt.U, Pt.locs, Pt.cells, Pt.slots] at X2' l2 y2 z2 st' hQ2
  subst l2 y2 z2
  obtain ⟨rfl, NFq2, KPq2⟩ := hQ2
  have X2 : Stand p l e Qac s m #[(.ref a0)] below meth c T2 _ 0 0 := X2'
  have NF2 := Fr.app NF0 NFq2
  have SZ2 : n0 ≤ T2.heap.size := Nat.le_trans SZ0 KPq2.1
  have KP2 : Keep h0 T2.heap [] := KP0.trans KPq2 all0
  have f3 := Ga.keep KPq2
  have f4 := Gq.keep KPq2 nin0
  have f5 := Gt.keep KPq2 nin0
  have f6 := Gw.keep KPq2 nin0
  have f7 := Gb.keep KPq2 nin0
  have f8 := Gr.keep KPq2 nin0
  have f9 := Gm.keep KPq2 nin0
  have f10 := Gc.keep KPq2 nin0
  have f11 := Gg.keep KPq2 nin0
  have f12 := Hf.keep KPq2 nin0
  have f13 := Hm.keep KPq2 nin0
  have f14 := Gv.keep KPq2 nin0
  have f15 := Gx.keep KPq2 nin0
  refine op T2 (mkF m 10 #[rv a0] [(.ref a0), (.int (sz + (fga_0 rng ful)))]) (fun _ k => st'.trans (XS.iadd X2.here hx rfl (hb hby d23_8) rfl (XS.aloadN X2.here hx rfl (hb hby d23_9) rfl rfl k))) ?_
  obtain ⟨T16, X16, e16, st'⟩ := getF X2 hx hZ hown (host := "") (Or.inl (ow hw 53 rfl)) Via.refl (rfl : T2.heap = T2.heap) f11 (g := (mkF m 10 #[rv a0] [(.ref a0), (.int (sz + (fga_0 rng ful)))])) rfl rfl (hb hby d23_10)
  refine op T16 (mkF m 13 #[rv a0] [(.ref sC), (.int (sz + (fga_0 rng ful)))]) (fun _ k => st' _ k) ?_
  obtain ⟨k17, vs17, ⟨cl17, Ar17, q17, S17, N17, H17, G17⟩, hl17⟩ := id f14
  refine op T16 (mkF m 14 #[rv a0] [(.int nC), (.int (sz + (fga_0 rng ful)))]) (fun t k => X16.arraylength hx (by rw [e16]; exact Ar17.1) (State.isArrayOf_alike hZ.alike Ar17.2.1) (g := (mkF m 13 #[rv a0] [(.ref sC), (.int (sz + (fga_0 rng ful)))])) rfl rfl (hb hby d23_13) t (by rw [len_of S17 N17]; exact k)) ?_
  refine own_iteT Rac (Kac Z sz rng tsz ful nC nT w t0 t1 t2 t3 a0 sC sT sA h0 n0) (fun hc14 => ?_) (fun hc14 => ?_)
  · skip
    refine op T16 (mkF m 18 #[rv a0] [(.ref a0)]) (fun _ k => XS.icmpNo X16.here hx rfl (hb hby d23_14) rfl (teq hc14).2 (XS.aloadN X16.here hx rfl (hb hby d23_17) rfl rfl k)) ?_
    obtain ⟨T18, X18, e18, st'⟩ := getF X16 hx hZ hown (host := "") (Or.inl (ow hw 142 rfl)) Via.refl e16 f12 (g := (mkF m 18 #[rv a0] [(.ref a0)])) rfl rfl (hb hby d23_18)
    refine op T18 (mkF m 22 #[rv a0] [(.ref a0), (.int tsz)]) (fun _ k => st' _ (XS.aloadN X18.here hx rfl (hb hby d23_21) rfl rfl k)) ?_
    obtain ⟨cq19, q19, q19'⟩ := f3.cell
    obtain ⟨_, _, ⟨T19, L19, k19, n19⟩, -, X19', ⟨Lc19, hQ19, l19, y19, z19⟩, st'⟩ := X18.privateBack hx (y := y7) hown (mvT hZ (ow hw 144 rfl)) (mvT hZ (ow hw 145 rfl)) (mvT hZ (Jvm.Kit.selects_private (by decide) (ow hw 41 rfl) (ow hw 146 rfl) (ow hw 145 rfl))) (Cond.privateMethod_at (mvP hZ (ow hw 146 rfl) (args := #[]))) (mvT hZ (ow hw 147 rfl)) (by decide) (backOf (W := 1) (rmtl l Z aw hw [] rng ful w t0 t1 t2 t3 a0 sA T2.heap n0 SZ2 f3 f4 f5 f6 f7 f8 f9 HD) hZ (ow hw 147 rfl) (ow hw 42 rfl) (by decide) (by decide)) (g := (mkF m 22 #[rv a0] [(.ref a0), (.int tsz)])) rfl (by rw [hml]; rfl) (Steps.refl _) (a := a0) (by rw [e18]; exact q19) q19' (argsL := []) (rest := [(.int tsz)]) (lenOf own_pd4 rfl) rfl (by show 2 * 0 + _ ≤ _; exact Nat.le_of_eq rfl) (hb hby d23_22) (fun _ _ => ⟨rfl, e18, (by decide : 0 + 0 ≤ _), (by decide : 0 + 0 ≤ _)⟩)
    dsimp only [Pt.U, Pt.locs, Pt.cells, Pt.slots] at X19' l19 y19 z19 st' hQ19
    subst l19 y19 z19
    obtain ⟨rfl, NFq19, KPq19⟩ := hQ19
    have X19 : Stand p l e Qac s m #[(.ref a0)] below meth c T19 _ 0 0 := X19'
    have NF19 := Fr.app NF2 NFq19
    have SZ19 : n0 ≤ T19.heap.size := Nat.le_trans SZ2 KPq19.1
    have KP19 : Keep h0 T19.heap [] := KP2.trans KPq19 all0
    have f20 := f3.keep KPq19
    have f21 := f4.keep KPq19 nin0
    have f22 := f5.keep KPq19 nin0
    have f23 := f6.keep KPq19 nin0
    have f24 := f7.keep KPq19 nin0
    have f25 := f8.keep KPq19 nin0
    have f26 := f9.keep KPq19 nin0
    have f27 := f10.keep KPq19 nin0
    have f28 := f11.keep KPq19 nin0
    have f29 := f12.keep KPq19 nin0
    have f30 := f13.keep KPq19 nin0
    have f31 := f14.keep KPq19 nin0
    have f32 := f15.keep KPq19 nin0
    refine op T19 (mkF m 27 #[rv a0] [(.ref a0), (.int (tsz + (ftl_0 rng ful w t0 t1 t2 t3)))]) (fun _ k => st'.trans (XS.iadd X19.here hx rfl (hb hby d23_25) rfl (XS.aloadN X19.here hx rfl (hb hby d23_26) rfl rfl k))) ?_
    obtain ⟨T33, X33, e33, st'⟩ := getF X19 hx hZ hown (host := "") (Or.inl (ow hw 49 rfl)) Via.refl (rfl : T19.heap = T19.heap) f30 (g := (mkF m 27 #[rv a0] [(.ref a0), (.int (tsz + (ftl_0 rng ful w t0 t1 t2 t3)))])) rfl rfl (hb hby d23_27)
    refine op T33 (mkF m 30 #[rv a0] [(.ref sT), (.int (tsz + (ftl_0 rng ful w t0 t1 t2 t3)))]) (fun _ k => st' _ k) ?_
    obtain ⟨k34, vs34, ⟨cl34, Ar34, q34, S34, N34, H34, G34⟩, hl34⟩ := id f32
    refine op T33 (mkF m 31 #[rv a0] [(.int nT), (.int (tsz + (ftl_0 rng ful w t0 t1 t2 t3)))]) (fun t k => X33.arraylength hx (by rw [e33]; exact Ar34.1) (State.isArrayOf_alike hZ.alike Ar34.2.1) (g := (mkF m 30 #[rv a0] [(.ref sT), (.int (tsz + (ftl_0 rng ful w t0 t1 t2 t3)))])) rfl rfl (hb hby d23_30) t (by rw [len_of S34 N34]; exact k)) ?_
    refine own_iteT Rac (Kac Z sz rng tsz ful nC nT w t0 t1 t2 t3 a0 sC sT sA h0 n0) (fun hc31 => ?_) (fun hc31 => ?_)
    · skip
      refine op T33 (mkF m 39 #[rv a0] [(.int 1)]) (fun _ k => XS.icmpNo X33.here hx rfl (hb hby d23_31) rfl (teq hc31).2 (XS.iconst X33.here hx rfl (hb hby d23_34) (XS.goto X33.here hx rfl (pc0 := 35) (pc' := 39) rfl (hb hby d23_35) (by decide) (by decide) k))) ?_
      exact own_ret (w := (.int 1)) X33 hx Bd.notSynchronized Bd.returns rfl (Or.inl ⟨rfl, by simp, _, rfl⟩) (hb hby d23_39) (by rw [e33]; exact ⟨NF19, KP19⟩) (by decide) (by decide)
    · skip
      refine op T33 (mkF m 38 #[rv a0] []) (fun _ k => XS.icmpYes X33.here hx rfl (pc0 := 31) (pc' := 38) rfl (hb hby d23_31) rfl (feq hc31).2 (by decide) (by decide) k) ?_
      exact gac_38 hw sz rng tsz ful nC nT w t0 t1 t2 t3 a0 sC sT sA HD Bd hml hZ T33 X33 e33 SZ19 NF19 KP19 f20 f21 f22 f23 f24 f25 f26 f27 f28 f29 f30 f31 f32
  · skip
    refine op T16 (mkF m 38 #[rv a0] []) (fun _ k => XS.icmpYes X16.here hx rfl (pc0 := 14) (pc' := 38) rfl (hb hby d23_14) rfl (feq hc14).2 (by decide) (by decide) k) ?_
    exact gac_38 hw sz rng tsz ful nC nT w t0 t1 t2 t3 a0 sC sT sA HD Bd hml hZ T16 X16 e16 SZ2 NF2 KP2 f3 f4 f5 f6 f7 f8 f9 f10 f11 f12 f13 f14 f15
theorem ef_ac (m : MethodId) (a0 : Addr) : entryFrame m #[(.ref a0)] 1 = mkF m 0 #[rv a0] [] := by first | (simp [entryFrame, mkF, argsToLocals, Value.category]; done) | rfl
set_option maxRecDepth 65536 in
set_option maxHeartbeats 40000000 in
theorem rmac (l : Launch) (Z : State) (aw : Array Value) (hw : HW aw Z) (ws : List Jvm.Cond) (sz rng tsz ful nC nT w t0 t1 t2 t3 : Int32) (a0 sC sT sA : Addr) (h0 : Heap) (n0 : Nat) (SZ0 : n0 ≤ h0.size) (Ga : Exa Z h0 a0 cS) (Gq : Fld Z h0 a0 cS "ranges" "I" (.int rng)) (Gt : Fld Z h0 a0 cS "full" "Z" (.int ful)) (Gw : Fld Z h0 a0 cS "after" "[I" (.ref sA)) (Gb : Fld Z h0 a0 cS "width" "I" (.int w)) (Gr : Fld Z h0 a0 cS "head" "I" (.int (own_hd w))) (Gm : own_G Z h0 sA w t0 t1 t2 t3) (Gc : Fld Z h0 a0 cS "size" "I" (.int sz)) (Gg : Fld Z h0 a0 cS "countries" "[C" (.ref sC)) (Hf : Fld Z h0 a0 cS "tailedSize" "I" (.int tsz)) (Hm : Fld Z h0 a0 cS "tailed" "[I" (.ref sT)) (Gv : own_Ar Z h0 sC .char nC) (Gx : own_Ar Z h0 sT .int nT) (HD : w = 1 ∨ w = 4) :
    MetFree l y8 (head1 (Jvm.Cond.code y8 Mc 1 (some .boolean) :: ws) Qac) (fun a U => a = #[(.ref a0)] ∧ Z.Warmed39 U.vm ∧ U.heap = h0) (fun _ _ _ _ _ => True) (fun _ U o U' => ∃ v L, o = .returned v ∧ own_Q (Rac (fac_0 sz rng tsz ful nC nT w t0 t1 t2 t3)) (Kac Z sz rng tsz ful nC nT w t0 t1 t2 t3 a0 sC sT sA h0 n0 (fac_0 sz rng tsz ful nC nT w t0 t1 t2 t3)) v U'.heap L ∧ FrameEnd U o U' L Qac.cells Qac.slots) := by
  refine MetFree.of_bodySF (plainFor_of_name own_pn2) hisR ?_
  intro p e s m args below meth c s₁ Bd hml0 hP hK
  obtain ⟨rfl, hZ, hh⟩ := hP
  have hml : c.maxLocals = 1 := hml0
  have e0 : s₁.heap = h0 := by rw [← hh, Bd.state]; rfl
  exact own_pre (fun t k => castTop (ef_ac m a0) k) (gac_0 hw sz rng tsz ful nC nT w t0 t1 t2 t3 a0 sC sT sA HD Bd hml hZ s₁ (Stand.of_body Bd) e0 SZ0 (Fr.nil n0) (Keep.refl _ _) Ga Gq Gt Gw Gb Gr Gm Gc Gg Hf Hm Gv Gx)
theorem own_tl (r f w t0 t1 t2 t3 : Int32) : ftl_0 r f w t0 t1 t2 t3 = 0 ∨ ftl_0 r f w t0 t1 t2 t3 = 1 := by
  simp only [ftl_0, ftl_23]
  split <;> (try split) <;> simp
abbrev Qsal : Room := { frames := 2, cells := 4, slots := 48, locals := 44 }
theorem sn40 (hw : HW aw Z) : NS Z cS "tailed" "[I" cS "starts" "[I" := own_sn (la2 hw) (la0 hw) (by decide)
theorem sn41 (hw : HW aw Z) : NS Z cS "tails" "[I" cS "starts" "[I" := own_sn (la3 hw) (la0 hw) (by decide)
theorem sn42 (hw : HW aw Z) : NS Z cS "countries" "[C" cS "starts" "[I" := own_sn (la4 hw) (la0 hw) (by decide)
theorem sn43 (hw : HW aw Z) : NS Z cS "width" "I" cS "starts" "[I" := own_sn (la5 hw) (la0 hw) (by decide)
theorem sn44 (hw : HW aw Z) : NS Z cS "head" "I" cS "starts" "[I" := own_sn (la6 hw) (la0 hw) (by decide)
theorem sn45 (hw : HW aw Z) : NS Z cS "after" "[I" cS "starts" "[I" := own_sn (la7 hw) (la0 hw) (by decide)
theorem sn46 (hw : HW aw Z) : NS Z cS "size" "I" cS "starts" "[I" := own_sn (la1 hw) (la0 hw) (by decide)
theorem sn47 (hw : HW aw Z) : NS Z cS "ranges" "I" cS "starts" "[I" := own_sn (la8 hw) (la0 hw) (by decide)
theorem sn48 (hw : HW aw Z) : NS Z cS "tailedSize" "I" cS "starts" "[I" := own_sn (la9 hw) (la0 hw) (by decide)
theorem sn49 (hw : HW aw Z) : NS Z cS "full" "Z" cS "starts" "[I" := own_sn (la10 hw) (la0 hw) (by decide)
theorem sn50 (hw : HW aw Z) : NS Z cS "starts" "[I" cS "tailed" "[I" := own_sn (la0 hw) (la2 hw) (by decide)
theorem sn51 (hw : HW aw Z) : NS Z cS "tails" "[I" cS "tailed" "[I" := own_sn (la3 hw) (la2 hw) (by decide)
theorem sn52 (hw : HW aw Z) : NS Z cS "countries" "[C" cS "tailed" "[I" := own_sn (la4 hw) (la2 hw) (by decide)
theorem sn53 (hw : HW aw Z) : NS Z cS "width" "I" cS "tailed" "[I" := own_sn (la5 hw) (la2 hw) (by decide)
theorem sn54 (hw : HW aw Z) : NS Z cS "head" "I" cS "tailed" "[I" := own_sn (la6 hw) (la2 hw) (by decide)
theorem sn55 (hw : HW aw Z) : NS Z cS "after" "[I" cS "tailed" "[I" := own_sn (la7 hw) (la2 hw) (by decide)
theorem sn56 (hw : HW aw Z) : NS Z cS "size" "I" cS "tailed" "[I" := own_sn (la1 hw) (la2 hw) (by decide)
theorem sn57 (hw : HW aw Z) : NS Z cS "ranges" "I" cS "tailed" "[I" := own_sn (la8 hw) (la2 hw) (by decide)
theorem sn58 (hw : HW aw Z) : NS Z cS "tailedSize" "I" cS "tailed" "[I" := own_sn (la9 hw) (la2 hw) (by decide)
theorem sn59 (hw : HW aw Z) : NS Z cS "full" "Z" cS "tailed" "[I" := own_sn (la10 hw) (la2 hw) (by decide)
theorem sn60 (hw : HW aw Z) : NS Z cS "starts" "[I" cS "tails" "[I" := own_sn (la0 hw) (la3 hw) (by decide)
theorem sn61 (hw : HW aw Z) : NS Z cS "tailed" "[I" cS "tails" "[I" := own_sn (la2 hw) (la3 hw) (by decide)
theorem sn62 (hw : HW aw Z) : NS Z cS "countries" "[C" cS "tails" "[I" := own_sn (la4 hw) (la3 hw) (by decide)
theorem sn63 (hw : HW aw Z) : NS Z cS "width" "I" cS "tails" "[I" := own_sn (la5 hw) (la3 hw) (by decide)
theorem sn64 (hw : HW aw Z) : NS Z cS "head" "I" cS "tails" "[I" := own_sn (la6 hw) (la3 hw) (by decide)
theorem sn65 (hw : HW aw Z) : NS Z cS "after" "[I" cS "tails" "[I" := own_sn (la7 hw) (la3 hw) (by decide)
theorem sn66 (hw : HW aw Z) : NS Z cS "size" "I" cS "tails" "[I" := own_sn (la1 hw) (la3 hw) (by decide)
theorem sn67 (hw : HW aw Z) : NS Z cS "ranges" "I" cS "tails" "[I" := own_sn (la8 hw) (la3 hw) (by decide)
theorem sn68 (hw : HW aw Z) : NS Z cS "tailedSize" "I" cS "tails" "[I" := own_sn (la9 hw) (la3 hw) (by decide)
theorem sn69 (hw : HW aw Z) : NS Z cS "full" "Z" cS "tails" "[I" := own_sn (la10 hw) (la3 hw) (by decide)
theorem sn70 (hw : HW aw Z) : NS Z cS "starts" "[I" cS "countries" "[C" := own_sn (la0 hw) (la4 hw) (by decide)
theorem sn71 (hw : HW aw Z) : NS Z cS "tailed" "[I" cS "countries" "[C" := own_sn (la2 hw) (la4 hw) (by decide)
theorem sn72 (hw : HW aw Z) : NS Z cS "tails" "[I" cS "countries" "[C" := own_sn (la3 hw) (la4 hw) (by decide)
theorem sn73 (hw : HW aw Z) : NS Z cS "width" "I" cS "countries" "[C" := own_sn (la5 hw) (la4 hw) (by decide)
theorem sn74 (hw : HW aw Z) : NS Z cS "head" "I" cS "countries" "[C" := own_sn (la6 hw) (la4 hw) (by decide)
theorem sn75 (hw : HW aw Z) : NS Z cS "after" "[I" cS "countries" "[C" := own_sn (la7 hw) (la4 hw) (by decide)
theorem sn76 (hw : HW aw Z) : NS Z cS "size" "I" cS "countries" "[C" := own_sn (la1 hw) (la4 hw) (by decide)
theorem sn77 (hw : HW aw Z) : NS Z cS "ranges" "I" cS "countries" "[C" := own_sn (la8 hw) (la4 hw) (by decide)
theorem sn78 (hw : HW aw Z) : NS Z cS "tailedSize" "I" cS "countries" "[C" := own_sn (la9 hw) (la4 hw) (by decide)
theorem sn79 (hw : HW aw Z) : NS Z cS "full" "Z" cS "countries" "[C" := own_sn (la10 hw) (la4 hw) (by decide)
/-! body 20, sal -/
theorem d20_0 : De Ho 0 (.aload_n 0) 1 := by decide +kernel
theorem d20_1 : De Ho 1 (.getfield 63) 3 := by decide +kernel
theorem d20_4 : De Ho 4 (.aload_n 0) 1 := by decide +kernel
theorem d20_5 : De Ho 5 (.invokevirtual 66) 3 := by decide +kernel
theorem d20_8 : De Ho 8 (.iadd) 1 := by decide +kernel
theorem d20_9 : De Ho 9 (.istore_n 1) 1 := by decide +kernel
theorem d20_10 : De Ho 10 (.aload_n 0) 1 := by decide +kernel
theorem d20_11 : De Ho 11 (.getfield 70) 3 := by decide +kernel
theorem d20_14 : De Ho 14 (.aload_n 0) 1 := by decide +kernel
theorem d20_15 : De Ho 15 (.invokevirtual 73) 3 := by decide +kernel
theorem d20_18 : De Ho 18 (.iadd) 1 := by decide +kernel
theorem d20_19 : De Ho 19 (.istore_n 2) 1 := by decide +kernel
theorem d20_20 : De Ho 20 (.aload_n 0) 1 := by decide +kernel
theorem d20_21 : De Ho 21 (.iload_n 1) 1 := by decide +kernel
theorem d20_22 : De Ho 22 (.aload_n 0) 1 := by decide +kernel
theorem d20_23 : De Ho 23 (.getfield 35) 3 := by decide +kernel
theorem d20_26 : De Ho 26 (.imul) 1 := by decide +kernel
theorem d20_27 : De Ho 27 (.newarray .int) 2 := by decide +kernel
theorem d20_29 : De Ho 29 (.putfield 9) 3 := by decide +kernel
theorem d20_32 : De Ho 32 (.aload_n 0) 1 := by decide +kernel
theorem d20_33 : De Ho 33 (.iload_n 2) 1 := by decide +kernel
theorem d20_34 : De Ho 34 (.newarray .int) 2 := by decide +kernel
theorem d20_36 : De Ho 36 (.putfield 15) 3 := by decide +kernel
theorem d20_39 : De Ho 39 (.aload_n 0) 1 := by decide +kernel
theorem d20_40 : De Ho 40 (.iload_n 2) 1 := by decide +kernel
theorem d20_41 : De Ho 41 (.aload_n 0) 1 := by decide +kernel
theorem d20_42 : De Ho 42 (.getfield 25) 3 := by decide +kernel
theorem d20_45 : De Ho 45 (.aload_n 0) 1 := by decide +kernel
theorem d20_46 : De Ho 46 (.getfield 35) 3 := by decide +kernel
theorem d20_49 : De Ho 49 (.isub) 1 := by decide +kernel
theorem d20_50 : De Ho 50 (.imul) 1 := by decide +kernel
theorem d20_51 : De Ho 51 (.newarray .int) 2 := by decide +kernel
theorem d20_53 : De Ho 53 (.putfield 18) 3 := by decide +kernel
theorem d20_56 : De Ho 56 (.aload_n 0) 1 := by decide +kernel
theorem d20_57 : De Ho 57 (.iload_n 1) 1 := by decide +kernel
theorem d20_58 : De Ho 58 (.newarray .char) 2 := by decide +kernel
theorem d20_60 : De Ho 60 (.putfield 21) 3 := by decide +kernel
theorem d20_63 : De Ho 63 (.aload_n 0) 1 := by decide +kernel
theorem d20_64 : De Ho 64 (.iconst 0) 1 := by decide +kernel
theorem d20_65 : De Ho 65 (.putfield 63) 3 := by decide +kernel
theorem d20_68 : De Ho 68 (.aload_n 0) 1 := by decide +kernel
theorem d20_69 : De Ho 69 (.iconst 0) 1 := by decide +kernel
theorem d20_70 : De Ho 70 (.putfield 70) 3 := by decide +kernel
theorem d20_73 : De Ho 73 (.aload_n 0) 1 := by decide +kernel
theorem d20_74 : De Ho 74 (.iconst 0) 1 := by decide +kernel
theorem d20_75 : De Ho 75 (.putfield 41) 3 := by decide +kernel
theorem d20_78 : De Ho 78 (.return_) 1 := by decide +kernel
abbrev y9 : MethodName := ⟨cS, "allocate", "()V"⟩
def Rsal (t : Int32 × Int32) : Option Value := none
def Ksal (Z : State) (sz rng tsz ful w t0 t1 t2 t3 : Int32) (a0 sS sT sL sC sA : Addr) (h0 : Heap) (n0 : Nat) (t : Int32 × Int32) (h : Heap) (L : List Loc) : Prop := ∃ qS qT qL qC : Addr, Fr n0 L ∧ Keep h0 h [a0] ∧ h0.size ≤ qS ∧ h0.size ≤ qT ∧ h0.size ≤ qL ∧ h0.size ≤ qC ∧ qS ≠ qT ∧ qS ≠ qL ∧ qT ≠ qL ∧ qS ≠ qC ∧ qT ≠ qC ∧ qL ≠ qC ∧ Exa Z h a0 cS ∧ Fld Z h a0 cS "starts" "[I" (.ref qS) ∧ Fld Z h a0 cS "tailed" "[I" (.ref qT) ∧ Fld Z h a0 cS "tails" "[I" (.ref qL) ∧ Fld Z h a0 cS "countries" "[C" (.ref qC) ∧ Fld Z h a0 cS "width" "I" (.int w) ∧ Fld Z h a0 cS "head" "I" (.int (own_hd w)) ∧ Fld Z h a0 cS "after" "[I" (.ref sA) ∧ Fld Z h a0 cS "size" "I" (.int 0) ∧ Fld Z h a0 cS "ranges" "I" (.int 0) ∧ Fld Z h a0 cS "tailedSize" "I" (.int 0) ∧ Fld Z h a0 cS "full" "Z" (.int ful) ∧ own_Ar Z h qS .int (t.1 * (own_hd w)) ∧ own_Ar Z h qT .int t.2 ∧ own_Ar Z h qL .int (t.2 * (w - (own_hd w))) ∧ own_Ar Z h qC .char t.1
def fsal_20 (sz rng tsz ful w t0 t1 t2 t3 x1 x2 : Int32) : Int32 × Int32 := (x1, x2)
set_option maxRecDepth 65536 in
set_option maxHeartbeats 40000000 in
theorem gsal_20 (hw : HW aw Z) {h0 : Heap} {n0 : Nat} (sz rng tsz ful w t0 t1 t2 t3 : Int32) (a0 sS sT sL sC sA : Addr) (G6 : a0 ≠ sA) (HS : 0 ≤ sz.toInt) (HS6 : sz.toInt ≤ 6) (HT : 0 ≤ tsz.toInt) (HT6 : tsz.toInt ≤ 6) (HD : w = 1 ∨ w = 4) (x1 x2 : Int32) (I1 : 0 ≤ x1.toInt ∧ x1.toInt ≤ 7) (I2 : 0 ≤ x2.toInt ∧ x2.toInt ≤ 7)
    (Bd : BodyLoose p l y9 (head1 (Jvm.Cond.code y9 Ho 3 none :: ws) Qsal) Ho 3 none e s m #[(.ref a0)] below meth c s₁) (hml : c.maxLocals = 3) (hZ : Z.Warmed39 s.vm) (G0 : n0 ≤ a0) (T0 : State) {locs : List Loc} (X0 : Stand p l e Qsal s m #[(.ref a0)] below meth c T0 locs 0 0) {h : Heap} (e0 : T0.heap = h) (SZ0 : n0 ≤ h.size) (NF0 : Fr n0 locs) (KP0 : Keep h0 h [a0]) (Ga : Exa Z h a0 cS) (Gk : Fld Z h a0 cS "starts" "[I" (.ref sS)) (Hm : Fld Z h a0 cS "tailed" "[I" (.ref sT)) (Hq : Fld Z h a0 cS "tails" "[I" (.ref sL)) (Gg : Fld Z h a0 cS "countries" "[C" (.ref sC)) (Gb : Fld Z h a0 cS "width" "I" (.int w)) (Gr : Fld Z h a0 cS "head" "I" (.int (own_hd w))) (Gw : Fld Z h a0 cS "after" "[I" (.ref sA)) (Gc : Fld Z h a0 cS "size" "I" (.int sz)) (Gq : Fld Z h a0 cS "ranges" "I" (.int rng)) (Hf : Fld Z h a0 cS "tailedSize" "I" (.int tsz)) (Gt : Fld Z h a0 cS "full" "Z" (.int ful)) (Gm : own_G Z h sA w t0 t1 t2 t3) :
    own_Go p e below s Qsal.cells Qsal.slots (Rsal (fsal_20 sz rng tsz ful w t0 t1 t2 t3 x1 x2)) (Ksal Z sz rng tsz ful w t0 t1 t2 t3 a0 sS sT sL sC sA h0 n0 (fsal_20 sz rng tsz ful w t0 t1 t2 t3 x1 x2)) (T0.setTop (mkF m 20 #[rv a0, iv x1, iv x2] [])) := by
  have hx := Bd.exec
  have hby := Bd.bytes
  have hown : s.vm.findClass cS = some m.cls := findClass_of_methodNamed Bd.named
  have hnm := (name_of_methodNamed Bd.named Bd.method).1
  unfold fsal_20
  refine op T0 (mkF m 23 #[rv a0, iv x1, iv x2] [(.ref a0), (.int x1), (.ref a0)]) (fun _ k => XS.aloadN X0.here hx rfl (hb hby d20_20) rfl rfl (XS.iloadN X0.here hx rfl (hb hby d20_21) rfl (XS.aloadN X0.here hx rfl (hb hby d20_22) rfl rfl k))) ?_
  obtain ⟨T1, X1, e1, st'⟩ := getF X0 hx hZ hown (host := "") (Or.inl (ow hw 61 rfl)) Via.refl e0 Gr (g := (mkF m 23 #[rv a0, iv x1, iv x2] [(.ref a0), (.int x1), (.ref a0)])) rfl rfl (hb hby d20_23)
  refine op T1 (mkF m 27 #[rv a0, iv x1, iv x2] [(.int (x1 * (own_hd w))), (.ref a0)]) (fun _ k => st' _ (XS.imul X1.here hx rfl (hb hby d20_26) rfl k)) ?_
  obtain ⟨T2, h2, k2, X2, e2, E2, A2, st'⟩ := newP X1 hx hZ (ow hw 16 rfl) e1 (g := (mkF m 27 #[rv a0, iv x1, iv x2] [(.int (x1 * (own_hd w))), (.ref a0)])) rfl (hb hby d20_27) rfl (own_capH HD I1).1 (cap := 16) (own_capH HD I1).2 (by decide) (by decide) (by decide)
  obtain ⟨b2, g2⟩ : ∃ z, z = h.size := ⟨_, rfl⟩
  rw [← g2] at A2 st'
  have Uc : n0 ≤ b2 := Nat.le_trans SZ0 (Nat.le_of_eq g2.symm)
  have Uh : a0 ≠ b2 := Nat.ne_of_lt (Nat.lt_of_lt_of_le Ga.lt (Nat.le_of_eq g2.symm))
  have ne_sA_b2 : sA ≠ b2 := Nat.ne_of_lt (Nat.lt_of_lt_of_le Gm.lt (Nat.le_of_eq g2.symm))
  have V0 : h0.size ≤ b2 := Nat.le_trans KP0.1 (Nat.le_of_eq g2.symm)
  have KP2 := KP0.ext E2
  have SZ2 : n0 ≤ h2.size := Nat.le_trans SZ0 E2.1
  have f3 := Ga.ext E2
  have f4 := Gk.ext E2
  have f5 := Hm.ext E2
  have f6 := Hq.ext E2
  have f7 := Gg.ext E2
  have f8 := Gb.ext E2
  have f9 := Gr.ext E2
  have f10 := Gw.ext E2
  have f11 := Gc.ext E2
  have f12 := Gq.ext E2
  have f13 := Hf.ext E2
  have f14 := Gt.ext E2
  have f15 := Gm.ext E2
  have f16 : own_Ar Z h2 b2 .int (x1 * (own_hd w)) := own_arNew A2 (own_capH HD I1).1 rfl
  refine op T2 (mkF m 29 #[rv a0, iv x1, iv x2] [(.ref b2), (.ref a0)]) (fun _ k => st' _ k) ?_
  obtain ⟨T17, h17, X17, e17, W17, st'⟩ := putF X2 hx hZ hown (host := "") (Or.inl (ow hw 47 rfl)) Via.refl e2 f4 f3 (Or.inl (ow hw 48 rfl)) (ow hw 41 rfl) (ty := (.array .int)) (by decide) rfl rfl (g := (mkF m 29 #[rv a0, iv x1, iv x2] [(.ref b2), (.ref a0)])) rfl rfl (hb hby d20_29)
  have f18 := f4.same W17
  have f19 := f3.wr W17
  have f20 := f5.other W17 (Or.inr (sn40 hw))
  have f21 := f6.other W17 (Or.inr (sn41 hw))
  have f22 := f7.other W17 (Or.inr (sn42 hw))
  have f23 := f8.other W17 (Or.inr (sn43 hw))
  have f24 := f9.other W17 (Or.inr (sn44 hw))
  have f25 := f10.other W17 (Or.inr (sn45 hw))
  have f26 := f11.other W17 (Or.inr (sn46 hw))
  have f27 := f12.other W17 (Or.inr (sn47 hw))
  have f28 := f13.other W17 (Or.inr (sn48 hw))
  have f29 := f14.other W17 (Or.inr (sn49 hw))
  have f30 := f15.other W17 (Ne.symm G6)
  have f31 := f16.other W17 (Ne.symm Uh)
  have NF17 := Fr.snoc X17 NF0 G0
  have SZ17 : n0 ≤ h17.size := (Nat.le_trans SZ2 (Keep.of_wr W17).1)
  have KP17 : Keep h0 h17 [a0] := KP2.wr W17 (Or.inl (List.mem_of_getElem? (i := 0) rfl))
  refine op T17 (mkF m 34 #[rv a0, iv x1, iv x2] [(.int x2), (.ref a0)]) (fun _ k => st' _ (XS.aloadN X17.here hx rfl (hb hby d20_32) rfl rfl (XS.iloadN X17.here hx rfl (hb hby d20_33) rfl k))) ?_
  obtain ⟨T32, h32, k32, X32, e32, E32, A32, st'⟩ := newP X17 hx hZ (ow hw 16 rfl) e17 (g := (mkF m 34 #[rv a0, iv x1, iv x2] [(.int x2), (.ref a0)])) rfl (hb hby d20_34) rfl (own_capx I2).1 (cap := 8) (own_capx I2).2 (by decide) (by decide) (by decide)
  obtain ⟨b32, g32⟩ : ∃ z, z = h17.size := ⟨_, rfl⟩
  rw [← g32] at A32 st'
  have g_b32 : n0 ≤ b32 := Nat.le_trans SZ17 (Nat.le_of_eq g32.symm)
  have Uv : a0 ≠ b32 := Nat.ne_of_lt (Nat.lt_of_lt_of_le f19.lt (Nat.le_of_eq g32.symm))
  have ne_sA_b32 : sA ≠ b32 := Nat.ne_of_lt (Nat.lt_of_lt_of_le f30.lt (Nat.le_of_eq g32.symm))
  have ne_b2_b32 : b2 ≠ b32 := Nat.ne_of_lt (Nat.lt_of_lt_of_le f31.lt (Nat.le_of_eq g32.symm))
  have sz_b32 : h0.size ≤ b32 := Nat.le_trans KP17.1 (Nat.le_of_eq g32.symm)
  have KP32 := KP17.ext E32
  have SZ32 : n0 ≤ h32.size := Nat.le_trans SZ17 E32.1
  have f33 := f19.ext E32
  have f34 := f18.ext E32
  have f35 := f20.ext E32
  have f36 := f21.ext E32
  have f37 := f22.ext E32
  have f38 := f23.ext E32
  have f39 := f24.ext E32
  have f40 := f25.ext E32
  have f41 := f26.ext E32
  have f42 := f27.ext E32
  have f43 := f28.ext E32
  have f44 := f29.ext E32
  have f45 := f30.ext E32
  have f46 := f31.ext E32
  have f47 : own_Ar Z h32 b32 .int x2 := own_arNew A32 (own_capx I2).1 rfl
  refine op T32 (mkF m 36 #[rv a0, iv x1, iv x2] [(.ref b32), (.ref a0)]) (fun _ k => st' _ k) ?_
  obtain ⟨T48, h48, X48, e48, W48, st'⟩ := putF X32 hx hZ hown (host := "") (Or.inl (ow hw 49 rfl)) Via.refl e32 f35 f33 (Or.inl (ow hw 50 rfl)) (ow hw 41 rfl) (ty := (.array .int)) (by decide) rfl rfl (g := (mkF m 36 #[rv a0, iv x1, iv x2] [(.ref b32), (.ref a0)])) rfl rfl (hb hby d20_36)
  have f49 := f35.same W48
  have f50 := f33.wr W48
  have f51 := f34.other W48 (Or.inr (sn50 hw))
  have f52 := f36.other W48 (Or.inr (sn51 hw))
  have f53 := f37.other W48 (Or.inr (sn52 hw))
  have f54 := f38.other W48 (Or.inr (sn53 hw))
  have f55 := f39.other W48 (Or.inr (sn54 hw))
  have f56 := f40.other W48 (Or.inr (sn55 hw))
  have f57 := f41.other W48 (Or.inr (sn56 hw))
  have f58 := f42.other W48 (Or.inr (sn57 hw))
  have f59 := f43.other W48 (Or.inr (sn58 hw))
  have f60 := f44.other W48 (Or.inr (sn59 hw))
  have f61 := f45.other W48 (Ne.symm G6)
  have f62 := f46.other W48 (Ne.symm Uh)
  have f63 := f47.other W48 (Ne.symm Uv)
  have NF48 := Fr.snoc X48 NF17 G0
  have SZ48 : n0 ≤ h48.size := (Nat.le_trans SZ32 (Keep.of_wr W48).1)
  have KP48 : Keep h0 h48 [a0] := KP32.wr W48 (Or.inl (List.mem_of_getElem? (i := 0) rfl))
  refine op T48 (mkF m 42 #[rv a0, iv x1, iv x2] [(.ref a0), (.int x2), (.ref a0)]) (fun _ k => st' _ (XS.aloadN X48.here hx rfl (hb hby d20_39) rfl rfl (XS.iloadN X48.here hx rfl (hb hby d20_40) rfl (XS.aloadN X48.here hx rfl (hb hby d20_41) rfl rfl k)))) ?_
  obtain ⟨T64, X64, e64, st'⟩ := getF X48 hx hZ hown (host := "") (Or.inl (ow hw 55 rfl)) Via.refl e48 f54 (g := (mkF m 42 #[rv a0, iv x1, iv x2] [(.ref a0), (.int x2), (.ref a0)])) rfl rfl (hb hby d20_42)
  refine op T64 (mkF m 46 #[rv a0, iv x1, iv x2] [(.ref a0), (.int w), (.int x2), (.ref a0)]) (fun _ k => st' _ (XS.aloadN X64.here hx rfl (hb hby d20_45) rfl rfl k)) ?_
  obtain ⟨T65, X65, e65, st'⟩ := getF X64 hx hZ hown (host := "") (Or.inl (ow hw 61 rfl)) Via.refl e64 f55 (g := (mkF m 46 #[rv a0, iv x1, iv x2] [(.ref a0), (.int w), (.int x2), (.ref a0)])) rfl rfl (hb hby d20_46)
  refine op T65 (mkF m 51 #[rv a0, iv x1, iv x2] [(.int (x2 * (w - (own_hd w)))), (.ref a0)]) (fun _ k => st' _ (XS.isub X65.here hx rfl (hb hby d20_49) rfl (XS.imul X65.here hx rfl (hb hby d20_50) rfl k))) ?_
  obtain ⟨T66, h66, k66, X66, e66, E66, A66, st'⟩ := newP X65 hx hZ (ow hw 16 rfl) e65 (g := (mkF m 51 #[rv a0, iv x1, iv x2] [(.int (x2 * (w - (own_hd w)))), (.ref a0)])) rfl (hb hby d20_51) rfl (own_capT HD I2).1 (cap := 16) (own_capT HD I2).2 (by decide) (by decide) (by decide)
  obtain ⟨b66, g66⟩ : ∃ z, z = h48.size := ⟨_, rfl⟩
  rw [← g66] at A66 st'
  have g_b66 : n0 ≤ b66 := Nat.le_trans SZ48 (Nat.le_of_eq g66.symm)
  have Yg : a0 ≠ b66 := Nat.ne_of_lt (Nat.lt_of_lt_of_le f50.lt (Nat.le_of_eq g66.symm))
  have ne_sA_b66 : sA ≠ b66 := Nat.ne_of_lt (Nat.lt_of_lt_of_le f61.lt (Nat.le_of_eq g66.symm))
  have ne_b2_b66 : b2 ≠ b66 := Nat.ne_of_lt (Nat.lt_of_lt_of_le f62.lt (Nat.le_of_eq g66.symm))
  have ne_b32_b66 : b32 ≠ b66 := Nat.ne_of_lt (Nat.lt_of_lt_of_le f63.lt (Nat.le_of_eq g66.symm))
  have sz_b66 : h0.size ≤ b66 := Nat.le_trans KP48.1 (Nat.le_of_eq g66.symm)
  have KP66 := KP48.ext E66
  have SZ66 : n0 ≤ h66.size := Nat.le_trans SZ48 E66.1
  have f67 := f50.ext E66
  have f68 := f51.ext E66
  have f69 := f49.ext E66
  have f70 := f52.ext E66
  have f71 := f53.ext E66
  have f72 := f54.ext E66
  have f73 := f55.ext E66
  have f74 := f56.ext E66
  have f75 := f57.ext E66
  have f76 := f58.ext E66
  have f77 := f59.ext E66
  have f78 := f60.ext E66
  have f79 := f61.ext E66
  have f80 := f62.ext E66
  have f81 := f63.ext E66
  have f82 : own_Ar Z h66 b66 .int (x2 * (w - (own_hd w))) := own_arNew A66 (own_capT HD I2).1 rfl
  refine op T66 (mkF m 53 #[rv a0, iv x1, iv x2] [(.ref b66), (.ref a0)]) (fun _ k => st' _ k) ?_
  obtain ⟨T83, h83, X83, e83, W83, st'⟩ := putF X66 hx hZ hown (host := "") (Or.inl (ow hw 51 rfl)) Via.refl e66 f70 f67 (Or.inl (ow hw 52 rfl)) (ow hw 41 rfl) (ty := (.array .int)) (by decide) rfl rfl (g := (mkF m 53 #[rv a0, iv x1, iv x2] [(.ref b66), (.ref a0)])) rfl rfl (hb hby d20_53)
  have f84 := f70.same W83
  have f85 := f67.wr W83
  have f86 := f68.other W83 (Or.inr (sn60 hw))
  have f87 := f69.other W83 (Or.inr (sn61 hw))
  have f88 := f71.other W83 (Or.inr (sn62 hw))
  have f89 := f72.other W83 (Or.inr (sn63 hw))
  have f90 := f73.other W83 (Or.inr (sn64 hw))
  have f91 := f74.other W83 (Or.inr (sn65 hw))
  have f92 := f75.other W83 (Or.inr (sn66 hw))
  have f93 := f76.other W83 (Or.inr (sn67 hw))
  have f94 := f77.other W83 (Or.inr (sn68 hw))
  have f95 := f78.other W83 (Or.inr (sn69 hw))
  have f96 := f79.other W83 (Ne.symm G6)
  have f97 := f80.other W83 (Ne.symm Uh)
  have f98 := f81.other W83 (Ne.symm Uv)
  have f99 := f82.other W83 (Ne.symm Yg)
  have NF83 := Fr.snoc X83 NF48 G0
  have SZ83 : n0 ≤ h83.size := (Nat.le_trans SZ66 (Keep.of_wr W83).1)
  have KP83 : Keep h0 h83 [a0] := KP66.wr W83 (Or.inl (List.mem_of_getElem? (i := 0) rfl))
  refine op T83 (mkF m 58 #[rv a0, iv x1, iv x2] [(.int x1), (.ref a0)]) (fun _ k => st' _ (XS.aloadN X83.here hx rfl (hb hby d20_56) rfl rfl (XS.iloadN X83.here hx rfl (hb hby d20_57) rfl k))) ?_
  obtain ⟨T100, h100, k100, X100, e100, E100, A100, st'⟩ := newP X83 hx hZ (ow hw 33 rfl) e83 (g := (mkF m 58 #[rv a0, iv x1, iv x2] [(.int x1), (.ref a0)])) rfl (hb hby d20_58) rfl (own_capx I1).1 (cap := 8) (own_capx I1).2 (by decide) (by decide) (by decide)
  obtain ⟨b100, g100⟩ : ∃ z, z = h83.size := ⟨_, rfl⟩
  rw [← g100] at A100 st'
  have g_b100 : n0 ≤ b100 := Nat.le_trans SZ83 (Nat.le_of_eq g100.symm)
  have G0e : a0 ≠ b100 := Nat.ne_of_lt (Nat.lt_of_lt_of_le f85.lt (Nat.le_of_eq g100.symm))
  have ne_sA_b100 : sA ≠ b100 := Nat.ne_of_lt (Nat.lt_of_lt_of_le f96.lt (Nat.le_of_eq g100.symm))
  have ne_b2_b100 : b2 ≠ b100 := Nat.ne_of_lt (Nat.lt_of_lt_of_le f97.lt (Nat.le_of_eq g100.symm))
  have ne_b32_b100 : b32 ≠ b100 := Nat.ne_of_lt (Nat.lt_of_lt_of_le f98.lt (Nat.le_of_eq g100.symm))
  have ne_b66_b100 : b66 ≠ b100 := Nat.ne_of_lt (Nat.lt_of_lt_of_le f99.lt (Nat.le_of_eq g100.symm))
  have sz_b100 : h0.size ≤ b100 := Nat.le_trans KP83.1 (Nat.le_of_eq g100.symm)
  have KP100 := KP83.ext E100
  have SZ100 : n0 ≤ h100.size := Nat.le_trans SZ83 E100.1
  have f101 := f85.ext E100
  have f102 := f86.ext E100
  have f103 := f87.ext E100
  have f104 := f84.ext E100
  have f105 := f88.ext E100
  have f106 := f89.ext E100
  have f107 := f90.ext E100
  have f108 := f91.ext E100
  have f109 := f92.ext E100
  have f110 := f93.ext E100
  have f111 := f94.ext E100
  have f112 := f95.ext E100
  have f113 := f96.ext E100
  have f114 := f97.ext E100
  have f115 := f98.ext E100
  have f116 := f99.ext E100
  have f117 : own_Ar Z h100 b100 .char x1 := own_arNew A100 (own_capx I1).1 rfl
  refine op T100 (mkF m 60 #[rv a0, iv x1, iv x2] [(.ref b100), (.ref a0)]) (fun _ k => st' _ k) ?_
  obtain ⟨T118, h118, X118, e118, W118, st'⟩ := putF X100 hx hZ hown (host := "") (Or.inl (ow hw 53 rfl)) Via.refl e100 f105 f101 (Or.inl (ow hw 54 rfl)) (ow hw 41 rfl) (ty := (.array .char)) (by decide) rfl rfl (g := (mkF m 60 #[rv a0, iv x1, iv x2] [(.ref b100), (.ref a0)])) rfl rfl (hb hby d20_60)
  have f119 := f105.same W118
  have f120 := f101.wr W118
  have f121 := f102.other W118 (Or.inr (sn70 hw))
  have f122 := f103.other W118 (Or.inr (sn71 hw))
  have f123 := f104.other W118 (Or.inr (sn72 hw))
  have f124 := f106.other W118 (Or.inr (sn73 hw))
  have f125 := f107.other W118 (Or.inr (sn74 hw))
  have f126 := f108.other W118 (Or.inr (sn75 hw))
  have f127 := f109.other W118 (Or.inr (sn76 hw))
  have f128 := f110.other W118 (Or.inr (sn77 hw))
  have f129 := f111.other W118 (Or.inr (sn78 hw))
  have f130 := f112.other W118 (Or.inr (sn79 hw))
  have f131 := f113.other W118 (Ne.symm G6)
  have f132 := f114.other W118 (Ne.symm Uh)
  have f133 := f115.other W118 (Ne.symm Uv)
  have f134 := f116.other W118 (Ne.symm Yg)
  have f135 := f117.other W118 (Ne.symm G0e)
  have NF118 := Fr.snoc X118 NF83 G0
  have SZ118 : n0 ≤ h118.size := (Nat.le_trans SZ100 (Keep.of_wr W118).1)
  have KP118 : Keep h0 h118 [a0] := KP100.wr W118 (Or.inl (List.mem_of_getElem? (i := 0) rfl))
  refine op T118 (mkF m 65 #[rv a0, iv x1, iv x2] [(.int 0), (.ref a0)]) (fun _ k => st' _ (XS.aloadN X118.here hx rfl (hb hby d20_63) rfl rfl (XS.iconst X118.here hx rfl (hb hby d20_64) k))) ?_
  obtain ⟨T136, h136, X136, e136, W136, st'⟩ := putF X118 hx hZ hown (host := "") (Or.inl (ow hw 91 rfl)) Via.refl e118 f127 f120 (Or.inl (ow hw 92 rfl)) (ow hw 41 rfl) (ty := .int) (by decide) rfl rfl (g := (mkF m 65 #[rv a0, iv x1, iv x2] [(.int 0), (.ref a0)])) rfl rfl (hb hby d20_65)
  have f137 := f127.same W136
  have f138 := f120.wr W136
  have f139 := f121.other W136 (Or.inr (sn0 hw))
  have f140 := f122.other W136 (Or.inr (sn1 hw))
  have f141 := f123.other W136 (Or.inr (sn2 hw))
  have f142 := f119.other W136 (Or.inr (sn3 hw))
  have f143 := f124.other W136 (Or.inr (sn4 hw))
  have f144 := f125.other W136 (Or.inr (sn5 hw))
  have f145 := f126.other W136 (Or.inr (sn6 hw))
  have f146 := f128.other W136 (Or.inr (sn7 hw))
  have f147 := f129.other W136 (Or.inr (sn8 hw))
  have f148 := f130.other W136 (Or.inr (sn9 hw))
  have f149 := f131.other W136 (Ne.symm G6)
  have f150 := f132.other W136 (Ne.symm Uh)
  have f151 := f133.other W136 (Ne.symm Uv)
  have f152 := f134.other W136 (Ne.symm Yg)
  have f153 := f135.other W136 (Ne.symm G0e)
  have NF136 := Fr.snoc X136 NF118 G0
  have SZ136 : n0 ≤ h136.size := (Nat.le_trans SZ118 (Keep.of_wr W136).1)
  have KP136 : Keep h0 h136 [a0] := KP118.wr W136 (Or.inl (List.mem_of_getElem? (i := 0) rfl))
  refine op T136 (mkF m 70 #[rv a0, iv x1, iv x2] [(.int 0), (.ref a0)]) (fun _ k => st' _ (XS.aloadN X136.here hx rfl (hb hby d20_68) rfl rfl (XS.iconst X136.here hx rfl (hb hby d20_69) k))) ?_
  obtain ⟨T154, h154, X154, e154, W154, st'⟩ := putF X136 hx hZ hown (host := "") (Or.inl (ow hw 142 rfl)) Via.refl e136 f147 f138 (Or.inl (ow hw 143 rfl)) (ow hw 41 rfl) (ty := .int) (by decide) rfl rfl (g := (mkF m 70 #[rv a0, iv x1, iv x2] [(.int 0), (.ref a0)])) rfl rfl (hb hby d20_70)
  have f155 := f147.same W154
  have f156 := f138.wr W154
  have f157 := f139.other W154 (Or.inr (sn10 hw))
  have f158 := f140.other W154 (Or.inr (sn11 hw))
  have f159 := f141.other W154 (Or.inr (sn12 hw))
  have f160 := f142.other W154 (Or.inr (sn13 hw))
  have f161 := f143.other W154 (Or.inr (sn14 hw))
  have f162 := f144.other W154 (Or.inr (sn15 hw))
  have f163 := f145.other W154 (Or.inr (sn16 hw))
  have f164 := f137.other W154 (Or.inr (sn17 hw))
  have f165 := f146.other W154 (Or.inr (sn18 hw))
  have f166 := f148.other W154 (Or.inr (sn19 hw))
  have f167 := f149.other W154 (Ne.symm G6)
  have f168 := f150.other W154 (Ne.symm Uh)
  have f169 := f151.other W154 (Ne.symm Uv)
  have f170 := f152.other W154 (Ne.symm Yg)
  have f171 := f153.other W154 (Ne.symm G0e)
  have NF154 := Fr.snoc X154 NF136 G0
  have SZ154 : n0 ≤ h154.size := (Nat.le_trans SZ136 (Keep.of_wr W154).1)
  have KP154 : Keep h0 h154 [a0] := KP136.wr W154 (Or.inl (List.mem_of_getElem? (i := 0) rfl))
  refine op T154 (mkF m 75 #[rv a0, iv x1, iv x2] [(.int 0), (.ref a0)]) (fun _ k => st' _ (XS.aloadN X154.here hx rfl (hb hby d20_73) rfl rfl (XS.iconst X154.here hx rfl (hb hby d20_74) k))) ?_
  obtain ⟨T172, h172, X172, e172, W172, st'⟩ := putF X154 hx hZ hown (host := "") (Or.inl (ow hw 80 rfl)) Via.refl e154 f165 f156 (Or.inl (ow hw 81 rfl)) (ow hw 41 rfl) (ty := .int) (by decide) rfl rfl (g := (mkF m 75 #[rv a0, iv x1, iv x2] [(.int 0), (.ref a0)])) rfl rfl (hb hby d20_75)
  have f173 := f165.same W172
  have f174 := f156.wr W172
  have f175 := f157.other W172 (Or.inr (sn30 hw))
  have f176 := f158.other W172 (Or.inr (sn31 hw))
  have f177 := f159.other W172 (Or.inr (sn32 hw))
  have f178 := f160.other W172 (Or.inr (sn33 hw))
  have f179 := f161.other W172 (Or.inr (sn34 hw))
  have f180 := f162.other W172 (Or.inr (sn35 hw))
  have f181 := f163.other W172 (Or.inr (sn36 hw))
  have f182 := f164.other W172 (Or.inr (sn37 hw))
  have f183 := f155.other W172 (Or.inr (sn38 hw))
  have f184 := f166.other W172 (Or.inr (sn39 hw))
  have f185 := f167.other W172 (Ne.symm G6)
  have f186 := f168.other W172 (Ne.symm Uh)
  have f187 := f169.other W172 (Ne.symm Uv)
  have f188 := f170.other W172 (Ne.symm Yg)
  have f189 := f171.other W172 (Ne.symm G0e)
  have NF172 := Fr.snoc X172 NF154 G0
  have SZ172 : n0 ≤ h172.size := (Nat.le_trans SZ154 (Keep.of_wr W172).1)
  have KP172 : Keep h0 h172 [a0] := KP154.wr W172 (Or.inl (List.mem_of_getElem? (i := 0) rfl))
  refine op T172 (mkF m 78 #[rv a0, iv x1, iv x2] []) (fun _ k => st' _ k) ?_
  exact own_retV X172 hx Bd.notSynchronized Bd.returns (hb hby d20_78) (by rw [e172]; exact ⟨b2, b32, b66, b100, NF172, KP172, V0, sz_b32, sz_b66, sz_b100, ne_b2_b32, ne_b2_b66, ne_b32_b66, ne_b2_b100, ne_b32_b100, ne_b66_b100, f174, f175, f176, f177, f178, f179, f180, f181, f182, f173, f183, f184, f186, f187, f188, f189⟩) (by decide) (by decide)
def fsal_0 (sz rng tsz ful w t0 t1 t2 t3 : Int32) : Int32 × Int32 := (fsal_20 sz rng tsz ful w t0 t1 t2 t3 (sz + (fga_0 rng ful)) (tsz + (ftl_0 rng ful w t0 t1 t2 t3)))
set_option maxRecDepth 65536 in
set_option maxHeartbeats 40000000 in
theorem gsal_0 (hw : HW aw Z) {h0 : Heap} {n0 : Nat} (sz rng tsz ful w t0 t1 t2 t3 : Int32) (a0 sS sT sL sC sA : Addr) (G6 : a0 ≠ sA) (HS : 0 ≤ sz.toInt) (HS6 : sz.toInt ≤ 6) (HT : 0 ≤ tsz.toInt) (HT6 : tsz.toInt ≤ 6) (HD : w = 1 ∨ w = 4)
    (Bd : BodyLoose p l y9 (head1 (Jvm.Cond.code y9 Ho 3 none :: ws) Qsal) Ho 3 none e s m #[(.ref a0)] below meth c s₁) (hml : c.maxLocals = 3) (hZ : Z.Warmed39 s.vm) (G0 : n0 ≤ a0) (T0 : State) {locs : List Loc} (X0 : Stand p l e Qsal s m #[(.ref a0)] below meth c T0 locs 0 0) (e0 : T0.heap = h0) (SZ0 : n0 ≤ h0.size) (NF0 : Fr n0 locs) (KP0 : Keep h0 h0 [a0]) (Ga : Exa Z h0 a0 cS) (Gk : Fld Z h0 a0 cS "starts" "[I" (.ref sS)) (Hm : Fld Z h0 a0 cS "tailed" "[I" (.ref sT)) (Hq : Fld Z h0 a0 cS "tails" "[I" (.ref sL)) (Gg : Fld Z h0 a0 cS "countries" "[C" (.ref sC)) (Gb : Fld Z h0 a0 cS "width" "I" (.int w)) (Gr : Fld Z h0 a0 cS "head" "I" (.int (own_hd w))) (Gw : Fld Z h0 a0 cS "after" "[I" (.ref sA)) (Gc : Fld Z h0 a0 cS "size" "I" (.int sz)) (Gq : Fld Z h0 a0 cS "ranges" "I" (.int rng)) (Hf : Fld Z h0 a0 cS "tailedSize" "I" (.int tsz)) (Gt : Fld Z h0 a0 cS "full" "Z" (.int ful)) (Gm : own_G Z h0 sA w t0 t1 t2 t3) :
    own_Go p e below s Qsal.cells Qsal.slots (Rsal (fsal_0 sz rng tsz ful w t0 t1 t2 t3)) (Ksal Z sz rng tsz ful w t0 t1 t2 t3 a0 sS sT sL sC sA h0 n0 (fsal_0 sz rng tsz ful w t0 t1 t2 t3)) (T0.setTop (mkF m 0 #[rv a0, uu, uu] [])) := by
  have hx := Bd.exec
  have hby := Bd.bytes
  have hown : s.vm.findClass cS = some m.cls := findClass_of_methodNamed Bd.named
  have hnm := (name_of_methodNamed Bd.named Bd.method).1
  unfold fsal_0
  refine op T0 (mkF m 1 #[rv a0, uu, uu] [(.ref a0)]) (fun _ k => XS.aloadN X0.here hx rfl (hb hby d20_0) rfl rfl k) ?_
  obtain ⟨T1, X1, e1, st'⟩ := getF X0 hx hZ hown (host := "") (Or.inl (ow hw 91 rfl)) Via.refl e0 Gc (g := (mkF m 1 #[rv a0, uu, uu] [(.ref a0)])) rfl rfl (hb hby d20_1)
  refine op T1 (mkF m 5 #[rv a0, uu, uu] [(.ref a0), (.int sz)]) (fun _ k => st' _ (XS.aloadN X1.here hx rfl (hb hby d20_4) rfl rfl k)) ?_
  obtain ⟨cq2, q2, q2'⟩ := Ga.cell
  obtain ⟨_, _, ⟨T2, L2, k2, n2⟩, -, X2', ⟨Lc2, hQ2, l2, y2, z2⟩, st'⟩ := X1.privateBack hx (y := y5) hown (mvT hZ (ow hw 138 rfl)) (mvT hZ (ow hw 139 rfl)) (mvT hZ (Jvm.Kit.selects_private (by decide) (ow hw 41 rfl) (ow hw 140 rfl) (ow hw 139 rfl))) (Cond.privateMethod_at (mvP hZ (ow hw 140 rfl) (args := #[]))) (mvT hZ (ow hw 141 rfl)) (by decide) (backOf (W := 1) (rmga l Z aw hw [] rng ful a0 h0 n0 SZ0 Ga Gq Gt) hZ (ow hw 141 rfl) (ow hw 42 rfl) (by decide) (by decide)) (g := (mkF m 5 #[rv a0, uu, uu] [(.ref a0), (.int sz)])) rfl (by rw [hml]; rfl) (Steps.refl _) (a := a0) (by rw [e1]; exact q2) q2' (argsL := []) (rest := [(.int sz)]) (lenOf own_pd4 rfl) rfl (by show 2 * 0 + _ ≤ _; exact Nat.le_of_eq rfl) (hb hby d20_5) (fun _ _ => ⟨rfl, e1, (by decide : 0 + 0 ≤ _), (by decide : 0 + 0 ≤ _)⟩)
  dsimp only [Pt.U, Pt.locs, Pt.cells, Pt.slots] at X2' l2 y2 z2 st' hQ2
  subst l2 y2 z2
  obtain ⟨rfl, NFq2, KPq2⟩ := hQ2
  have X2 : Stand p l e Qsal s m #[(.ref a0)] below meth c T2 _ 0 0 := X2'
  have NF2 := Fr.app NF0 NFq2
  have SZ2 : n0 ≤ T2.heap.size := Nat.le_trans SZ0 KPq2.1
  have KP2 : Keep h0 T2.heap [a0] := KP0.trans KPq2 all0
  have f3 := Ga.keep KPq2
  have f4 := Gk.keep KPq2 nin0
  have f5 := Hm.keep KPq2 nin0
  have f6 := Hq.keep KPq2 nin0
  have f7 := Gg.keep KPq2 nin0
  have f8 := Gb.keep KPq2 nin0
  have f9 := Gr.keep KPq2 nin0
  have f10 := Gw.keep KPq2 nin0
  have f11 := Gc.keep KPq2 nin0
  have f12 := Gq.keep KPq2 nin0
  have f13 := Hf.keep KPq2 nin0
  have f14 := Gt.keep KPq2 nin0
  have f15 := Gm.keep KPq2 nin0
  refine op T2 (mkF m 11 #[rv a0, iv (sz + (fga_0 rng ful)), uu] [(.ref a0)]) (fun _ k => st'.trans (XS.iadd X2.here hx rfl (hb hby d20_8) rfl (XS.istoreN X2.here hx rfl (hb hby d20_9) rfl (l' := #[rv a0, iv (sz + (fga_0 rng ful)), uu]) rfl (XS.aloadN X2.here hx rfl (hb hby d20_10) rfl rfl k)))) ?_
  obtain ⟨T16, X16, e16, st'⟩ := getF X2 hx hZ hown (host := "") (Or.inl (ow hw 142 rfl)) Via.refl (rfl : T2.heap = T2.heap) f13 (g := (mkF m 11 #[rv a0, iv (sz + (fga_0 rng ful)), uu] [(.ref a0)])) rfl rfl (hb hby d20_11)
  refine op T16 (mkF m 15 #[rv a0, iv (sz + (fga_0 rng ful)), uu] [(.ref a0), (.int tsz)]) (fun _ k => st' _ (XS.aloadN X16.here hx rfl (hb hby d20_14) rfl rfl k)) ?_
  obtain ⟨cq17, q17, q17'⟩ := f3.cell
  obtain ⟨_, _, ⟨T17, L17, k17, n17⟩, -, X17', ⟨Lc17, hQ17, l17, y17, z17⟩, st'⟩ := X16.privateBack hx (y := y7) hown (mvT hZ (ow hw 144 rfl)) (mvT hZ (ow hw 145 rfl)) (mvT hZ (Jvm.Kit.selects_private (by decide) (ow hw 41 rfl) (ow hw 146 rfl) (ow hw 145 rfl))) (Cond.privateMethod_at (mvP hZ (ow hw 146 rfl) (args := #[]))) (mvT hZ (ow hw 147 rfl)) (by decide) (backOf (W := 1) (rmtl l Z aw hw [] rng ful w t0 t1 t2 t3 a0 sA T2.heap n0 SZ2 f3 f12 f14 f10 f8 f9 f15 HD) hZ (ow hw 147 rfl) (ow hw 42 rfl) (by decide) (by decide)) (g := (mkF m 15 #[rv a0, iv (sz + (fga_0 rng ful)), uu] [(.ref a0), (.int tsz)])) rfl (by rw [hml]; rfl) (Steps.refl _) (a := a0) (by rw [e16]; exact q17) q17' (argsL := []) (rest := [(.int tsz)]) (lenOf own_pd4 rfl) rfl (by show 2 * 0 + _ ≤ _; exact Nat.le_of_eq rfl) (hb hby d20_15) (fun _ _ => ⟨rfl, e16, (by decide : 0 + 0 ≤ _), (by decide : 0 + 0 ≤ _)⟩)
  dsimp only [Pt.U, Pt.locs, Pt.cells, Pt.slots] at X17' l17 y17 z17 st' hQ17
  subst l17 y17 z17
  obtain ⟨rfl, NFq17, KPq17⟩ := hQ17
  have X17 : Stand p l e Qsal s m #[(.ref a0)] below meth c T17 _ 0 0 := X17'
  have NF17 := Fr.app NF2 NFq17
  have SZ17 : n0 ≤ T17.heap.size := Nat.le_trans SZ2 KPq17.1
  have KP17 : Keep h0 T17.heap [a0] := KP2.trans KPq17 all0
  have f18 := f3.keep KPq17
  have f19 := f4.keep KPq17 nin0
  have f20 := f5.keep KPq17 nin0
  have f21 := f6.keep KPq17 nin0
  have f22 := f7.keep KPq17 nin0
  have f23 := f8.keep KPq17 nin0
  have f24 := f9.keep KPq17 nin0
  have f25 := f10.keep KPq17 nin0
  have f26 := f11.keep KPq17 nin0
  have f27 := f12.keep KPq17 nin0
  have f28 := f13.keep KPq17 nin0
  have f29 := f14.keep KPq17 nin0
  have f30 := f15.keep KPq17 nin0
  refine op T17 (mkF m 20 #[rv a0, iv (sz + (fga_0 rng ful)), iv (tsz + (ftl_0 rng ful w t0 t1 t2 t3))] []) (fun _ k => st'.trans (XS.iadd X17.here hx rfl (hb hby d20_18) rfl (XS.istoreN X17.here hx rfl (hb hby d20_19) rfl (l' := #[rv a0, iv (sz + (fga_0 rng ful)), iv (tsz + (ftl_0 rng ful w t0 t1 t2 t3))]) rfl k))) ?_
  exact gsal_20 hw sz rng tsz ful w t0 t1 t2 t3 a0 sS sT sL sC sA G6 HS HS6 HT HT6 HD (sz + (fga_0 rng ful)) (tsz + (ftl_0 rng ful w t0 t1 t2 t3)) (own_tot HS HS6 (own_ga _ _)) (own_tot HT HT6 (own_tl _ _ _ _ _ _ _)) Bd hml hZ G0 T17 X17 (rfl : T17.heap = T17.heap) SZ17 NF17 KP17 f18 f19 f20 f21 f22 f23 f24 f25 f26 f27 f28 f29 f30
theorem ef_sal (m : MethodId) (a0 : Addr) : entryFrame m #[(.ref a0)] 3 = mkF m 0 #[rv a0, uu, uu] [] := by first | (simp [entryFrame, mkF, argsToLocals, Value.category]; done) | rfl
set_option maxRecDepth 65536 in
set_option maxHeartbeats 40000000 in
theorem rmsal (l : Launch) (Z : State) (aw : Array Value) (hw : HW aw Z) (ws : List Jvm.Cond) (sz rng tsz ful w t0 t1 t2 t3 : Int32) (a0 sS sT sL sC sA : Addr) (h0 : Heap) (n0 : Nat) (SZ0 : n0 ≤ h0.size) (Ga : Exa Z h0 a0 cS) (Gk : Fld Z h0 a0 cS "starts" "[I" (.ref sS)) (Hm : Fld Z h0 a0 cS "tailed" "[I" (.ref sT)) (Hq : Fld Z h0 a0 cS "tails" "[I" (.ref sL)) (Gg : Fld Z h0 a0 cS "countries" "[C" (.ref sC)) (Gb : Fld Z h0 a0 cS "width" "I" (.int w)) (Gr : Fld Z h0 a0 cS "head" "I" (.int (own_hd w))) (Gw : Fld Z h0 a0 cS "after" "[I" (.ref sA)) (Gc : Fld Z h0 a0 cS "size" "I" (.int sz)) (Gq : Fld Z h0 a0 cS "ranges" "I" (.int rng)) (Hf : Fld Z h0 a0 cS "tailedSize" "I" (.int tsz)) (Gt : Fld Z h0 a0 cS "full" "Z" (.int ful)) (Gm : own_G Z h0 sA w t0 t1 t2 t3) (G6 : a0 ≠ sA) (HS : 0 ≤ sz.toInt) (HS6 : sz.toInt ≤ 6) (HT : 0 ≤ tsz.toInt) (HT6 : tsz.toInt ≤ 6) (HD : w = 1 ∨ w = 4) (G0 : n0 ≤ a0) :
    MetFree l y9 (head1 (Jvm.Cond.code y9 Ho 3 none :: ws) Qsal) (fun a U => a = #[(.ref a0)] ∧ Z.Warmed39 U.vm ∧ U.heap = h0) (fun _ _ _ _ _ => True) (fun _ U o U' => ∃ v L, o = .returned v ∧ own_Q (Rsal (fsal_0 sz rng tsz ful w t0 t1 t2 t3)) (Ksal Z sz rng tsz ful w t0 t1 t2 t3 a0 sS sT sL sC sA h0 n0 (fsal_0 sz rng tsz ful w t0 t1 t2 t3)) v U'.heap L ∧ FrameEnd U o U' L Qsal.cells Qsal.slots) := by
  refine MetFree.of_bodySF (plainFor_of_name own_pn2) hisR ?_
  intro p e s m args below meth c s₁ Bd hml0 hP hK
  obtain ⟨rfl, hZ, hh⟩ := hP
  have hml : c.maxLocals = 3 := hml0
  have e0 : s₁.heap = h0 := by rw [← hh, Bd.state]; rfl
  exact own_pre (fun t k => castTop (ef_sal m a0) k) (gsal_0 hw sz rng tsz ful w t0 t1 t2 t3 a0 sS sT sL sC sA G6 HS HS6 HT HT6 HD Bd hml hZ G0 s₁ (Stand.of_body Bd) e0 SZ0 (Fr.nil n0) (Keep.refl _ _) Ga Gk Hm Hq Gg Gb Gr Gw Gc Gq Hf Gt Gm)
abbrev Qsin : Room := { frames := 1, cells := 5, slots := 4, locals := 21 }
theorem sn80 (hw : HW aw Z) : NS Z cS "starts" "[I" cS "width" "I" := own_sn (la0 hw) (la5 hw) (by decide)
theorem sn81 (hw : HW aw Z) : NS Z cS "tailed" "[I" cS "width" "I" := own_sn (la2 hw) (la5 hw) (by decide)
theorem sn82 (hw : HW aw Z) : NS Z cS "tails" "[I" cS "width" "I" := own_sn (la3 hw) (la5 hw) (by decide)
theorem sn83 (hw : HW aw Z) : NS Z cS "countries" "[C" cS "width" "I" := own_sn (la4 hw) (la5 hw) (by decide)
theorem sn84 (hw : HW aw Z) : NS Z cS "after" "[I" cS "width" "I" := own_sn (la7 hw) (la5 hw) (by decide)
theorem sn85 (hw : HW aw Z) : NS Z cS "head" "I" cS "width" "I" := own_sn (la6 hw) (la5 hw) (by decide)
theorem sn86 (hw : HW aw Z) : NS Z cS "size" "I" cS "width" "I" := own_sn (la1 hw) (la5 hw) (by decide)
theorem sn87 (hw : HW aw Z) : NS Z cS "ranges" "I" cS "width" "I" := own_sn (la8 hw) (la5 hw) (by decide)
theorem sn88 (hw : HW aw Z) : NS Z cS "tailedSize" "I" cS "width" "I" := own_sn (la9 hw) (la5 hw) (by decide)
theorem sn89 (hw : HW aw Z) : NS Z cS "full" "Z" cS "width" "I" := own_sn (la10 hw) (la5 hw) (by decide)
abbrev y10 : MethodName := ⟨"java/lang/Math", "min", "(II)I"⟩
theorem sn90 (hw : HW aw Z) : NS Z cS "starts" "[I" cS "head" "I" := own_sn (la0 hw) (la6 hw) (by decide)
theorem sn91 (hw : HW aw Z) : NS Z cS "tailed" "[I" cS "head" "I" := own_sn (la2 hw) (la6 hw) (by decide)
theorem sn92 (hw : HW aw Z) : NS Z cS "tails" "[I" cS "head" "I" := own_sn (la3 hw) (la6 hw) (by decide)
theorem sn93 (hw : HW aw Z) : NS Z cS "countries" "[C" cS "head" "I" := own_sn (la4 hw) (la6 hw) (by decide)
theorem sn94 (hw : HW aw Z) : NS Z cS "after" "[I" cS "head" "I" := own_sn (la7 hw) (la6 hw) (by decide)
theorem sn95 (hw : HW aw Z) : NS Z cS "width" "I" cS "head" "I" := own_sn (la5 hw) (la6 hw) (by decide)
theorem sn96 (hw : HW aw Z) : NS Z cS "size" "I" cS "head" "I" := own_sn (la1 hw) (la6 hw) (by decide)
theorem sn97 (hw : HW aw Z) : NS Z cS "ranges" "I" cS "head" "I" := own_sn (la8 hw) (la6 hw) (by decide)
theorem sn98 (hw : HW aw Z) : NS Z cS "tailedSize" "I" cS "head" "I" := own_sn (la9 hw) (la6 hw) (by decide)
theorem sn99 (hw : HW aw Z) : NS Z cS "full" "Z" cS "head" "I" := own_sn (la10 hw) (la6 hw) (by decide)
theorem sn100 (hw : HW aw Z) : NS Z cS "starts" "[I" cS "after" "[I" := own_sn (la0 hw) (la7 hw) (by decide)
theorem sn101 (hw : HW aw Z) : NS Z cS "tailed" "[I" cS "after" "[I" := own_sn (la2 hw) (la7 hw) (by decide)
theorem sn102 (hw : HW aw Z) : NS Z cS "tails" "[I" cS "after" "[I" := own_sn (la3 hw) (la7 hw) (by decide)
theorem sn103 (hw : HW aw Z) : NS Z cS "countries" "[C" cS "after" "[I" := own_sn (la4 hw) (la7 hw) (by decide)
theorem sn104 (hw : HW aw Z) : NS Z cS "width" "I" cS "after" "[I" := own_sn (la5 hw) (la7 hw) (by decide)
theorem sn105 (hw : HW aw Z) : NS Z cS "head" "I" cS "after" "[I" := own_sn (la6 hw) (la7 hw) (by decide)
theorem sn106 (hw : HW aw Z) : NS Z cS "size" "I" cS "after" "[I" := own_sn (la1 hw) (la7 hw) (by decide)
theorem sn107 (hw : HW aw Z) : NS Z cS "ranges" "I" cS "after" "[I" := own_sn (la8 hw) (la7 hw) (by decide)
theorem sn108 (hw : HW aw Z) : NS Z cS "tailedSize" "I" cS "after" "[I" := own_sn (la9 hw) (la7 hw) (by decide)
theorem sn109 (hw : HW aw Z) : NS Z cS "full" "Z" cS "after" "[I" := own_sn (la10 hw) (la7 hw) (by decide)
/-! body 7, sin -/
theorem d7_0 : De Je 0 (.aload_n 0) 1 := by decide +kernel
theorem d7_1 : De Je 1 (.invokespecial 3) 3 := by decide +kernel
theorem d7_4 : De Je 4 (.aload_n 0) 1 := by decide +kernel
theorem d7_5 : De Je 5 (.iconst 0) 1 := by decide +kernel
theorem d7_6 : De Je 6 (.newarray .int) 2 := by decide +kernel
theorem d7_8 : De Je 8 (.putfield 9) 3 := by decide +kernel
theorem d7_11 : De Je 11 (.aload_n 0) 1 := by decide +kernel
theorem d7_12 : De Je 12 (.iconst 0) 1 := by decide +kernel
theorem d7_13 : De Je 13 (.newarray .int) 2 := by decide +kernel
theorem d7_15 : De Je 15 (.putfield 15) 3 := by decide +kernel
theorem d7_18 : De Je 18 (.aload_n 0) 1 := by decide +kernel
theorem d7_19 : De Je 19 (.iconst 0) 1 := by decide +kernel
theorem d7_20 : De Je 20 (.newarray .int) 2 := by decide +kernel
theorem d7_22 : De Je 22 (.putfield 18) 3 := by decide +kernel
theorem d7_25 : De Je 25 (.aload_n 0) 1 := by decide +kernel
theorem d7_26 : De Je 26 (.iconst 0) 1 := by decide +kernel
theorem d7_27 : De Je 27 (.newarray .char) 2 := by decide +kernel
theorem d7_29 : De Je 29 (.putfield 21) 3 := by decide +kernel
theorem d7_32 : De Je 32 (.aload_n 0) 1 := by decide +kernel
theorem d7_33 : De Je 33 (.iload_n 1) 1 := by decide +kernel
theorem d7_34 : De Je 34 (.putfield 25) 3 := by decide +kernel
theorem d7_37 : De Je 37 (.aload_n 0) 1 := by decide +kernel
theorem d7_38 : De Je 38 (.iload_n 1) 1 := by decide +kernel
theorem d7_39 : De Je 39 (.iconst 2) 1 := by decide +kernel
theorem d7_40 : De Je 40 (.invokestatic 29) 3 := by decide +kernel
theorem d7_43 : De Je 43 (.putfield 35) 3 := by decide +kernel
theorem d7_46 : De Je 46 (.aload_n 0) 1 := by decide +kernel
theorem d7_47 : De Je 47 (.iload_n 1) 1 := by decide +kernel
theorem d7_48 : De Je 48 (.newarray .int) 2 := by decide +kernel
theorem d7_50 : De Je 50 (.putfield 38) 3 := by decide +kernel
theorem d7_53 : De Je 53 (.return_) 1 := by decide +kernel
abbrev y11 : MethodName := ⟨cS, "<init>", "(I)V"⟩
def Rsin (t : Unit) : Option Value := none
def Ksin (Z : State) (p1 : Int32) (a0 : Addr) (h0 : Heap) (n0 : Nat) (t : Unit) (h : Heap) (L : List Loc) : Prop := ∃ qS qT qL qC qA : Addr, Fr n0 L ∧ Keep h0 h [a0] ∧ h0.size ≤ qS ∧ h0.size ≤ qT ∧ h0.size ≤ qL ∧ h0.size ≤ qC ∧ h0.size ≤ qA ∧ qS ≠ qT ∧ qS ≠ qL ∧ qT ≠ qL ∧ qS ≠ qC ∧ qT ≠ qC ∧ qL ≠ qC ∧ qS ≠ qA ∧ qT ≠ qA ∧ qL ≠ qA ∧ qC ≠ qA ∧ Exa Z h a0 cS ∧ Fld Z h a0 cS "starts" "[I" (.ref qS) ∧ Fld Z h a0 cS "tailed" "[I" (.ref qT) ∧ Fld Z h a0 cS "tails" "[I" (.ref qL) ∧ Fld Z h a0 cS "countries" "[C" (.ref qC) ∧ Fld Z h a0 cS "width" "I" (.int p1) ∧ Fld Z h a0 cS "head" "I" (.int (own_hd p1)) ∧ Fld Z h a0 cS "after" "[I" (.ref qA) ∧ Fld Z h a0 cS "size" "I" (.int 0) ∧ Fld Z h a0 cS "ranges" "I" (.int 0) ∧ Fld Z h a0 cS "tailedSize" "I" (.int 0) ∧ Fld Z h a0 cS "full" "Z" (.int 0) ∧ own_Ar Z h qS .int (0 : Int32) ∧ own_Ar Z h qT .int (0 : Int32) ∧ own_Ar Z h qL .int (0 : Int32) ∧ own_Ar Z h qC .char (0 : Int32) ∧ own_G Z h qA p1 (0 : Int32) (0 : Int32) (0 : Int32) (0 : Int32)
def fsin_0 (p1 : Int32) : Unit := ()
set_option maxRecDepth 65536 in
set_option maxHeartbeats 40000000 in
theorem gsin_0 (hw : HW aw Z) {h0 : Heap} {n0 : Nat} (p1 : Int32) (a0 : Addr) (HD : p1 = 1 ∨ p1 = 4)
    (Bd : BodyLoose p l y11 (head1 (Jvm.Cond.code y11 Je 2 none :: ws) Qsin) Je 2 none e s m #[(.ref a0), (.int p1)] below meth c s₁) (hml : c.maxLocals = 2) (hZ : Z.Warmed39 s.vm) (G0 : n0 ≤ a0) (T0 : State) {locs : List Loc} (X0 : Stand p l e Qsin s m #[(.ref a0), (.int p1)] below meth c T0 locs 0 0) (e0 : T0.heap = h0) (SZ0 : n0 ≤ h0.size) (NF0 : Fr n0 locs) (KP0 : Keep h0 h0 [a0]) (Ga : Exa Z h0 a0 cS) (Gk : Fld Z h0 a0 cS "starts" "[I" .null) (Hm : Fld Z h0 a0 cS "tailed" "[I" .null) (Hq : Fld Z h0 a0 cS "tails" "[I" .null) (Gg : Fld Z h0 a0 cS "countries" "[C" .null) (Gw : Fld Z h0 a0 cS "after" "[I" .null) (Gb : Fld Z h0 a0 cS "width" "I" (.int 0)) (Gr : Fld Z h0 a0 cS "head" "I" (.int 0)) (Gc : Fld Z h0 a0 cS "size" "I" (.int 0)) (Gq : Fld Z h0 a0 cS "ranges" "I" (.int 0)) (Hf : Fld Z h0 a0 cS "tailedSize" "I" (.int 0)) (Gt : Fld Z h0 a0 cS "full" "Z" (.int 0)) :
    own_Go p e below s Qsin.cells Qsin.slots (Rsin (fsin_0 p1)) (Ksin Z p1 a0 h0 n0 (fsin_0 p1)) (T0.setTop (mkF m 0 #[rv a0, iv p1] [])) := by
  have hx := Bd.exec
  have hby := Bd.bytes
  have hown : s.vm.findClass cS = some m.cls := findClass_of_methodNamed Bd.named
  have hnm := (name_of_methodNamed Bd.named Bd.method).1
  unfold fsin_0
  refine op T0 (mkF m 1 #[rv a0, iv p1] [(.ref a0)]) (fun _ k => XS.aloadN X0.here hx rfl (hb hby d7_0) rfl rfl k) ?_
  obtain ⟨T1, X1, e1, st'⟩ := initO X0 hx hZ hown (ow hw 46 rfl) (ow hw 25 rfl) (ow hw 26 rfl) e0 (g := (mkF m 1 #[rv a0, iv p1] [(.ref a0)])) rfl (by rw [hml]; rfl) rfl (hb hby d7_1) (by decide) (W := 0) (by show 2 * 0 + _ ≤ _; exact Nat.le_of_eq rfl) (by decide)
  refine op T1 (mkF m 6 #[rv a0, iv p1] [(.int 0), (.ref a0)]) (fun _ k => st' _ (XS.aloadN X1.here hx rfl (hb hby d7_4) rfl rfl (XS.iconst X1.here hx rfl (hb hby d7_5) k))) ?_
  obtain ⟨T2, h2, k2, X2, e2, E2, A2, st'⟩ := newP X1 hx hZ (ow hw 16 rfl) e1 (g := (mkF m 6 #[rv a0, iv p1] [(.int 0), (.ref a0)])) rfl (hb hby d7_6) rfl (by decide) (cap := 0) (by decide) (by decide) (by decide) (by decide)
  obtain ⟨b2, g2⟩ : ∃ z, z = h0.size := ⟨_, rfl⟩
  rw [← g2] at A2 st'
  have Uc : n0 ≤ b2 := Nat.le_trans SZ0 (Nat.le_of_eq g2.symm)
  have Uh : a0 ≠ b2 := Nat.ne_of_lt (Nat.lt_of_lt_of_le Ga.lt (Nat.le_of_eq g2.symm))
  have V0 : h0.size ≤ b2 := Nat.le_trans KP0.1 (Nat.le_of_eq g2.symm)
  have KP2 := KP0.ext E2
  have SZ2 : n0 ≤ h2.size := Nat.le_trans SZ0 E2.1
  have f3 := Ga.ext E2
  have f4 := Gk.ext E2
  have f5 := Hm.ext E2
  have f6 := Hq.ext E2
  have f7 := Gg.ext E2
  have f8 := Gw.ext E2
  have f9 := Gb.ext E2
  have f10 := Gr.ext E2
  have f11 := Gc.ext E2
  have f12 := Gq.ext E2
  have f13 := Hf.ext E2
  have f14 := Gt.ext E2
  have f15 : own_Iv Z h2 b2 (0 : Int32) [] := ⟨_, (Arv.new A2 (by decide)).pad (pad_rep [] (.int 0) 0)⟩
  refine op T2 (mkF m 8 #[rv a0, iv p1] [(.ref b2), (.ref a0)]) (fun _ k => st' _ k) ?_
  obtain ⟨T16, h16, X16, e16, W16, st'⟩ := putF X2 hx hZ hown (host := "") (Or.inl (ow hw 47 rfl)) Via.refl e2 f4 f3 (Or.inl (ow hw 48 rfl)) (ow hw 41 rfl) (ty := (.array .int)) (by decide) rfl rfl (g := (mkF m 8 #[rv a0, iv p1] [(.ref b2), (.ref a0)])) rfl rfl (hb hby d7_8)
  have f17 := f4.same W16
  have f18 := f3.wr W16
  have f19 := f5.other W16 (Or.inr (sn40 hw))
  have f20 := f6.other W16 (Or.inr (sn41 hw))
  have f21 := f7.other W16 (Or.inr (sn42 hw))
  have f22 := f8.other W16 (Or.inr (sn45 hw))
  have f23 := f9.other W16 (Or.inr (sn43 hw))
  have f24 := f10.other W16 (Or.inr (sn44 hw))
  have f25 := f11.other W16 (Or.inr (sn46 hw))
  have f26 := f12.other W16 (Or.inr (sn47 hw))
  have f27 := f13.other W16 (Or.inr (sn48 hw))
  have f28 := f14.other W16 (Or.inr (sn49 hw))
  have f29 := f15.other W16 (Ne.symm Uh)
  have NF16 := Fr.snoc X16 NF0 G0
  have SZ16 : n0 ≤ h16.size := (Nat.le_trans SZ2 (Keep.of_wr W16).1)
  have KP16 : Keep h0 h16 [a0] := KP2.wr W16 (Or.inl (List.mem_of_getElem? (i := 0) rfl))
  refine op T16 (mkF m 13 #[rv a0, iv p1] [(.int 0), (.ref a0)]) (fun _ k => st' _ (XS.aloadN X16.here hx rfl (hb hby d7_11) rfl rfl (XS.iconst X16.here hx rfl (hb hby d7_12) k))) ?_
  obtain ⟨T30, h30, k30, X30, e30, E30, A30, st'⟩ := newP X16 hx hZ (ow hw 16 rfl) e16 (g := (mkF m 13 #[rv a0, iv p1] [(.int 0), (.ref a0)])) rfl (hb hby d7_13) rfl (by decide) (cap := 0) (by decide) (by decide) (by decide) (by decide)
  obtain ⟨b30, g30⟩ : ∃ z, z = h16.size := ⟨_, rfl⟩
  rw [← g30] at A30 st'
  have g_b30 : n0 ≤ b30 := Nat.le_trans SZ16 (Nat.le_of_eq g30.symm)
  have Y1 : a0 ≠ b30 := Nat.ne_of_lt (Nat.lt_of_lt_of_le f18.lt (Nat.le_of_eq g30.symm))
  have ne_b2_b30 : b2 ≠ b30 := Nat.ne_of_lt (Nat.lt_of_lt_of_le f29.lt (Nat.le_of_eq g30.symm))
  have sz_b30 : h0.size ≤ b30 := Nat.le_trans KP16.1 (Nat.le_of_eq g30.symm)
  have KP30 := KP16.ext E30
  have SZ30 : n0 ≤ h30.size := Nat.le_trans SZ16 E30.1
  have f31 := f18.ext E30
  have f32 := f17.ext E30
  have f33 := f19.ext E30
  have f34 := f20.ext E30
  have f35 := f21.ext E30
  have f36 := f22.ext E30
  have f37 := f23.ext E30
  have f38 := f24.ext E30
  have f39 := f25.ext E30
  have f40 := f26.ext E30
  have f41 := f27.ext E30
  have f42 := f28.ext E30
  have f43 := f29.ext E30
  have f44 : own_Iv Z h30 b30 (0 : Int32) [] := ⟨_, (Arv.new A30 (by decide)).pad (pad_rep [] (.int 0) 0)⟩
  refine op T30 (mkF m 15 #[rv a0, iv p1] [(.ref b30), (.ref a0)]) (fun _ k => st' _ k) ?_
  obtain ⟨T45, h45, X45, e45, W45, st'⟩ := putF X30 hx hZ hown (host := "") (Or.inl (ow hw 49 rfl)) Via.refl e30 f33 f31 (Or.inl (ow hw 50 rfl)) (ow hw 41 rfl) (ty := (.array .int)) (by decide) rfl rfl (g := (mkF m 15 #[rv a0, iv p1] [(.ref b30), (.ref a0)])) rfl rfl (hb hby d7_15)
  have f46 := f33.same W45
  have f47 := f31.wr W45
  have f48 := f32.other W45 (Or.inr (sn50 hw))
  have f49 := f34.other W45 (Or.inr (sn51 hw))
  have f50 := f35.other W45 (Or.inr (sn52 hw))
  have f51 := f36.other W45 (Or.inr (sn55 hw))
  have f52 := f37.other W45 (Or.inr (sn53 hw))
  have f53 := f38.other W45 (Or.inr (sn54 hw))
  have f54 := f39.other W45 (Or.inr (sn56 hw))
  have f55 := f40.other W45 (Or.inr (sn57 hw))
  have f56 := f41.other W45 (Or.inr (sn58 hw))
  have f57 := f42.other W45 (Or.inr (sn59 hw))
  have f58 := f43.other W45 (Ne.symm Uh)
  have f59 := f44.other W45 (Ne.symm Y1)
  have NF45 := Fr.snoc X45 NF16 G0
  have SZ45 : n0 ≤ h45.size := (Nat.le_trans SZ30 (Keep.of_wr W45).1)
  have KP45 : Keep h0 h45 [a0] := KP30.wr W45 (Or.inl (List.mem_of_getElem? (i := 0) rfl))
  refine op T45 (mkF m 20 #[rv a0, iv p1] [(.int 0), (.ref a0)]) (fun _ k => st' _ (XS.aloadN X45.here hx rfl (hb hby d7_18) rfl rfl (XS.iconst X45.here hx rfl (hb hby d7_19) k))) ?_
  obtain ⟨T60, h60, k60, X60, e60, E60, A60, st'⟩ := newP X45 hx hZ (ow hw 16 rfl) e45 (g := (mkF m 20 #[rv a0, iv p1] [(.int 0), (.ref a0)])) rfl (hb hby d7_20) rfl (by decide) (cap := 0) (by decide) (by decide) (by decide) (by decide)
  obtain ⟨b60, g60⟩ : ∃ z, z = h45.size := ⟨_, rfl⟩
  rw [← g60] at A60 st'
  have g_b60 : n0 ≤ b60 := Nat.le_trans SZ45 (Nat.le_of_eq g60.symm)
  have Yh : a0 ≠ b60 := Nat.ne_of_lt (Nat.lt_of_lt_of_le f47.lt (Nat.le_of_eq g60.symm))
  have ne_b2_b60 : b2 ≠ b60 := Nat.ne_of_lt (Nat.lt_of_lt_of_le f58.lt (Nat.le_of_eq g60.symm))
  have ne_b30_b60 : b30 ≠ b60 := Nat.ne_of_lt (Nat.lt_of_lt_of_le f59.lt (Nat.le_of_eq g60.symm))
  have sz_b60 : h0.size ≤ b60 := Nat.le_trans KP45.1 (Nat.le_of_eq g60.symm)
  have KP60 := KP45.ext E60
  have SZ60 : n0 ≤ h60.size := Nat.le_trans SZ45 E60.1
  have f61 := f47.ext E60
  have f62 := f48.ext E60
  have f63 := f46.ext E60
  have f64 := f49.ext E60
  have f65 := f50.ext E60
  have f66 := f51.ext E60
  have f67 := f52.ext E60
  have f68 := f53.ext E60
  have f69 := f54.ext E60
  have f70 := f55.ext E60
  have f71 := f56.ext E60
  have f72 := f57.ext E60
  have f73 := f58.ext E60
  have f74 := f59.ext E60
  have f75 : own_Iv Z h60 b60 (0 : Int32) [] := ⟨_, (Arv.new A60 (by decide)).pad (pad_rep [] (.int 0) 0)⟩
  refine op T60 (mkF m 22 #[rv a0, iv p1] [(.ref b60), (.ref a0)]) (fun _ k => st' _ k) ?_
  obtain ⟨T76, h76, X76, e76, W76, st'⟩ := putF X60 hx hZ hown (host := "") (Or.inl (ow hw 51 rfl)) Via.refl e60 f64 f61 (Or.inl (ow hw 52 rfl)) (ow hw 41 rfl) (ty := (.array .int)) (by decide) rfl rfl (g := (mkF m 22 #[rv a0, iv p1] [(.ref b60), (.ref a0)])) rfl rfl (hb hby d7_22)
  have f77 := f64.same W76
  have f78 := f61.wr W76
  have f79 := f62.other W76 (Or.inr (sn60 hw))
  have f80 := f63.other W76 (Or.inr (sn61 hw))
  have f81 := f65.other W76 (Or.inr (sn62 hw))
  have f82 := f66.other W76 (Or.inr (sn65 hw))
  have f83 := f67.other W76 (Or.inr (sn63 hw))
  have f84 := f68.other W76 (Or.inr (sn64 hw))
  have f85 := f69.other W76 (Or.inr (sn66 hw))
  have f86 := f70.other W76 (Or.inr (sn67 hw))
  have f87 := f71.other W76 (Or.inr (sn68 hw))
  have f88 := f72.other W76 (Or.inr (sn69 hw))
  have f89 := f73.other W76 (Ne.symm Uh)
  have f90 := f74.other W76 (Ne.symm Y1)
  have f91 := f75.other W76 (Ne.symm Yh)
  have NF76 := Fr.snoc X76 NF45 G0
  have SZ76 : n0 ≤ h76.size := (Nat.le_trans SZ60 (Keep.of_wr W76).1)
  have KP76 : Keep h0 h76 [a0] := KP60.wr W76 (Or.inl (List.mem_of_getElem? (i := 0) rfl))
  refine op T76 (mkF m 27 #[rv a0, iv p1] [(.int 0), (.ref a0)]) (fun _ k => st' _ (XS.aloadN X76.here hx rfl (hb hby d7_25) rfl rfl (XS.iconst X76.here hx rfl (hb hby d7_26) k))) ?_
  obtain ⟨T92, h92, k92, X92, e92, E92, A92, st'⟩ := newP X76 hx hZ (ow hw 33 rfl) e76 (g := (mkF m 27 #[rv a0, iv p1] [(.int 0), (.ref a0)])) rfl (hb hby d7_27) rfl (by decide) (cap := 0) (by decide) (by decide) (by decide) (by decide)
  obtain ⟨b92, g92⟩ : ∃ z, z = h76.size := ⟨_, rfl⟩
  rw [← g92] at A92 st'
  have g_b92 : n0 ≤ b92 := Nat.le_trans SZ76 (Nat.le_of_eq g92.symm)
  have G0f : a0 ≠ b92 := Nat.ne_of_lt (Nat.lt_of_lt_of_le f78.lt (Nat.le_of_eq g92.symm))
  have ne_b2_b92 : b2 ≠ b92 := Nat.ne_of_lt (Nat.lt_of_lt_of_le f89.lt (Nat.le_of_eq g92.symm))
  have ne_b30_b92 : b30 ≠ b92 := Nat.ne_of_lt (Nat.lt_of_lt_of_le f90.lt (Nat.le_of_eq g92.symm))
  have ne_b60_b92 : b60 ≠ b92 := Nat.ne_of_lt (Nat.lt_of_lt_of_le f91.lt (Nat.le_of_eq g92.symm))
  have sz_b92 : h0.size ≤ b92 := Nat.le_trans KP76.1 (Nat.le_of_eq g92.symm)
  have KP92 := KP76.ext E92
  have SZ92 : n0 ≤ h92.size := Nat.le_trans SZ76 E92.1
  have f93 := f78.ext E92
  have f94 := f79.ext E92
  have f95 := f80.ext E92
  have f96 := f77.ext E92
  have f97 := f81.ext E92
  have f98 := f82.ext E92
  have f99 := f83.ext E92
  have f100 := f84.ext E92
  have f101 := f85.ext E92
  have f102 := f86.ext E92
  have f103 := f87.ext E92
  have f104 := f88.ext E92
  have f105 := f89.ext E92
  have f106 := f90.ext E92
  have f107 := f91.ext E92
  have f108 : own_Ar Z h92 b92 .char (0 : Int32) := own_arNew A92 (by decide) rfl
  refine op T92 (mkF m 29 #[rv a0, iv p1] [(.ref b92), (.ref a0)]) (fun _ k => st' _ k) ?_
  obtain ⟨T109, h109, X109, e109, W109, st'⟩ := putF X92 hx hZ hown (host := "") (Or.inl (ow hw 53 rfl)) Via.refl e92 f97 f93 (Or.inl (ow hw 54 rfl)) (ow hw 41 rfl) (ty := (.array .char)) (by decide) rfl rfl (g := (mkF m 29 #[rv a0, iv p1] [(.ref b92), (.ref a0)])) rfl rfl (hb hby d7_29)
  have f110 := f97.same W109
  have f111 := f93.wr W109
  have f112 := f94.other W109 (Or.inr (sn70 hw))
  have f113 := f95.other W109 (Or.inr (sn71 hw))
  have f114 := f96.other W109 (Or.inr (sn72 hw))
  have f115 := f98.other W109 (Or.inr (sn75 hw))
  have f116 := f99.other W109 (Or.inr (sn73 hw))
  have f117 := f100.other W109 (Or.inr (sn74 hw))
  have f118 := f101.other W109 (Or.inr (sn76 hw))
  have f119 := f102.other W109 (Or.inr (sn77 hw))
  have f120 := f103.other W109 (Or.inr (sn78 hw))
  have f121 := f104.other W109 (Or.inr (sn79 hw))
  have f122 := f105.other W109 (Ne.symm Uh)
  have f123 := f106.other W109 (Ne.symm Y1)
  have f124 := f107.other W109 (Ne.symm Yh)
  have f125 := f108.other W109 (Ne.symm G0f)
  have NF109 := Fr.snoc X109 NF76 G0
  have SZ109 : n0 ≤ h109.size := (Nat.le_trans SZ92 (Keep.of_wr W109).1)
  have KP109 : Keep h0 h109 [a0] := KP92.wr W109 (Or.inl (List.mem_of_getElem? (i := 0) rfl))
  refine op T109 (mkF m 34 #[rv a0, iv p1] [(.int p1), (.ref a0)]) (fun _ k => st' _ (XS.aloadN X109.here hx rfl (hb hby d7_32) rfl rfl (XS.iloadN X109.here hx rfl (hb hby d7_33) rfl k))) ?_
  obtain ⟨T126, h126, X126, e126, W126, st'⟩ := putF X109 hx hZ hown (host := "") (Or.inl (ow hw 55 rfl)) Via.refl e109 f116 f111 (Or.inr ⟨(ow hw 56 rfl), rfl, hnm⟩) (ow hw 41 rfl) (ty := .int) (by decide) rfl rfl (g := (mkF m 34 #[rv a0, iv p1] [(.int p1), (.ref a0)])) rfl rfl (hb hby d7_34)
  have f127 := f116.same W126
  have f128 := f111.wr W126
  have f129 := f112.other W126 (Or.inr (sn80 hw))
  have f130 := f113.other W126 (Or.inr (sn81 hw))
  have f131 := f114.other W126 (Or.inr (sn82 hw))
  have f132 := f110.other W126 (Or.inr (sn83 hw))
  have f133 := f115.other W126 (Or.inr (sn84 hw))
  have f134 := f117.other W126 (Or.inr (sn85 hw))
  have f135 := f118.other W126 (Or.inr (sn86 hw))
  have f136 := f119.other W126 (Or.inr (sn87 hw))
  have f137 := f120.other W126 (Or.inr (sn88 hw))
  have f138 := f121.other W126 (Or.inr (sn89 hw))
  have f139 := f122.other W126 (Ne.symm Uh)
  have f140 := f123.other W126 (Ne.symm Y1)
  have f141 := f124.other W126 (Ne.symm Yh)
  have f142 := f125.other W126 (Ne.symm G0f)
  have NF126 := Fr.snoc X126 NF109 G0
  have SZ126 : n0 ≤ h126.size := (Nat.le_trans SZ109 (Keep.of_wr W126).1)
  have KP126 : Keep h0 h126 [a0] := KP109.wr W126 (Or.inl (List.mem_of_getElem? (i := 0) rfl))
  refine op T126 (mkF m 40 #[rv a0, iv p1] [(.int 2), (.int p1), (.ref a0)]) (fun _ k => st' _ (XS.aloadN X126.here hx rfl (hb hby d7_37) rfl rfl (XS.iloadN X126.here hx rfl (hb hby d7_38) rfl (XS.iconst X126.here hx rfl (hb hby d7_39) k)))) ?_
  obtain ⟨Lg143, Xg143, NFg143⟩ : ∃ L, Stand p l e Qsin s m #[(.ref a0), (.int p1)] below meth c T126 L 4 0 ∧ Fr n0 L := ⟨_, X126, NF126⟩
  obtain ⟨_, _, ⟨T144, L144, k144, n144⟩, -, X144', ⟨Lc144, hQ144, l144, y144, z144⟩, st'⟩ := Jvm.LawKit.callS Xg143 hx (y := y10) hown (mvT hZ (ow hw 57 rfl)) (mvT hZ (ow hw 58 rfl)) (mvT hZ (ow hw 59 rfl)) (mvT hZ (ow hw 60 rfl)) (by decide) (backOf (W := 1) (rm8 l Z aw hw [] p1 (2 : Int32) h126) hZ (ow hw 60 rfl) (ow hw 59 rfl) (by decide) (by decide)) (g := (mkF m 40 #[rv a0, iv p1] [(.int 2), (.int p1), (.ref a0)])) rfl (by rw [hml]; rfl) (argsL := [(.int p1), (.int 2)]) (rest := [(.ref a0)]) (lenOf own_pd0 rfl) rfl (by show 2 * 0 + _ ≤ _; exact Nat.le_of_eq rfl) (hb hby d7_40) (fun _ _ => ⟨rfl, e126, (by decide : 4 + 0 ≤ _), (by decide : 0 + 0 ≤ _)⟩)
  dsimp only [Pt.U, Pt.locs, Pt.cells, Pt.slots] at X144' l144 y144 z144 st' hQ144
  subst l144 y144 z144
  obtain ⟨rfl, rfl, e144⟩ := hQ144
  have X144 : Stand p l e Qsin s m #[(.ref a0), (.int p1)] below meth c T144 _ 4 0 := own_locs X144'
  refine op T144 (mkF m 43 #[rv a0, iv p1] [(.int (f8_0 p1 (2 : Int32))), (.ref a0)]) (fun _ k => st' _ k) ?_
  obtain ⟨T145, h145, X145, e145, W145, st'⟩ := putF X144 hx hZ hown (host := "") (Or.inl (ow hw 61 rfl)) Via.refl e144 f134 f128 (Or.inr ⟨(ow hw 62 rfl), rfl, hnm⟩) (ow hw 41 rfl) (ty := .int) (by decide) rfl rfl (g := (mkF m 43 #[rv a0, iv p1] [(.int (f8_0 p1 (2 : Int32))), (.ref a0)])) rfl rfl (hb hby d7_43)
  have f146 := f134.same W145
  have f147 := f128.wr W145
  have f148 := f129.other W145 (Or.inr (sn90 hw))
  have f149 := f130.other W145 (Or.inr (sn91 hw))
  have f150 := f131.other W145 (Or.inr (sn92 hw))
  have f151 := f132.other W145 (Or.inr (sn93 hw))
  have f152 := f133.other W145 (Or.inr (sn94 hw))
  have f153 := f127.other W145 (Or.inr (sn95 hw))
  have f154 := f135.other W145 (Or.inr (sn96 hw))
  have f155 := f136.other W145 (Or.inr (sn97 hw))
  have f156 := f137.other W145 (Or.inr (sn98 hw))
  have f157 := f138.other W145 (Or.inr (sn99 hw))
  have f158 := f139.other W145 (Ne.symm Uh)
  have f159 := f140.other W145 (Ne.symm Y1)
  have f160 := f141.other W145 (Ne.symm Yh)
  have f161 := f142.other W145 (Ne.symm G0f)
  have NF145 := Fr.snoc X145 NFg143 G0
  have SZ145 : n0 ≤ h145.size := (Nat.le_trans SZ126 (Keep.of_wr W145).1)
  have KP145 : Keep h0 h145 [a0] := KP126.wr W145 (Or.inl (List.mem_of_getElem? (i := 0) rfl))
  refine op T145 (mkF m 48 #[rv a0, iv p1] [(.int p1), (.ref a0)]) (fun _ k => st' _ (XS.aloadN X145.here hx rfl (hb hby d7_46) rfl rfl (XS.iloadN X145.here hx rfl (hb hby d7_47) rfl k))) ?_
  obtain ⟨T162, h162, k162, X162, e162, E162, A162, st'⟩ := newP X145 hx hZ (ow hw 16 rfl) e145 (g := (mkF m 48 #[rv a0, iv p1] [(.int p1), (.ref a0)])) rfl (hb hby d7_48) rfl (own_capV HD).1 (cap := 4) (own_capV HD).2 (by decide) (by decide) (by decide)
  obtain ⟨b162, g162⟩ : ∃ z, z = h145.size := ⟨_, rfl⟩
  rw [← g162] at A162 st'
  have g_b162 : n0 ≤ b162 := Nat.le_trans SZ145 (Nat.le_of_eq g162.symm)
  have ne_a0_b162 : a0 ≠ b162 := Nat.ne_of_lt (Nat.lt_of_lt_of_le f147.lt (Nat.le_of_eq g162.symm))
  have ne_b2_b162 : b2 ≠ b162 := Nat.ne_of_lt (Nat.lt_of_lt_of_le f158.lt (Nat.le_of_eq g162.symm))
  have ne_b30_b162 : b30 ≠ b162 := Nat.ne_of_lt (Nat.lt_of_lt_of_le f159.lt (Nat.le_of_eq g162.symm))
  have ne_b60_b162 : b60 ≠ b162 := Nat.ne_of_lt (Nat.lt_of_lt_of_le f160.lt (Nat.le_of_eq g162.symm))
  have ne_b92_b162 : b92 ≠ b162 := Nat.ne_of_lt (Nat.lt_of_lt_of_le f161.lt (Nat.le_of_eq g162.symm))
  have sz_b162 : h0.size ≤ b162 := Nat.le_trans KP145.1 (Nat.le_of_eq g162.symm)
  have KP162 := KP145.ext E162
  have SZ162 : n0 ≤ h162.size := Nat.le_trans SZ145 E162.1
  have f163 := f147.ext E162
  have f164 := f148.ext E162
  have f165 := f149.ext E162
  have f166 := f150.ext E162
  have f167 := f151.ext E162
  have f168 := f152.ext E162
  have f169 := f153.ext E162
  have f170 := f146.ext E162
  have f171 := f154.ext E162
  have f172 := f155.ext E162
  have f173 := f156.ext E162
  have f174 := f157.ext E162
  have f175 := f158.ext E162
  have f176 := f159.ext E162
  have f177 := f160.ext E162
  have f178 := f161.ext E162
  have f179 : own_G Z h162 b162 p1 0 0 0 0 := own_gNew A162 HD
  refine op T162 (mkF m 50 #[rv a0, iv p1] [(.ref b162), (.ref a0)]) (fun _ k => st' _ k) ?_
  obtain ⟨T180, h180, X180, e180, W180, st'⟩ := putF X162 hx hZ hown (host := "") (Or.inl (ow hw 63 rfl)) Via.refl e162 f168 f163 (Or.inr ⟨(ow hw 64 rfl), rfl, hnm⟩) (ow hw 41 rfl) (ty := (.array .int)) (by decide) rfl rfl (g := (mkF m 50 #[rv a0, iv p1] [(.ref b162), (.ref a0)])) rfl rfl (hb hby d7_50)
  have f181 := f168.same W180
  have f182 := f163.wr W180
  have f183 := f164.other W180 (Or.inr (sn100 hw))
  have f184 := f165.other W180 (Or.inr (sn101 hw))
  have f185 := f166.other W180 (Or.inr (sn102 hw))
  have f186 := f167.other W180 (Or.inr (sn103 hw))
  have f187 := f169.other W180 (Or.inr (sn104 hw))
  have f188 := f170.other W180 (Or.inr (sn105 hw))
  have f189 := f171.other W180 (Or.inr (sn106 hw))
  have f190 := f172.other W180 (Or.inr (sn107 hw))
  have f191 := f173.other W180 (Or.inr (sn108 hw))
  have f192 := f174.other W180 (Or.inr (sn109 hw))
  have f193 := f175.other W180 (Ne.symm Uh)
  have f194 := f176.other W180 (Ne.symm Y1)
  have f195 := f177.other W180 (Ne.symm Yh)
  have f196 := f178.other W180 (Ne.symm G0f)
  have f197 := f179.other W180 (Ne.symm ne_a0_b162)
  have NF180 := Fr.snoc X180 NF145 G0
  have SZ180 : n0 ≤ h180.size := (Nat.le_trans SZ162 (Keep.of_wr W180).1)
  have KP180 : Keep h0 h180 [a0] := KP162.wr W180 (Or.inl (List.mem_of_getElem? (i := 0) rfl))
  refine op T180 (mkF m 53 #[rv a0, iv p1] []) (fun _ k => st' _ k) ?_
  exact own_retV X180 hx Bd.notSynchronized Bd.returns (hb hby d7_53) (by rw [e180]; exact ⟨b2, b30, b60, b92, b162, NF180, KP180, V0, sz_b30, sz_b60, sz_b92, sz_b162, ne_b2_b30, ne_b2_b60, ne_b30_b60, ne_b2_b92, ne_b30_b92, ne_b60_b92, ne_b2_b162, ne_b30_b162, ne_b60_b162, ne_b92_b162, f182, f183, f184, f185, f186, f187, f188, f181, f189, f190, f191, f192, (f193.ar rfl), (f194.ar rfl), (f195.ar rfl), f196, f197⟩) (by decide) (by decide)
theorem ef_sin (m : MethodId) (a0 : Addr) (p1 : Int32) : entryFrame m #[(.ref a0), (.int p1)] 2 = mkF m 0 #[rv a0, iv p1] [] := by first | (simp [entryFrame, mkF, argsToLocals, Value.category]; done) | rfl
set_option maxRecDepth 65536 in
set_option maxHeartbeats 40000000 in
theorem rmsin (l : Launch) (Z : State) (aw : Array Value) (hw : HW aw Z) (ws : List Jvm.Cond) (p1 : Int32) (a0 : Addr) (h0 : Heap) (n0 : Nat) (SZ0 : n0 ≤ h0.size) (Ga : Exa Z h0 a0 cS) (Gk : Fld Z h0 a0 cS "starts" "[I" .null) (Hm : Fld Z h0 a0 cS "tailed" "[I" .null) (Hq : Fld Z h0 a0 cS "tails" "[I" .null) (Gg : Fld Z h0 a0 cS "countries" "[C" .null) (Gw : Fld Z h0 a0 cS "after" "[I" .null) (Gb : Fld Z h0 a0 cS "width" "I" (.int 0)) (Gr : Fld Z h0 a0 cS "head" "I" (.int 0)) (Gc : Fld Z h0 a0 cS "size" "I" (.int 0)) (Gq : Fld Z h0 a0 cS "ranges" "I" (.int 0)) (Hf : Fld Z h0 a0 cS "tailedSize" "I" (.int 0)) (Gt : Fld Z h0 a0 cS "full" "Z" (.int 0)) (HD : p1 = 1 ∨ p1 = 4) (G0 : n0 ≤ a0) :
    MetFree l y11 (head1 (Jvm.Cond.code y11 Je 2 none :: ws) Qsin) (fun a U => a = #[(.ref a0), (.int p1)] ∧ Z.Warmed39 U.vm ∧ U.heap = h0) (fun _ _ _ _ _ => True) (fun _ U o U' => ∃ v L, o = .returned v ∧ own_Q (Rsin (fsin_0 p1)) (Ksin Z p1 a0 h0 n0 (fsin_0 p1)) v U'.heap L ∧ FrameEnd U o U' L Qsin.cells Qsin.slots) := by
  refine MetFree.of_bodySF (plainFor_of_name own_pn2) hisR ?_
  intro p e s m args below meth c s₁ Bd hml0 hP hK
  obtain ⟨rfl, hZ, hh⟩ := hP
  have hml : c.maxLocals = 2 := hml0
  have e0 : s₁.heap = h0 := by rw [← hh, Bd.state]; rfl
  exact own_pre (fun t k => castTop (ef_sin m a0 p1) k) (gsin_0 hw p1 a0 HD Bd hml hZ G0 s₁ (Stand.of_body Bd) e0 SZ0 (Fr.nil n0) (Keep.refl _ _) Ga Gk Hm Hq Gg Gw Gb Gr Gc Gq Hf Gt)
abbrev Qbin : Room := { frames := 2, cells := 10, slots := 15, locals := 42 }
theorem la11 (hw : HW aw Z) : LaT Z aw cB cB "starts" "[I" := ⟨(Or.inl (ow hw 30 rfl)), (.array .int), by decide⟩
theorem la12 (hw : HW aw Z) : LaT Z aw cB cB "inOrder" "Z" := ⟨(Or.inl (ow hw 28 rfl)), .boolean, by decide⟩
theorem sn110 (hw : HW aw Z) : NS Z cB "starts" "[I" cB "inOrder" "Z" := own_sn (la11 hw) (la12 hw) (by decide)
theorem la13 (hw : HW aw Z) : LaT Z aw cB cB "ends" "[I" := ⟨(Or.inl (ow hw 32 rfl)), (.array .int), by decide⟩
theorem sn111 (hw : HW aw Z) : NS Z cB "ends" "[I" cB "inOrder" "Z" := own_sn (la13 hw) (la12 hw) (by decide)
theorem la14 (hw : HW aw Z) : LaT Z aw cB cB "countries" "[C" := ⟨(Or.inl (ow hw 35 rfl)), (.array .char), by decide⟩
theorem sn112 (hw : HW aw Z) : NS Z cB "countries" "[C" cB "inOrder" "Z" := own_sn (la14 hw) (la12 hw) (by decide)
theorem la15 (hw : HW aw Z) : LaT Z aw cB cB "lineNumbers" "[I" := ⟨(Or.inl (ow hw 37 rfl)), (.array .int), by decide⟩
theorem sn113 (hw : HW aw Z) : NS Z cB "lineNumbers" "[I" cB "inOrder" "Z" := own_sn (la15 hw) (la12 hw) (by decide)
theorem la16 (hw : HW aw Z) : LaT Z aw cB cB "segments" dS := ⟨(Or.inr (ow hw 66 rfl)), (.object cS), by decide⟩
theorem sn114 (hw : HW aw Z) : NS Z cB "segments" dS cB "inOrder" "Z" := own_sn (la16 hw) (la12 hw) (by decide)
theorem la17 (hw : HW aw Z) : LaT Z aw cB cB "allocated" "Z" := ⟨(Or.inl (ow hw 118 rfl)), .boolean, by decide⟩
theorem sn115 (hw : HW aw Z) : NS Z cB "allocated" "Z" cB "inOrder" "Z" := own_sn (la17 hw) (la12 hw) (by decide)
theorem la18 (hw : HW aw Z) : LaT Z aw cB cB "counted" "I" := ⟨(Or.inl (ow hw 125 rfl)), .int, by decide⟩
theorem sn116 (hw : HW aw Z) : NS Z cB "counted" "I" cB "inOrder" "Z" := own_sn (la18 hw) (la12 hw) (by decide)
theorem la19 (hw : HW aw Z) : LaT Z aw cB cB "size" "I" := ⟨(Or.inl (ow hw 104 rfl)), .int, by decide⟩
theorem sn117 (hw : HW aw Z) : NS Z cB "size" "I" cB "inOrder" "Z" := own_sn (la19 hw) (la12 hw) (by decide)
theorem la20 (hw : HW aw Z) : LaT Z aw cB cB "differs" "Z" := ⟨(Or.inl (ow hw 132 rfl)), .boolean, by decide⟩
theorem sn118 (hw : HW aw Z) : NS Z cB "differs" "Z" cB "inOrder" "Z" := own_sn (la20 hw) (la12 hw) (by decide)
theorem la21 (hw : HW aw Z) : LaT Z aw cB cB "width" "I" := ⟨(Or.inr (ow hw 39 rfl)), .int, by decide⟩
theorem sn119 (hw : HW aw Z) : NS Z cB "width" "I" cB "inOrder" "Z" := own_sn (la21 hw) (la12 hw) (by decide)
theorem sn120 (hw : HW aw Z) : NS Z cB "ends" "[I" cB "starts" "[I" := own_sn (la13 hw) (la11 hw) (by decide)
theorem sn121 (hw : HW aw Z) : NS Z cB "countries" "[C" cB "starts" "[I" := own_sn (la14 hw) (la11 hw) (by decide)
theorem sn122 (hw : HW aw Z) : NS Z cB "lineNumbers" "[I" cB "starts" "[I" := own_sn (la15 hw) (la11 hw) (by decide)
theorem sn123 (hw : HW aw Z) : NS Z cB "segments" dS cB "starts" "[I" := own_sn (la16 hw) (la11 hw) (by decide)
theorem sn124 (hw : HW aw Z) : NS Z cB "inOrder" "Z" cB "starts" "[I" := own_sn (la12 hw) (la11 hw) (by decide)
theorem sn125 (hw : HW aw Z) : NS Z cB "allocated" "Z" cB "starts" "[I" := own_sn (la17 hw) (la11 hw) (by decide)
theorem sn126 (hw : HW aw Z) : NS Z cB "counted" "I" cB "starts" "[I" := own_sn (la18 hw) (la11 hw) (by decide)
theorem sn127 (hw : HW aw Z) : NS Z cB "size" "I" cB "starts" "[I" := own_sn (la19 hw) (la11 hw) (by decide)
theorem sn128 (hw : HW aw Z) : NS Z cB "differs" "Z" cB "starts" "[I" := own_sn (la20 hw) (la11 hw) (by decide)
theorem sn129 (hw : HW aw Z) : NS Z cB "width" "I" cB "starts" "[I" := own_sn (la21 hw) (la11 hw) (by decide)
theorem sn130 (hw : HW aw Z) : NS Z cB "starts" "[I" cB "ends" "[I" := own_sn (la11 hw) (la13 hw) (by decide)
theorem sn131 (hw : HW aw Z) : NS Z cB "countries" "[C" cB "ends" "[I" := own_sn (la14 hw) (la13 hw) (by decide)
theorem sn132 (hw : HW aw Z) : NS Z cB "lineNumbers" "[I" cB "ends" "[I" := own_sn (la15 hw) (la13 hw) (by decide)
theorem sn133 (hw : HW aw Z) : NS Z cB "segments" dS cB "ends" "[I" := own_sn (la16 hw) (la13 hw) (by decide)
theorem sn134 (hw : HW aw Z) : NS Z cB "inOrder" "Z" cB "ends" "[I" := own_sn (la12 hw) (la13 hw) (by decide)
theorem sn135 (hw : HW aw Z) : NS Z cB "allocated" "Z" cB "ends" "[I" := own_sn (la17 hw) (la13 hw) (by decide)
theorem sn136 (hw : HW aw Z) : NS Z cB "counted" "I" cB "ends" "[I" := own_sn (la18 hw) (la13 hw) (by decide)
theorem sn137 (hw : HW aw Z) : NS Z cB "size" "I" cB "ends" "[I" := own_sn (la19 hw) (la13 hw) (by decide)
theorem sn138 (hw : HW aw Z) : NS Z cB "differs" "Z" cB "ends" "[I" := own_sn (la20 hw) (la13 hw) (by decide)
theorem sn139 (hw : HW aw Z) : NS Z cB "width" "I" cB "ends" "[I" := own_sn (la21 hw) (la13 hw) (by decide)
theorem sn140 (hw : HW aw Z) : NS Z cB "starts" "[I" cB "countries" "[C" := own_sn (la11 hw) (la14 hw) (by decide)
theorem sn141 (hw : HW aw Z) : NS Z cB "ends" "[I" cB "countries" "[C" := own_sn (la13 hw) (la14 hw) (by decide)
theorem sn142 (hw : HW aw Z) : NS Z cB "lineNumbers" "[I" cB "countries" "[C" := own_sn (la15 hw) (la14 hw) (by decide)
theorem sn143 (hw : HW aw Z) : NS Z cB "segments" dS cB "countries" "[C" := own_sn (la16 hw) (la14 hw) (by decide)
theorem sn144 (hw : HW aw Z) : NS Z cB "inOrder" "Z" cB "countries" "[C" := own_sn (la12 hw) (la14 hw) (by decide)
theorem sn145 (hw : HW aw Z) : NS Z cB "allocated" "Z" cB "countries" "[C" := own_sn (la17 hw) (la14 hw) (by decide)
theorem sn146 (hw : HW aw Z) : NS Z cB "counted" "I" cB "countries" "[C" := own_sn (la18 hw) (la14 hw) (by decide)
theorem sn147 (hw : HW aw Z) : NS Z cB "size" "I" cB "countries" "[C" := own_sn (la19 hw) (la14 hw) (by decide)
theorem sn148 (hw : HW aw Z) : NS Z cB "differs" "Z" cB "countries" "[C" := own_sn (la20 hw) (la14 hw) (by decide)
theorem sn149 (hw : HW aw Z) : NS Z cB "width" "I" cB "countries" "[C" := own_sn (la21 hw) (la14 hw) (by decide)
theorem sn150 (hw : HW aw Z) : NS Z cB "starts" "[I" cB "lineNumbers" "[I" := own_sn (la11 hw) (la15 hw) (by decide)
theorem sn151 (hw : HW aw Z) : NS Z cB "ends" "[I" cB "lineNumbers" "[I" := own_sn (la13 hw) (la15 hw) (by decide)
theorem sn152 (hw : HW aw Z) : NS Z cB "countries" "[C" cB "lineNumbers" "[I" := own_sn (la14 hw) (la15 hw) (by decide)
theorem sn153 (hw : HW aw Z) : NS Z cB "segments" dS cB "lineNumbers" "[I" := own_sn (la16 hw) (la15 hw) (by decide)
theorem sn154 (hw : HW aw Z) : NS Z cB "inOrder" "Z" cB "lineNumbers" "[I" := own_sn (la12 hw) (la15 hw) (by decide)
theorem sn155 (hw : HW aw Z) : NS Z cB "allocated" "Z" cB "lineNumbers" "[I" := own_sn (la17 hw) (la15 hw) (by decide)
theorem sn156 (hw : HW aw Z) : NS Z cB "counted" "I" cB "lineNumbers" "[I" := own_sn (la18 hw) (la15 hw) (by decide)
theorem sn157 (hw : HW aw Z) : NS Z cB "size" "I" cB "lineNumbers" "[I" := own_sn (la19 hw) (la15 hw) (by decide)
theorem sn158 (hw : HW aw Z) : NS Z cB "differs" "Z" cB "lineNumbers" "[I" := own_sn (la20 hw) (la15 hw) (by decide)
theorem sn159 (hw : HW aw Z) : NS Z cB "width" "I" cB "lineNumbers" "[I" := own_sn (la21 hw) (la15 hw) (by decide)
theorem sn160 (hw : HW aw Z) : NS Z cB "starts" "[I" cB "width" "I" := own_sn (la11 hw) (la21 hw) (by decide)
theorem sn161 (hw : HW aw Z) : NS Z cB "ends" "[I" cB "width" "I" := own_sn (la13 hw) (la21 hw) (by decide)
theorem sn162 (hw : HW aw Z) : NS Z cB "countries" "[C" cB "width" "I" := own_sn (la14 hw) (la21 hw) (by decide)
theorem sn163 (hw : HW aw Z) : NS Z cB "lineNumbers" "[I" cB "width" "I" := own_sn (la15 hw) (la21 hw) (by decide)
theorem sn164 (hw : HW aw Z) : NS Z cB "segments" dS cB "width" "I" := own_sn (la16 hw) (la21 hw) (by decide)
theorem sn165 (hw : HW aw Z) : NS Z cB "inOrder" "Z" cB "width" "I" := own_sn (la12 hw) (la21 hw) (by decide)
theorem sn166 (hw : HW aw Z) : NS Z cB "allocated" "Z" cB "width" "I" := own_sn (la17 hw) (la21 hw) (by decide)
theorem sn167 (hw : HW aw Z) : NS Z cB "counted" "I" cB "width" "I" := own_sn (la18 hw) (la21 hw) (by decide)
theorem sn168 (hw : HW aw Z) : NS Z cB "size" "I" cB "width" "I" := own_sn (la19 hw) (la21 hw) (by decide)
theorem sn169 (hw : HW aw Z) : NS Z cB "differs" "Z" cB "width" "I" := own_sn (la20 hw) (la21 hw) (by decide)
theorem own_pd5 : parseMethodDescriptor "(I)V" = some ⟨[.int], none⟩ := by decide +kernel
theorem sn170 (hw : HW aw Z) : NS Z cB "starts" "[I" cB "segments" dS := own_sn (la11 hw) (la16 hw) (by decide)
theorem sn171 (hw : HW aw Z) : NS Z cB "ends" "[I" cB "segments" dS := own_sn (la13 hw) (la16 hw) (by decide)
theorem sn172 (hw : HW aw Z) : NS Z cB "countries" "[C" cB "segments" dS := own_sn (la14 hw) (la16 hw) (by decide)
theorem sn173 (hw : HW aw Z) : NS Z cB "lineNumbers" "[I" cB "segments" dS := own_sn (la15 hw) (la16 hw) (by decide)
theorem sn174 (hw : HW aw Z) : NS Z cB "inOrder" "Z" cB "segments" dS := own_sn (la12 hw) (la16 hw) (by decide)
theorem sn175 (hw : HW aw Z) : NS Z cB "allocated" "Z" cB "segments" dS := own_sn (la17 hw) (la16 hw) (by decide)
theorem sn176 (hw : HW aw Z) : NS Z cB "counted" "I" cB "segments" dS := own_sn (la18 hw) (la16 hw) (by decide)
theorem sn177 (hw : HW aw Z) : NS Z cB "size" "I" cB "segments" dS := own_sn (la19 hw) (la16 hw) (by decide)
theorem sn178 (hw : HW aw Z) : NS Z cB "differs" "Z" cB "segments" dS := own_sn (la20 hw) (la16 hw) (by decide)
theorem sn179 (hw : HW aw Z) : NS Z cB "width" "I" cB "segments" dS := own_sn (la21 hw) (la16 hw) (by decide)
/-! body 5, bin -/
theorem d5_0 : De Jc 0 (.aload_n 0) 1 := by decide +kernel
theorem d5_1 : De Jc 1 (.invokespecial 1) 3 := by decide +kernel
theorem d5_4 : De Jc 4 (.aload_n 0) 1 := by decide +kernel
theorem d5_5 : De Jc 5 (.iconst 1) 1 := by decide +kernel
theorem d5_6 : De Jc 6 (.putfield 7) 3 := by decide +kernel
theorem d5_9 : De Jc 9 (.aload_n 0) 1 := by decide +kernel
theorem d5_10 : De Jc 10 (.iconst 0) 1 := by decide +kernel
theorem d5_11 : De Jc 11 (.newarray .int) 2 := by decide +kernel
theorem d5_13 : De Jc 13 (.putfield 13) 3 := by decide +kernel
theorem d5_16 : De Jc 16 (.aload_n 0) 1 := by decide +kernel
theorem d5_17 : De Jc 17 (.iconst 0) 1 := by decide +kernel
theorem d5_18 : De Jc 18 (.newarray .int) 2 := by decide +kernel
theorem d5_20 : De Jc 20 (.putfield 17) 3 := by decide +kernel
theorem d5_23 : De Jc 23 (.aload_n 0) 1 := by decide +kernel
theorem d5_24 : De Jc 24 (.iconst 0) 1 := by decide +kernel
theorem d5_25 : De Jc 25 (.newarray .char) 2 := by decide +kernel
theorem d5_27 : De Jc 27 (.putfield 20) 3 := by decide +kernel
theorem d5_30 : De Jc 30 (.aload_n 0) 1 := by decide +kernel
theorem d5_31 : De Jc 31 (.iconst 0) 1 := by decide +kernel
theorem d5_32 : De Jc 32 (.newarray .int) 2 := by decide +kernel
theorem d5_34 : De Jc 34 (.putfield 24) 3 := by decide +kernel
theorem d5_37 : De Jc 37 (.aload_n 0) 1 := by decide +kernel
theorem d5_38 : De Jc 38 (.iload_n 1) 1 := by decide +kernel
theorem d5_39 : De Jc 39 (.putfield 27) 3 := by decide +kernel
theorem d5_42 : De Jc 42 (.aload_n 0) 1 := by decide +kernel
theorem d5_43 : De Jc 43 (.new 31) 3 := by decide +kernel
theorem d5_46 : De Jc 46 (.dup) 1 := by decide +kernel
theorem d5_47 : De Jc 47 (.iload_n 1) 1 := by decide +kernel
theorem d5_48 : De Jc 48 (.invokespecial 33) 3 := by decide +kernel
theorem d5_51 : De Jc 51 (.putfield 36) 3 := by decide +kernel
theorem d5_54 : De Jc 54 (.return_) 1 := by decide +kernel
abbrev y12 : MethodName := ⟨cB, "<init>", "(I)V"⟩
theorem own_pn3 : plainName cB = true := by first | (simp [plainName, overriddenIn]; done) | decide +kernel
def Rbin (t : Unit) : Option Value := none
def Kbin (Z : State) (p1 : Int32) (a0 : Addr) (h0 : Heap) (n0 : Nat) (t : Unit) (h : Heap) (L : List Loc) : Prop := ∃ bS bE bC bL sg sS sT sL sC sA : Addr, Fr n0 L ∧ Keep h0 h [a0] ∧ h0.size ≤ bS ∧ h0.size ≤ bE ∧ h0.size ≤ bC ∧ h0.size ≤ bL ∧ h0.size ≤ sg ∧ h0.size ≤ sS ∧ h0.size ≤ sT ∧ h0.size ≤ sL ∧ h0.size ≤ sC ∧ h0.size ≤ sA ∧ bS ≠ bE ∧ bS ≠ bC ∧ bE ≠ bC ∧ bS ≠ bL ∧ bE ≠ bL ∧ bC ≠ bL ∧ bS ≠ sg ∧ bE ≠ sg ∧ bC ≠ sg ∧ bL ≠ sg ∧ bS ≠ sS ∧ bE ≠ sS ∧ bC ≠ sS ∧ bL ≠ sS ∧ sg ≠ sS ∧ bS ≠ sT ∧ bE ≠ sT ∧ bC ≠ sT ∧ bL ≠ sT ∧ sg ≠ sT ∧ sS ≠ sT ∧ bS ≠ sL ∧ bE ≠ sL ∧ bC ≠ sL ∧ bL ≠ sL ∧ sg ≠ sL ∧ sS ≠ sL ∧ sT ≠ sL ∧ bS ≠ sC ∧ bE ≠ sC ∧ bC ≠ sC ∧ bL ≠ sC ∧ sg ≠ sC ∧ sS ≠ sC ∧ sT ≠ sC ∧ sL ≠ sC ∧ bS ≠ sA ∧ bE ≠ sA ∧ bC ≠ sA ∧ bL ≠ sA ∧ sg ≠ sA ∧ sS ≠ sA ∧ sT ≠ sA ∧ sL ≠ sA ∧ sC ≠ sA ∧ Exa Z h a0 cB ∧ Fld Z h a0 cB "inOrder" "Z" (.int 1) ∧ Fld Z h a0 cB "allocated" "Z" (.int 0) ∧ Fld Z h a0 cB "counted" "I" (.int 0) ∧ Fld Z h a0 cB "size" "I" (.int 0) ∧ Fld Z h a0 cB "differs" "Z" (.int 0) ∧ Fld Z h a0 cB "starts" "[I" (.ref bS) ∧ Fld Z h a0 cB "ends" "[I" (.ref bE) ∧ Fld Z h a0 cB "countries" "[C" (.ref bC) ∧ Fld Z h a0 cB "lineNumbers" "[I" (.ref bL) ∧ Fld Z h a0 cB "width" "I" (.int p1) ∧ Fld Z h a0 cB "segments" dS (.ref sg) ∧ Exa Z h sg cS ∧ Fld Z h sg cS "starts" "[I" (.ref sS) ∧ Fld Z h sg cS "tailed" "[I" (.ref sT) ∧ Fld Z h sg cS "tails" "[I" (.ref sL) ∧ Fld Z h sg cS "countries" "[C" (.ref sC) ∧ Fld Z h sg cS "width" "I" (.int p1) ∧ Fld Z h sg cS "head" "I" (.int (own_hd p1)) ∧ Fld Z h sg cS "after" "[I" (.ref sA) ∧ Fld Z h sg cS "size" "I" (.int 0) ∧ Fld Z h sg cS "ranges" "I" (.int 0) ∧ Fld Z h sg cS "tailedSize" "I" (.int 0) ∧ Fld Z h sg cS "full" "Z" (.int 0) ∧ own_Ar Z h sS .int (0 : Int32) ∧ own_Ar Z h sT .int (0 : Int32) ∧ own_Ar Z h sL .int (0 : Int32) ∧ own_Ar Z h sC .char (0 : Int32) ∧ own_G Z h sA p1 (0 : Int32) (0 : Int32) (0 : Int32) (0 : Int32) ∧ own_Ar Z h bS .int (0 : Int32) ∧ own_Ar Z h bE .int (0 : Int32) ∧ own_Ar Z h bL .int (0 : Int32) ∧ own_Ar Z h bC .char (0 : Int32)
def fbin_0 (p1 : Int32) : Unit := ()
set_option maxRecDepth 65536 in
set_option maxHeartbeats 40000000 in
theorem gbin_0 (hw : HW aw Z) {h0 : Heap} {n0 : Nat} (p1 : Int32) (a0 : Addr) (HD : p1 = 1 ∨ p1 = 4)
    (Bd : BodyLoose p l y12 (head1 (Jvm.Cond.code y12 Jc 2 none :: ws) Qbin) Jc 2 none e s m #[(.ref a0), (.int p1)] below meth c s₁) (hml : c.maxLocals = 2) (hZ : Z.Warmed39 s.vm) (G0 : n0 ≤ a0) (T0 : State) {locs : List Loc} (X0 : Stand p l e Qbin s m #[(.ref a0), (.int p1)] below meth c T0 locs 0 0) (e0 : T0.heap = h0) (SZ0 : n0 ≤ h0.size) (NF0 : Fr n0 locs) (KP0 : Keep h0 h0 [a0]) (Ga : Exa Z h0 a0 cB) (Gk : Fld Z h0 a0 cB "starts" "[I" .null) (J8 : Fld Z h0 a0 cB "ends" "[I" .null) (Gg : Fld Z h0 a0 cB "countries" "[C" .null) (J9 : Fld Z h0 a0 cB "lineNumbers" "[I" .null) (J1 : Fld Z h0 a0 cB "segments" dS .null) (Hz : Fld Z h0 a0 cB "inOrder" "Z" (.int 0)) (Ja : Fld Z h0 a0 cB "allocated" "Z" (.int 0)) (J0 : Fld Z h0 a0 cB "counted" "I" (.int 0)) (Gc : Fld Z h0 a0 cB "size" "I" (.int 0)) (J6 : Fld Z h0 a0 cB "differs" "Z" (.int 0)) (Gb : Fld Z h0 a0 cB "width" "I" (.int 0)) :
    own_Go p e below s Qbin.cells Qbin.slots (Rbin (fbin_0 p1)) (Kbin Z p1 a0 h0 n0 (fbin_0 p1)) (T0.setTop (mkF m 0 #[rv a0, iv p1] [])) := by
  have hx := Bd.exec
  have hby := Bd.bytes
  have hown : s.vm.findClass cB = some m.cls := findClass_of_methodNamed Bd.named
  have hnm := (name_of_methodNamed Bd.named Bd.method).1
  unfold fbin_0
  refine op T0 (mkF m 1 #[rv a0, iv p1] [(.ref a0)]) (fun _ k => XS.aloadN X0.here hx rfl (hb hby d5_0) rfl rfl k) ?_
  obtain ⟨T1, X1, e1, st'⟩ := initO X0 hx hZ hown (ow hw 24 rfl) (ow hw 25 rfl) (ow hw 26 rfl) e0 (g := (mkF m 1 #[rv a0, iv p1] [(.ref a0)])) rfl (by rw [hml]; rfl) rfl (hb hby d5_1) (by decide) (W := 0) (by show 2 * 0 + _ ≤ _; exact Nat.le_of_eq rfl) (by decide)
  refine op T1 (mkF m 6 #[rv a0, iv p1] [(.int 1), (.ref a0)]) (fun _ k => st' _ (XS.aloadN X1.here hx rfl (hb hby d5_4) rfl rfl (XS.iconst X1.here hx rfl (hb hby d5_5) k))) ?_
  obtain ⟨T2, h2, X2, e2, W2, st'⟩ := putFN X1 hx hZ hown (ow hw 27 rfl) Via.refl e1 Hz Ga (Or.inl (ow hw 28 rfl)) (ow hw 19 rfl) (ty := .boolean) (v' := (.int 1)) (by decide) rfl (by decide) (g := (mkF m 6 #[rv a0, iv p1] [(.int 1), (.ref a0)])) rfl rfl (hb hby d5_6)
  have f3 := Hz.same W2
  have f4 := Ga.wr W2
  have f5 := Gk.other W2 (Or.inr (sn110 hw))
  have f6 := J8.other W2 (Or.inr (sn111 hw))
  have f7 := Gg.other W2 (Or.inr (sn112 hw))
  have f8 := J9.other W2 (Or.inr (sn113 hw))
  have f9 := J1.other W2 (Or.inr (sn114 hw))
  have f10 := Ja.other W2 (Or.inr (sn115 hw))
  have f11 := J0.other W2 (Or.inr (sn116 hw))
  have f12 := Gc.other W2 (Or.inr (sn117 hw))
  have f13 := J6.other W2 (Or.inr (sn118 hw))
  have f14 := Gb.other W2 (Or.inr (sn119 hw))
  have NF2 := Fr.snoc X2 NF0 G0
  have SZ2 : n0 ≤ h2.size := (Nat.le_trans SZ0 (Keep.of_wr W2).1)
  have KP2 : Keep h0 h2 [a0] := KP0.wr W2 (Or.inl (List.mem_of_getElem? (i := 0) rfl))
  refine op T2 (mkF m 11 #[rv a0, iv p1] [(.int 0), (.ref a0)]) (fun _ k => st' _ (XS.aloadN X2.here hx rfl (hb hby d5_9) rfl rfl (XS.iconst X2.here hx rfl (hb hby d5_10) k))) ?_
  obtain ⟨T15, h15, k15, X15, e15, E15, A15, st'⟩ := newP X2 hx hZ (ow hw 16 rfl) e2 (g := (mkF m 11 #[rv a0, iv p1] [(.int 0), (.ref a0)])) rfl (hb hby d5_11) rfl (by decide) (cap := 0) (by decide) (by decide) (by decide) (by decide)
  obtain ⟨b15, g15⟩ : ∃ z, z = h2.size := ⟨_, rfl⟩
  rw [← g15] at A15 st'
  have g_b15 : n0 ≤ b15 := Nat.le_trans SZ2 (Nat.le_of_eq g15.symm)
  have Y2 : a0 ≠ b15 := Nat.ne_of_lt (Nat.lt_of_lt_of_le f4.lt (Nat.le_of_eq g15.symm))
  have sz_b15 : h0.size ≤ b15 := Nat.le_trans KP2.1 (Nat.le_of_eq g15.symm)
  have KP15 := KP2.ext E15
  have SZ15 : n0 ≤ h15.size := Nat.le_trans SZ2 E15.1
  have f16 := f4.ext E15
  have f17 := f5.ext E15
  have f18 := f6.ext E15
  have f19 := f7.ext E15
  have f20 := f8.ext E15
  have f21 := f9.ext E15
  have f22 := f3.ext E15
  have f23 := f10.ext E15
  have f24 := f11.ext E15
  have f25 := f12.ext E15
  have f26 := f13.ext E15
  have f27 := f14.ext E15
  have f28 : own_Iv Z h15 b15 (0 : Int32) [] := ⟨_, (Arv.new A15 (by decide)).pad (pad_rep [] (.int 0) 0)⟩
  refine op T15 (mkF m 13 #[rv a0, iv p1] [(.ref b15), (.ref a0)]) (fun _ k => st' _ k) ?_
  obtain ⟨T29, h29, X29, e29, W29, st'⟩ := putF X15 hx hZ hown (host := "") (Or.inl (ow hw 29 rfl)) Via.refl e15 f17 f16 (Or.inl (ow hw 30 rfl)) (ow hw 19 rfl) (ty := (.array .int)) (by decide) rfl rfl (g := (mkF m 13 #[rv a0, iv p1] [(.ref b15), (.ref a0)])) rfl rfl (hb hby d5_13)
  have f30 := f17.same W29
  have f31 := f16.wr W29
  have f32 := f18.other W29 (Or.inr (sn120 hw))
  have f33 := f19.other W29 (Or.inr (sn121 hw))
  have f34 := f20.other W29 (Or.inr (sn122 hw))
  have f35 := f21.other W29 (Or.inr (sn123 hw))
  have f36 := f22.other W29 (Or.inr (sn124 hw))
  have f37 := f23.other W29 (Or.inr (sn125 hw))
  have f38 := f24.other W29 (Or.inr (sn126 hw))
  have f39 := f25.other W29 (Or.inr (sn127 hw))
  have f40 := f26.other W29 (Or.inr (sn128 hw))
  have f41 := f27.other W29 (Or.inr (sn129 hw))
  have f42 := f28.other W29 (Ne.symm Y2)
  have NF29 := Fr.snoc X29 NF2 G0
  have SZ29 : n0 ≤ h29.size := (Nat.le_trans SZ15 (Keep.of_wr W29).1)
  have KP29 : Keep h0 h29 [a0] := KP15.wr W29 (Or.inl (List.mem_of_getElem? (i := 0) rfl))
  refine op T29 (mkF m 18 #[rv a0, iv p1] [(.int 0), (.ref a0)]) (fun _ k => st' _ (XS.aloadN X29.here hx rfl (hb hby d5_16) rfl rfl (XS.iconst X29.here hx rfl (hb hby d5_17) k))) ?_
  obtain ⟨T43, h43, k43, X43, e43, E43, A43, st'⟩ := newP X29 hx hZ (ow hw 16 rfl) e29 (g := (mkF m 18 #[rv a0, iv p1] [(.int 0), (.ref a0)])) rfl (hb hby d5_18) rfl (by decide) (cap := 0) (by decide) (by decide) (by decide) (by decide)
  obtain ⟨b43, g43⟩ : ∃ z, z = h29.size := ⟨_, rfl⟩
  rw [← g43] at A43 st'
  have g_b43 : n0 ≤ b43 := Nat.le_trans SZ29 (Nat.le_of_eq g43.symm)
  have Yi : a0 ≠ b43 := Nat.ne_of_lt (Nat.lt_of_lt_of_le f31.lt (Nat.le_of_eq g43.symm))
  have ne_b15_b43 : b15 ≠ b43 := Nat.ne_of_lt (Nat.lt_of_lt_of_le f42.lt (Nat.le_of_eq g43.symm))
  have sz_b43 : h0.size ≤ b43 := Nat.le_trans KP29.1 (Nat.le_of_eq g43.symm)
  have KP43 := KP29.ext E43
  have SZ43 : n0 ≤ h43.size := Nat.le_trans SZ29 E43.1
  have f44 := f31.ext E43
  have f45 := f30.ext E43
  have f46 := f32.ext E43
  have f47 := f33.ext E43
  have f48 := f34.ext E43
  have f49 := f35.ext E43
  have f50 := f36.ext E43
  have f51 := f37.ext E43
  have f52 := f38.ext E43
  have f53 := f39.ext E43
  have f54 := f40.ext E43
  have f55 := f41.ext E43
  have f56 := f42.ext E43
  have f57 : own_Iv Z h43 b43 (0 : Int32) [] := ⟨_, (Arv.new A43 (by decide)).pad (pad_rep [] (.int 0) 0)⟩
  refine op T43 (mkF m 20 #[rv a0, iv p1] [(.ref b43), (.ref a0)]) (fun _ k => st' _ k) ?_
  obtain ⟨T58, h58, X58, e58, W58, st'⟩ := putF X43 hx hZ hown (host := "") (Or.inl (ow hw 31 rfl)) Via.refl e43 f46 f44 (Or.inl (ow hw 32 rfl)) (ow hw 19 rfl) (ty := (.array .int)) (by decide) rfl rfl (g := (mkF m 20 #[rv a0, iv p1] [(.ref b43), (.ref a0)])) rfl rfl (hb hby d5_20)
  have f59 := f46.same W58
  have f60 := f44.wr W58
  have f61 := f45.other W58 (Or.inr (sn130 hw))
  have f62 := f47.other W58 (Or.inr (sn131 hw))
  have f63 := f48.other W58 (Or.inr (sn132 hw))
  have f64 := f49.other W58 (Or.inr (sn133 hw))
  have f65 := f50.other W58 (Or.inr (sn134 hw))
  have f66 := f51.other W58 (Or.inr (sn135 hw))
  have f67 := f52.other W58 (Or.inr (sn136 hw))
  have f68 := f53.other W58 (Or.inr (sn137 hw))
  have f69 := f54.other W58 (Or.inr (sn138 hw))
  have f70 := f55.other W58 (Or.inr (sn139 hw))
  have f71 := f56.other W58 (Ne.symm Y2)
  have f72 := f57.other W58 (Ne.symm Yi)
  have NF58 := Fr.snoc X58 NF29 G0
  have SZ58 : n0 ≤ h58.size := (Nat.le_trans SZ43 (Keep.of_wr W58).1)
  have KP58 : Keep h0 h58 [a0] := KP43.wr W58 (Or.inl (List.mem_of_getElem? (i := 0) rfl))
  refine op T58 (mkF m 25 #[rv a0, iv p1] [(.int 0), (.ref a0)]) (fun _ k => st' _ (XS.aloadN X58.here hx rfl (hb hby d5_23) rfl rfl (XS.iconst X58.here hx rfl (hb hby d5_24) k))) ?_
  obtain ⟨T73, h73, k73, X73, e73, E73, A73, st'⟩ := newP X58 hx hZ (ow hw 33 rfl) e58 (g := (mkF m 25 #[rv a0, iv p1] [(.int 0), (.ref a0)])) rfl (hb hby d5_25) rfl (by decide) (cap := 0) (by decide) (by decide) (by decide) (by decide)
  obtain ⟨b73, g73⟩ : ∃ z, z = h58.size := ⟨_, rfl⟩
  rw [← g73] at A73 st'
  have g_b73 : n0 ≤ b73 := Nat.le_trans SZ58 (Nat.le_of_eq g73.symm)
  have G0g : a0 ≠ b73 := Nat.ne_of_lt (Nat.lt_of_lt_of_le f60.lt (Nat.le_of_eq g73.symm))
  have ne_b15_b73 : b15 ≠ b73 := Nat.ne_of_lt (Nat.lt_of_lt_of_le f71.lt (Nat.le_of_eq g73.symm))
  have ne_b43_b73 : b43 ≠ b73 := Nat.ne_of_lt (Nat.lt_of_lt_of_le f72.lt (Nat.le_of_eq g73.symm))
  have sz_b73 : h0.size ≤ b73 := Nat.le_trans KP58.1 (Nat.le_of_eq g73.symm)
  have KP73 := KP58.ext E73
  have SZ73 : n0 ≤ h73.size := Nat.le_trans SZ58 E73.1
  have f74 := f60.ext E73
  have f75 := f61.ext E73
  have f76 := f59.ext E73
  have f77 := f62.ext E73
  have f78 := f63.ext E73
  have f79 := f64.ext E73
  have f80 := f65.ext E73
  have f81 := f66.ext E73
  have f82 := f67.ext E73
  have f83 := f68.ext E73
  have f84 := f69.ext E73
  have f85 := f70.ext E73
  have f86 := f71.ext E73
  have f87 := f72.ext E73
  have f88 : own_Ar Z h73 b73 .char (0 : Int32) := own_arNew A73 (by decide) rfl
  refine op T73 (mkF m 27 #[rv a0, iv p1] [(.ref b73), (.ref a0)]) (fun _ k => st' _ k) ?_
  obtain ⟨T89, h89, X89, e89, W89, st'⟩ := putF X73 hx hZ hown (host := "") (Or.inl (ow hw 34 rfl)) Via.refl e73 f77 f74 (Or.inl (ow hw 35 rfl)) (ow hw 19 rfl) (ty := (.array .char)) (by decide) rfl rfl (g := (mkF m 27 #[rv a0, iv p1] [(.ref b73), (.ref a0)])) rfl rfl (hb hby d5_27)
  have f90 := f77.same W89
  have f91 := f74.wr W89
  have f92 := f75.other W89 (Or.inr (sn140 hw))
  have f93 := f76.other W89 (Or.inr (sn141 hw))
  have f94 := f78.other W89 (Or.inr (sn142 hw))
  have f95 := f79.other W89 (Or.inr (sn143 hw))
  have f96 := f80.other W89 (Or.inr (sn144 hw))
  have f97 := f81.other W89 (Or.inr (sn145 hw))
  have f98 := f82.other W89 (Or.inr (sn146 hw))
  have f99 := f83.other W89 (Or.inr (sn147 hw))
  have f100 := f84.other W89 (Or.inr (sn148 hw))
  have f101 := f85.other W89 (Or.inr (sn149 hw))
  have f102 := f86.other W89 (Ne.symm Y2)
  have f103 := f87.other W89 (Ne.symm Yi)
  have f104 := f88.other W89 (Ne.symm G0g)
  have NF89 := Fr.snoc X89 NF58 G0
  have SZ89 : n0 ≤ h89.size := (Nat.le_trans SZ73 (Keep.of_wr W89).1)
  have KP89 : Keep h0 h89 [a0] := KP73.wr W89 (Or.inl (List.mem_of_getElem? (i := 0) rfl))
  refine op T89 (mkF m 32 #[rv a0, iv p1] [(.int 0), (.ref a0)]) (fun _ k => st' _ (XS.aloadN X89.here hx rfl (hb hby d5_30) rfl rfl (XS.iconst X89.here hx rfl (hb hby d5_31) k))) ?_
  obtain ⟨T105, h105, k105, X105, e105, E105, A105, st'⟩ := newP X89 hx hZ (ow hw 16 rfl) e89 (g := (mkF m 32 #[rv a0, iv p1] [(.int 0), (.ref a0)])) rfl (hb hby d5_32) rfl (by decide) (cap := 0) (by decide) (by decide) (by decide) (by decide)
  obtain ⟨b105, g105⟩ : ∃ z, z = h89.size := ⟨_, rfl⟩
  rw [← g105] at A105 st'
  have g_b105 : n0 ≤ b105 := Nat.le_trans SZ89 (Nat.le_of_eq g105.symm)
  have G0z : a0 ≠ b105 := Nat.ne_of_lt (Nat.lt_of_lt_of_le f91.lt (Nat.le_of_eq g105.symm))
  have ne_b15_b105 : b15 ≠ b105 := Nat.ne_of_lt (Nat.lt_of_lt_of_le f102.lt (Nat.le_of_eq g105.symm))
  have ne_b43_b105 : b43 ≠ b105 := Nat.ne_of_lt (Nat.lt_of_lt_of_le f103.lt (Nat.le_of_eq g105.symm))
  have ne_b73_b105 : b73 ≠ b105 := Nat.ne_of_lt (Nat.lt_of_lt_of_le f104.lt (Nat.le_of_eq g105.symm))
  have sz_b105 : h0.size ≤ b105 := Nat.le_trans KP89.1 (Nat.le_of_eq g105.symm)
  have KP105 := KP89.ext E105
  have SZ105 : n0 ≤ h105.size := Nat.le_trans SZ89 E105.1
  have f106 := f91.ext E105
  have f107 := f92.ext E105
  have f108 := f93.ext E105
  have f109 := f90.ext E105
  have f110 := f94.ext E105
  have f111 := f95.ext E105
  have f112 := f96.ext E105
  have f113 := f97.ext E105
  have f114 := f98.ext E105
  have f115 := f99.ext E105
  have f116 := f100.ext E105
  have f117 := f101.ext E105
  have f118 := f102.ext E105
  have f119 := f103.ext E105
  have f120 := f104.ext E105
  have f121 : own_Iv Z h105 b105 (0 : Int32) [] := ⟨_, (Arv.new A105 (by decide)).pad (pad_rep [] (.int 0) 0)⟩
  refine op T105 (mkF m 34 #[rv a0, iv p1] [(.ref b105), (.ref a0)]) (fun _ k => st' _ k) ?_
  obtain ⟨T122, h122, X122, e122, W122, st'⟩ := putF X105 hx hZ hown (host := "") (Or.inl (ow hw 36 rfl)) Via.refl e105 f110 f106 (Or.inl (ow hw 37 rfl)) (ow hw 19 rfl) (ty := (.array .int)) (by decide) rfl rfl (g := (mkF m 34 #[rv a0, iv p1] [(.ref b105), (.ref a0)])) rfl rfl (hb hby d5_34)
  have f123 := f110.same W122
  have f124 := f106.wr W122
  have f125 := f107.other W122 (Or.inr (sn150 hw))
  have f126 := f108.other W122 (Or.inr (sn151 hw))
  have f127 := f109.other W122 (Or.inr (sn152 hw))
  have f128 := f111.other W122 (Or.inr (sn153 hw))
  have f129 := f112.other W122 (Or.inr (sn154 hw))
  have f130 := f113.other W122 (Or.inr (sn155 hw))
  have f131 := f114.other W122 (Or.inr (sn156 hw))
  have f132 := f115.other W122 (Or.inr (sn157 hw))
  have f133 := f116.other W122 (Or.inr (sn158 hw))
  have f134 := f117.other W122 (Or.inr (sn159 hw))
  have f135 := f118.other W122 (Ne.symm Y2)
  have f136 := f119.other W122 (Ne.symm Yi)
  have f137 := f120.other W122 (Ne.symm G0g)
  have f138 := f121.other W122 (Ne.symm G0z)
  have NF122 := Fr.snoc X122 NF89 G0
  have SZ122 : n0 ≤ h122.size := (Nat.le_trans SZ105 (Keep.of_wr W122).1)
  have KP122 : Keep h0 h122 [a0] := KP105.wr W122 (Or.inl (List.mem_of_getElem? (i := 0) rfl))
  refine op T122 (mkF m 39 #[rv a0, iv p1] [(.int p1), (.ref a0)]) (fun _ k => st' _ (XS.aloadN X122.here hx rfl (hb hby d5_37) rfl rfl (XS.iloadN X122.here hx rfl (hb hby d5_38) rfl k))) ?_
  obtain ⟨T139, h139, X139, e139, W139, st'⟩ := putF X122 hx hZ hown (host := "") (Or.inl (ow hw 38 rfl)) Via.refl e122 f134 f124 (Or.inr ⟨(ow hw 39 rfl), rfl, hnm⟩) (ow hw 19 rfl) (ty := .int) (by decide) rfl rfl (g := (mkF m 39 #[rv a0, iv p1] [(.int p1), (.ref a0)])) rfl rfl (hb hby d5_39)
  have f140 := f134.same W139
  have f141 := f124.wr W139
  have f142 := f125.other W139 (Or.inr (sn160 hw))
  have f143 := f126.other W139 (Or.inr (sn161 hw))
  have f144 := f127.other W139 (Or.inr (sn162 hw))
  have f145 := f123.other W139 (Or.inr (sn163 hw))
  have f146 := f128.other W139 (Or.inr (sn164 hw))
  have f147 := f129.other W139 (Or.inr (sn165 hw))
  have f148 := f130.other W139 (Or.inr (sn166 hw))
  have f149 := f131.other W139 (Or.inr (sn167 hw))
  have f150 := f132.other W139 (Or.inr (sn168 hw))
  have f151 := f133.other W139 (Or.inr (sn169 hw))
  have f152 := f135.other W139 (Ne.symm Y2)
  have f153 := f136.other W139 (Ne.symm Yi)
  have f154 := f137.other W139 (Ne.symm G0g)
  have f155 := f138.other W139 (Ne.symm G0z)
  have NF139 := Fr.snoc X139 NF122 G0
  have SZ139 : n0 ≤ h139.size := (Nat.le_trans SZ122 (Keep.of_wr W139).1)
  have KP139 : Keep h0 h139 [a0] := KP122.wr W139 (Or.inl (List.mem_of_getElem? (i := 0) rfl))
  refine op T139 (mkF m 43 #[rv a0, iv p1] [(.ref a0)]) (fun _ k => st' _ (XS.aloadN X139.here hx rfl (hb hby d5_42) rfl rfl k)) ?_
  obtain ⟨T156, h156, X156, e156, E156, A156, D156, -, st'⟩ := newO X139 hx hZ hown (ow hw 40 rfl) (ow hw 41 rfl) (ow hw 42 rfl) e139 (g := (mkF m 43 #[rv a0, iv p1] [(.ref a0)])) rfl (hb hby d5_43) (by decide) (by decide)
  obtain ⟨b156, g156⟩ : ∃ z, z = h139.size := ⟨_, rfl⟩
  rw [← g156] at A156 D156 st'
  have g_b156 : n0 ≤ b156 := Nat.le_trans SZ139 (Nat.le_of_eq g156.symm)
  have Mr : a0 ≠ b156 := Nat.ne_of_lt (Nat.lt_of_lt_of_le f141.lt (Nat.le_of_eq g156.symm))
  have ne_b15_b156 : b15 ≠ b156 := Nat.ne_of_lt (Nat.lt_of_lt_of_le f152.lt (Nat.le_of_eq g156.symm))
  have ne_b43_b156 : b43 ≠ b156 := Nat.ne_of_lt (Nat.lt_of_lt_of_le f153.lt (Nat.le_of_eq g156.symm))
  have ne_b73_b156 : b73 ≠ b156 := Nat.ne_of_lt (Nat.lt_of_lt_of_le f154.lt (Nat.le_of_eq g156.symm))
  have ne_b105_b156 : b105 ≠ b156 := Nat.ne_of_lt (Nat.lt_of_lt_of_le f155.lt (Nat.le_of_eq g156.symm))
  have sz_b156 : h0.size ≤ b156 := Nat.le_trans KP139.1 (Nat.le_of_eq g156.symm)
  have KP156 := KP139.ext E156
  have SZ156 : n0 ≤ h156.size := Nat.le_trans SZ139 E156.1
  have f157 := f141.ext E156
  have f158 := f142.ext E156
  have f159 := f143.ext E156
  have f160 := f144.ext E156
  have f161 := f145.ext E156
  have f162 := f146.ext E156
  have f163 := f147.ext E156
  have f164 := f148.ext E156
  have f165 := f149.ext E156
  have f166 := f150.ext E156
  have f167 := f151.ext E156
  have f168 := f140.ext E156
  have f169 := f152.ext E156
  have f170 := f153.ext E156
  have f171 := f154.ext E156
  have f172 := f155.ext E156
  have f173 : Fld Z h156 b156 cS "starts" "[I" .null := D156 (Or.inl (ow hw 48 rfl)) (ty := (.array .int)) (by decide)
  have f174 : Fld Z h156 b156 cS "tailed" "[I" .null := D156 (Or.inl (ow hw 50 rfl)) (ty := (.array .int)) (by decide)
  have f175 : Fld Z h156 b156 cS "tails" "[I" .null := D156 (Or.inl (ow hw 52 rfl)) (ty := (.array .int)) (by decide)
  have f176 : Fld Z h156 b156 cS "countries" "[C" .null := D156 (Or.inl (ow hw 54 rfl)) (ty := (.array .char)) (by decide)
  have f177 : Fld Z h156 b156 cS "width" "I" (.int 0) := D156 (Or.inr (ow hw 56 rfl)) (ty := .int) (by decide)
  have f178 : Fld Z h156 b156 cS "head" "I" (.int 0) := D156 (Or.inr (ow hw 62 rfl)) (ty := .int) (by decide)
  have f179 : Fld Z h156 b156 cS "after" "[I" .null := D156 (Or.inr (ow hw 64 rfl)) (ty := (.array .int)) (by decide)
  have f180 : Fld Z h156 b156 cS "ranges" "I" (.int 0) := D156 (Or.inl (ow hw 81 rfl)) (ty := .int) (by decide)
  have f181 : Fld Z h156 b156 cS "size" "I" (.int 0) := D156 (Or.inl (ow hw 92 rfl)) (ty := .int) (by decide)
  have f182 : Fld Z h156 b156 cS "full" "Z" (.int 0) := D156 (Or.inl (ow hw 102 rfl)) (ty := .boolean) (by decide)
  have f183 : Fld Z h156 b156 cS "tailedSize" "I" (.int 0) := D156 (Or.inl (ow hw 143 rfl)) (ty := .int) (by decide)
  refine op T156 (mkF m 48 #[rv a0, iv p1] [(.int p1), (.ref b156), (.ref b156), (.ref a0)]) (fun _ k => st' _ (XS.dup X156.here hx rfl (hb hby d5_46) rfl rfl (XS.iloadN X156.here hx rfl (hb hby d5_47) rfl k))) ?_
  obtain ⟨Lg184, Xg184, NFg184⟩ : ∃ L, Stand p l e Qbin s m #[(.ref a0), (.int p1)] below meth c T156 L 5 11 ∧ Fr n0 L := ⟨_, X156, NF139⟩
  obtain ⟨_, _, ⟨T185, L185, k185, n185⟩, -, X185', ⟨Lc185, hQ185, l185, y185, z185⟩, st'⟩ := Xg184.specialBack hx (y := y11) rfl hown (mvT hZ (ow hw 43 rfl)) (mvT hZ (ow hw 44 rfl)) (mvT hZ (ow hw 45 rfl)) (by decide) (backOf (W := 2) (rmsin l Z aw hw [] p1 b156 h156 n0 SZ156 A156 f173 f174 f175 f176 f179 f177 f178 f181 f180 f183 f182 HD g_b156) hZ (ow hw 45 rfl) (ow hw 42 rfl) (by decide) (by decide)) (g := (mkF m 48 #[rv a0, iv p1] [(.int p1), (.ref b156), (.ref b156), (.ref a0)])) rfl (by rw [hml]; rfl) (Steps.refl _) (a := b156) (argsL := [(.int p1)]) (rest := [(.ref b156), (.ref a0)]) (lenOf own_pd5 rfl) rfl (by show 2 * 0 + _ ≤ _; exact Nat.le_of_eq rfl) (hb hby d5_48) (fun _ _ => ⟨rfl, e156, (by decide : 5 + 5 ≤ _), (by decide : 11 + 4 ≤ _)⟩)
  dsimp only [Pt.U, Pt.locs, Pt.cells, Pt.slots] at X185' l185 y185 z185 st' hQ185
  subst l185 y185 z185
  obtain ⟨rfl, b185_qS, b185_qT, b185_qL, b185_qC, b185_qA, NFq185, KPq185, sz185_qS, sz185_qT, sz185_qL, sz185_qC, sz185_qA, nf185_qS_qT, nf185_qS_qL, nf185_qT_qL, nf185_qS_qC, nf185_qT_qC, nf185_qL_qC, nf185_qS_qA, nf185_qT_qA, nf185_qL_qA, nf185_qC_qA, p185_0, p185_1, p185_2, p185_3, p185_4, p185_5, p185_6, p185_7, p185_8, p185_9, p185_10, p185_11, p185_12, p185_13, p185_14, p185_15, p185_16⟩ := hQ185
  have X185 : Stand p l e Qbin s m #[(.ref a0), (.int p1)] below meth c T185 _ 10 15 := X185'
  have NF185 := Fr.app NFg184 NFq185
  have SZ185 : n0 ≤ T185.heap.size := Nat.le_trans SZ156 KPq185.1
  have KP185 : Keep h0 T185.heap [a0] := KP156.trans KPq185 (allS (Or.inr sz_b156) all0)
  have g_b185_qS : n0 ≤ b185_qS := Nat.le_trans SZ156 sz185_qS
  have sz_b185_qS : h0.size ≤ b185_qS := Nat.le_trans KP156.1 sz185_qS
  have ne_a0_b185_qS : a0 ≠ b185_qS := Nat.ne_of_lt (Nat.lt_of_lt_of_le f157.lt sz185_qS)
  have ne_b15_b185_qS : b15 ≠ b185_qS := Nat.ne_of_lt (Nat.lt_of_lt_of_le f169.lt sz185_qS)
  have ne_b43_b185_qS : b43 ≠ b185_qS := Nat.ne_of_lt (Nat.lt_of_lt_of_le f170.lt sz185_qS)
  have ne_b73_b185_qS : b73 ≠ b185_qS := Nat.ne_of_lt (Nat.lt_of_lt_of_le f171.lt sz185_qS)
  have ne_b105_b185_qS : b105 ≠ b185_qS := Nat.ne_of_lt (Nat.lt_of_lt_of_le f172.lt sz185_qS)
  have ne_b156_b185_qS : b156 ≠ b185_qS := Nat.ne_of_lt (Nat.lt_of_lt_of_le A156.lt sz185_qS)
  have g_b185_qT : n0 ≤ b185_qT := Nat.le_trans SZ156 sz185_qT
  have sz_b185_qT : h0.size ≤ b185_qT := Nat.le_trans KP156.1 sz185_qT
  have ne_a0_b185_qT : a0 ≠ b185_qT := Nat.ne_of_lt (Nat.lt_of_lt_of_le f157.lt sz185_qT)
  have ne_b15_b185_qT : b15 ≠ b185_qT := Nat.ne_of_lt (Nat.lt_of_lt_of_le f169.lt sz185_qT)
  have ne_b43_b185_qT : b43 ≠ b185_qT := Nat.ne_of_lt (Nat.lt_of_lt_of_le f170.lt sz185_qT)
  have ne_b73_b185_qT : b73 ≠ b185_qT := Nat.ne_of_lt (Nat.lt_of_lt_of_le f171.lt sz185_qT)
  have ne_b105_b185_qT : b105 ≠ b185_qT := Nat.ne_of_lt (Nat.lt_of_lt_of_le f172.lt sz185_qT)
  have ne_b156_b185_qT : b156 ≠ b185_qT := Nat.ne_of_lt (Nat.lt_of_lt_of_le A156.lt sz185_qT)
  have g_b185_qL : n0 ≤ b185_qL := Nat.le_trans SZ156 sz185_qL
  have sz_b185_qL : h0.size ≤ b185_qL := Nat.le_trans KP156.1 sz185_qL
  have ne_a0_b185_qL : a0 ≠ b185_qL := Nat.ne_of_lt (Nat.lt_of_lt_of_le f157.lt sz185_qL)
  have ne_b15_b185_qL : b15 ≠ b185_qL := Nat.ne_of_lt (Nat.lt_of_lt_of_le f169.lt sz185_qL)
  have ne_b43_b185_qL : b43 ≠ b185_qL := Nat.ne_of_lt (Nat.lt_of_lt_of_le f170.lt sz185_qL)
  have ne_b73_b185_qL : b73 ≠ b185_qL := Nat.ne_of_lt (Nat.lt_of_lt_of_le f171.lt sz185_qL)
  have ne_b105_b185_qL : b105 ≠ b185_qL := Nat.ne_of_lt (Nat.lt_of_lt_of_le f172.lt sz185_qL)
  have ne_b156_b185_qL : b156 ≠ b185_qL := Nat.ne_of_lt (Nat.lt_of_lt_of_le A156.lt sz185_qL)
  have g_b185_qC : n0 ≤ b185_qC := Nat.le_trans SZ156 sz185_qC
  have sz_b185_qC : h0.size ≤ b185_qC := Nat.le_trans KP156.1 sz185_qC
  have ne_a0_b185_qC : a0 ≠ b185_qC := Nat.ne_of_lt (Nat.lt_of_lt_of_le f157.lt sz185_qC)
  have ne_b15_b185_qC : b15 ≠ b185_qC := Nat.ne_of_lt (Nat.lt_of_lt_of_le f169.lt sz185_qC)
  have ne_b43_b185_qC : b43 ≠ b185_qC := Nat.ne_of_lt (Nat.lt_of_lt_of_le f170.lt sz185_qC)
  have ne_b73_b185_qC : b73 ≠ b185_qC := Nat.ne_of_lt (Nat.lt_of_lt_of_le f171.lt sz185_qC)
  have ne_b105_b185_qC : b105 ≠ b185_qC := Nat.ne_of_lt (Nat.lt_of_lt_of_le f172.lt sz185_qC)
  have ne_b156_b185_qC : b156 ≠ b185_qC := Nat.ne_of_lt (Nat.lt_of_lt_of_le A156.lt sz185_qC)
  have g_b185_qA : n0 ≤ b185_qA := Nat.le_trans SZ156 sz185_qA
  have sz_b185_qA : h0.size ≤ b185_qA := Nat.le_trans KP156.1 sz185_qA
  have ne_a0_b185_qA : a0 ≠ b185_qA := Nat.ne_of_lt (Nat.lt_of_lt_of_le f157.lt sz185_qA)
  have ne_b15_b185_qA : b15 ≠ b185_qA := Nat.ne_of_lt (Nat.lt_of_lt_of_le f169.lt sz185_qA)
  have ne_b43_b185_qA : b43 ≠ b185_qA := Nat.ne_of_lt (Nat.lt_of_lt_of_le f170.lt sz185_qA)
  have ne_b73_b185_qA : b73 ≠ b185_qA := Nat.ne_of_lt (Nat.lt_of_lt_of_le f171.lt sz185_qA)
  have ne_b105_b185_qA : b105 ≠ b185_qA := Nat.ne_of_lt (Nat.lt_of_lt_of_le f172.lt sz185_qA)
  have ne_b156_b185_qA : b156 ≠ b185_qA := Nat.ne_of_lt (Nat.lt_of_lt_of_le A156.lt sz185_qA)
  have f186 := f157.keep KPq185
  have f187 := f158.keep KPq185 (ninS Mr nin0)
  have f188 := f159.keep KPq185 (ninS Mr nin0)
  have f189 := f160.keep KPq185 (ninS Mr nin0)
  have f190 := f161.keep KPq185 (ninS Mr nin0)
  have f191 := f162.keep KPq185 (ninS Mr nin0)
  have f192 := f163.keep KPq185 (ninS Mr nin0)
  have f193 := f164.keep KPq185 (ninS Mr nin0)
  have f194 := f165.keep KPq185 (ninS Mr nin0)
  have f195 := f166.keep KPq185 (ninS Mr nin0)
  have f196 := f167.keep KPq185 (ninS Mr nin0)
  have f197 := f168.keep KPq185 (ninS Mr nin0)
  have f198 := f169.keep KPq185 (ninS ne_b15_b156 nin0)
  have f199 := f170.keep KPq185 (ninS ne_b43_b156 nin0)
  have f200 := f171.keep KPq185 (ninS ne_b73_b156 nin0)
  have f201 := f172.keep KPq185 (ninS ne_b105_b156 nin0)
  have f202 := A156.keep KPq185
  refine op T185 (mkF m 51 #[rv a0, iv p1] [(.ref b156), (.ref a0)]) (fun _ k => st'.trans k) ?_
  obtain ⟨T203, h203, X203, e203, W203, st'⟩ := putF X185 hx hZ hown (host := "") (Or.inl (ow hw 65 rfl)) Via.refl (rfl : T185.heap = T185.heap) f191 f186 (Or.inr ⟨(ow hw 66 rfl), rfl, hnm⟩) (ow hw 19 rfl) (ty := (.object cS)) (by decide) rfl rfl (g := (mkF m 51 #[rv a0, iv p1] [(.ref b156), (.ref a0)])) rfl rfl (hb hby d5_51)
  have f204 := f191.same W203
  have f205 := f186.wr W203
  have f206 := f187.other W203 (Or.inr (sn170 hw))
  have f207 := f188.other W203 (Or.inr (sn171 hw))
  have f208 := f189.other W203 (Or.inr (sn172 hw))
  have f209 := f190.other W203 (Or.inr (sn173 hw))
  have f210 := f192.other W203 (Or.inr (sn174 hw))
  have f211 := f193.other W203 (Or.inr (sn175 hw))
  have f212 := f194.other W203 (Or.inr (sn176 hw))
  have f213 := f195.other W203 (Or.inr (sn177 hw))
  have f214 := f196.other W203 (Or.inr (sn178 hw))
  have f215 := f197.other W203 (Or.inr (sn179 hw))
  have f216 := f198.other W203 (Ne.symm Y2)
  have f217 := f199.other W203 (Ne.symm Yi)
  have f218 := f200.other W203 (Ne.symm G0g)
  have f219 := f201.other W203 (Ne.symm G0z)
  have f220 := p185_0.wr W203
  have f221 := p185_1.other W203 (Or.inl (Ne.symm Mr))
  have f222 := p185_2.other W203 (Or.inl (Ne.symm Mr))
  have f223 := p185_3.other W203 (Or.inl (Ne.symm Mr))
  have f224 := p185_4.other W203 (Or.inl (Ne.symm Mr))
  have f225 := p185_5.other W203 (Or.inl (Ne.symm Mr))
  have f226 := p185_6.other W203 (Or.inl (Ne.symm Mr))
  have f227 := p185_7.other W203 (Or.inl (Ne.symm Mr))
  have f228 := p185_8.other W203 (Or.inl (Ne.symm Mr))
  have f229 := p185_9.other W203 (Or.inl (Ne.symm Mr))
  have f230 := p185_10.other W203 (Or.inl (Ne.symm Mr))
  have f231 := p185_11.other W203 (Or.inl (Ne.symm Mr))
  have f232 := p185_12.other W203 (Ne.symm ne_a0_b185_qS)
  have f233 := p185_13.other W203 (Ne.symm ne_a0_b185_qT)
  have f234 := p185_14.other W203 (Ne.symm ne_a0_b185_qL)
  have f235 := p185_15.other W203 (Ne.symm ne_a0_b185_qC)
  have f236 := p185_16.other W203 (Ne.symm ne_a0_b185_qA)
  have NF203 := Fr.snoc X203 NF185 G0
  have SZ203 : n0 ≤ h203.size := (Nat.le_trans SZ185 (Keep.of_wr W203).1)
  have KP203 : Keep h0 h203 [a0] := KP185.wr W203 (Or.inl (List.mem_of_getElem? (i := 0) rfl))
  refine op T203 (mkF m 54 #[rv a0, iv p1] []) (fun _ k => st' _ k) ?_
  exact own_retV X203 hx Bd.notSynchronized Bd.returns (hb hby d5_54) (by rw [e203]; exact ⟨b15, b43, b73, b105, b156, b185_qS, b185_qT, b185_qL, b185_qC, b185_qA, NF203, KP203, sz_b15, sz_b43, sz_b73, sz_b105, sz_b156, sz_b185_qS, sz_b185_qT, sz_b185_qL, sz_b185_qC, sz_b185_qA, ne_b15_b43, ne_b15_b73, ne_b43_b73, ne_b15_b105, ne_b43_b105, ne_b73_b105, ne_b15_b156, ne_b43_b156, ne_b73_b156, ne_b105_b156, ne_b15_b185_qS, ne_b43_b185_qS, ne_b73_b185_qS, ne_b105_b185_qS, ne_b156_b185_qS, ne_b15_b185_qT, ne_b43_b185_qT, ne_b73_b185_qT, ne_b105_b185_qT, ne_b156_b185_qT, nf185_qS_qT, ne_b15_b185_qL, ne_b43_b185_qL, ne_b73_b185_qL, ne_b105_b185_qL, ne_b156_b185_qL, nf185_qS_qL, nf185_qT_qL, ne_b15_b185_qC, ne_b43_b185_qC, ne_b73_b185_qC, ne_b105_b185_qC, ne_b156_b185_qC, nf185_qS_qC, nf185_qT_qC, nf185_qL_qC, ne_b15_b185_qA, ne_b43_b185_qA, ne_b73_b185_qA, ne_b105_b185_qA, ne_b156_b185_qA, nf185_qS_qA, nf185_qT_qA, nf185_qL_qA, nf185_qC_qA, f205, f210, f211, f212, f213, f214, f206, f207, f208, f209, f215, f204, f220, f221, f222, f223, f224, f225, f226, f227, f228, f229, f230, f231, f232, f233, f234, f235, f236, (f216.ar rfl), (f217.ar rfl), (f219.ar rfl), f218⟩) (by decide) (by decide)
theorem ef_bin (m : MethodId) (a0 : Addr) (p1 : Int32) : entryFrame m #[(.ref a0), (.int p1)] 2 = mkF m 0 #[rv a0, iv p1] [] := by first | (simp [entryFrame, mkF, argsToLocals, Value.category]; done) | rfl
set_option maxRecDepth 65536 in
set_option maxHeartbeats 40000000 in
theorem rmbin (l : Launch) (Z : State) (aw : Array Value) (hw : HW aw Z) (ws : List Jvm.Cond) (p1 : Int32) (a0 : Addr) (h0 : Heap) (n0 : Nat) (SZ0 : n0 ≤ h0.size) (Ga : Exa Z h0 a0 cB) (Gk : Fld Z h0 a0 cB "starts" "[I" .null) (J8 : Fld Z h0 a0 cB "ends" "[I" .null) (Gg : Fld Z h0 a0 cB "countries" "[C" .null) (J9 : Fld Z h0 a0 cB "lineNumbers" "[I" .null) (J1 : Fld Z h0 a0 cB "segments" dS .null) (Hz : Fld Z h0 a0 cB "inOrder" "Z" (.int 0)) (Ja : Fld Z h0 a0 cB "allocated" "Z" (.int 0)) (J0 : Fld Z h0 a0 cB "counted" "I" (.int 0)) (Gc : Fld Z h0 a0 cB "size" "I" (.int 0)) (J6 : Fld Z h0 a0 cB "differs" "Z" (.int 0)) (Gb : Fld Z h0 a0 cB "width" "I" (.int 0)) (HD : p1 = 1 ∨ p1 = 4) (G0 : n0 ≤ a0) :
    MetFree l y12 (head1 (Jvm.Cond.code y12 Jc 2 none :: ws) Qbin) (fun a U => a = #[(.ref a0), (.int p1)] ∧ Z.Warmed39 U.vm ∧ U.heap = h0) (fun _ _ _ _ _ => True) (fun _ U o U' => ∃ v L, o = .returned v ∧ own_Q (Rbin (fbin_0 p1)) (Kbin Z p1 a0 h0 n0 (fbin_0 p1)) v U'.heap L ∧ FrameEnd U o U' L Qbin.cells Qbin.slots) := by
  refine MetFree.of_bodySF (plainFor_of_name own_pn3) hisR ?_
  intro p e s m args below meth c s₁ Bd hml0 hP hK
  obtain ⟨rfl, hZ, hh⟩ := hP
  have hml : c.maxLocals = 2 := hml0
  have e0 : s₁.heap = h0 := by rw [← hh, Bd.state]; rfl
  exact own_pre (fun t k => castTop (ef_bin m a0 p1) k) (gbin_0 hw p1 a0 HD Bd hml hZ G0 s₁ (Stand.of_body Bd) e0 SZ0 (Fr.nil n0) (Keep.refl _ _) Ga Gk J8 Gg J9 J1 Hz Ja J0 Gc J6 Gb)
abbrev Qad : Room := { frames := 4, cells := 0, slots := 0, locals := 98 }
theorem sn180 (hw : HW aw Z) : NS Z cB "inOrder" "Z" cB "differs" "Z" := own_sn (la12 hw) (la20 hw) (by decide)
theorem sn181 (hw : HW aw Z) : NS Z cB "allocated" "Z" cB "differs" "Z" := own_sn (la17 hw) (la20 hw) (by decide)
theorem sn182 (hw : HW aw Z) : NS Z cB "counted" "I" cB "differs" "Z" := own_sn (la18 hw) (la20 hw) (by decide)
theorem sn183 (hw : HW aw Z) : NS Z cB "size" "I" cB "differs" "Z" := own_sn (la19 hw) (la20 hw) (by decide)
theorem sn184 (hw : HW aw Z) : NS Z cB "starts" "[I" cB "differs" "Z" := own_sn (la11 hw) (la20 hw) (by decide)
theorem sn185 (hw : HW aw Z) : NS Z cB "ends" "[I" cB "differs" "Z" := own_sn (la13 hw) (la20 hw) (by decide)
theorem sn186 (hw : HW aw Z) : NS Z cB "countries" "[C" cB "differs" "Z" := own_sn (la14 hw) (la20 hw) (by decide)
theorem sn187 (hw : HW aw Z) : NS Z cB "lineNumbers" "[I" cB "differs" "Z" := own_sn (la15 hw) (la20 hw) (by decide)
theorem sn188 (hw : HW aw Z) : NS Z cB "width" "I" cB "differs" "Z" := own_sn (la21 hw) (la20 hw) (by decide)
theorem sn189 (hw : HW aw Z) : NS Z cB "segments" dS cB "differs" "Z" := own_sn (la16 hw) (la20 hw) (by decide)
theorem own_pd6 : parseMethodDescriptor "([II[IIC)V" = some ⟨[(.array .int), .int, (.array .int), .int, .char], none⟩ := by decide +kernel
theorem sn190 (hw : HW aw Z) : NS Z cB "inOrder" "Z" cB "size" "I" := own_sn (la12 hw) (la19 hw) (by decide)
theorem sn191 (hw : HW aw Z) : NS Z cB "allocated" "Z" cB "size" "I" := own_sn (la17 hw) (la19 hw) (by decide)
theorem sn192 (hw : HW aw Z) : NS Z cB "counted" "I" cB "size" "I" := own_sn (la18 hw) (la19 hw) (by decide)
theorem sn193 (hw : HW aw Z) : NS Z cB "differs" "Z" cB "size" "I" := own_sn (la20 hw) (la19 hw) (by decide)
theorem sn194 (hw : HW aw Z) : NS Z cB "starts" "[I" cB "size" "I" := own_sn (la11 hw) (la19 hw) (by decide)
theorem sn195 (hw : HW aw Z) : NS Z cB "ends" "[I" cB "size" "I" := own_sn (la13 hw) (la19 hw) (by decide)
theorem sn196 (hw : HW aw Z) : NS Z cB "countries" "[C" cB "size" "I" := own_sn (la14 hw) (la19 hw) (by decide)
theorem sn197 (hw : HW aw Z) : NS Z cB "lineNumbers" "[I" cB "size" "I" := own_sn (la15 hw) (la19 hw) (by decide)
theorem sn198 (hw : HW aw Z) : NS Z cB "width" "I" cB "size" "I" := own_sn (la21 hw) (la19 hw) (by decide)
theorem sn199 (hw : HW aw Z) : NS Z cB "segments" dS cB "size" "I" := own_sn (la16 hw) (la19 hw) (by decide)
/-! body 10, ad -/
theorem d10_0 : De Go 0 (.aload_n 0) 1 := by decide +kernel
theorem d10_1 : De Go 1 (.getfield 7) 3 := by decide +kernel
theorem d10_4 : De Go 4 (.ifCond .ne 83) 3 := by decide +kernel
theorem d10_7 : De Go 7 (.aload_n 0) 1 := by decide +kernel
theorem d10_8 : De Go 8 (.getfield 40) 3 := by decide +kernel
theorem d10_11 : De Go 11 (.aload_n 0) 1 := by decide +kernel
theorem d10_12 : De Go 12 (.getfield 20) 3 := by decide +kernel
theorem d10_15 : De Go 15 (.arraylength) 1 := by decide +kernel
theorem d10_16 : De Go 16 (.if_icmp .ge 118) 3 := by decide +kernel
theorem d10_19 : De Go 19 (.aload_n 1) 1 := by decide +kernel
theorem d10_20 : De Go 20 (.iconst 0) 1 := by decide +kernel
theorem d10_21 : De Go 21 (.aload_n 0) 1 := by decide +kernel
theorem d10_22 : De Go 22 (.getfield 13) 3 := by decide +kernel
theorem d10_25 : De Go 25 (.aload_n 0) 1 := by decide +kernel
theorem d10_26 : De Go 26 (.getfield 40) 3 := by decide +kernel
theorem d10_29 : De Go 29 (.aload_n 0) 1 := by decide +kernel
theorem d10_30 : De Go 30 (.getfield 27) 3 := by decide +kernel
theorem d10_33 : De Go 33 (.imul) 1 := by decide +kernel
theorem d10_34 : De Go 34 (.aload_n 0) 1 := by decide +kernel
theorem d10_35 : De Go 35 (.getfield 27) 3 := by decide +kernel
theorem d10_38 : De Go 38 (.invokestatic 43) 3 := by decide +kernel
theorem d10_41 : De Go 41 (.aload_n 2) 1 := by decide +kernel
theorem d10_42 : De Go 42 (.iconst 0) 1 := by decide +kernel
theorem d10_43 : De Go 43 (.aload_n 0) 1 := by decide +kernel
theorem d10_44 : De Go 44 (.getfield 17) 3 := by decide +kernel
theorem d10_47 : De Go 47 (.aload_n 0) 1 := by decide +kernel
theorem d10_48 : De Go 48 (.getfield 40) 3 := by decide +kernel
theorem d10_51 : De Go 51 (.aload_n 0) 1 := by decide +kernel
theorem d10_52 : De Go 52 (.getfield 27) 3 := by decide +kernel
theorem d10_55 : De Go 55 (.imul) 1 := by decide +kernel
theorem d10_56 : De Go 56 (.aload_n 0) 1 := by decide +kernel
theorem d10_57 : De Go 57 (.getfield 27) 3 := by decide +kernel
theorem d10_60 : De Go 60 (.invokestatic 43) 3 := by decide +kernel
theorem d10_63 : De Go 63 (.aload_n 0) 1 := by decide +kernel
theorem d10_64 : De Go 64 (.getfield 20) 3 := by decide +kernel
theorem d10_67 : De Go 67 (.aload_n 0) 1 := by decide +kernel
theorem d10_68 : De Go 68 (.getfield 40) 3 := by decide +kernel
theorem d10_71 : De Go 71 (.iload_n 3) 1 := by decide +kernel
theorem d10_72 : De Go 72 (.castore) 1 := by decide +kernel
theorem d10_73 : De Go 73 (.aload_n 0) 1 := by decide +kernel
theorem d10_74 : De Go 74 (.getfield 24) 3 := by decide +kernel
theorem d10_77 : De Go 77 (.aload_n 0) 1 := by decide +kernel
theorem d10_78 : De Go 78 (.getfield 40) 3 := by decide +kernel
theorem d10_81 : De Go 81 (.iload 4) 2 := by decide +kernel
theorem d10_83 : De Go 83 (.iastore) 1 := by decide +kernel
theorem d10_84 : De Go 84 (.goto 50) 3 := by decide +kernel
theorem d10_87 : De Go 87 (.aload_n 0) 1 := by decide +kernel
theorem d10_88 : De Go 88 (.getfield 36) 3 := by decide +kernel
theorem d10_91 : De Go 91 (.aload_n 1) 1 := by decide +kernel
theorem d10_92 : De Go 92 (.iconst 0) 1 := by decide +kernel
theorem d10_93 : De Go 93 (.invokevirtual 49) 3 := by decide +kernel
theorem d10_96 : De Go 96 (.ifCond .eq 18) 3 := by decide +kernel
theorem d10_99 : De Go 99 (.aload_n 0) 1 := by decide +kernel
theorem d10_100 : De Go 100 (.getfield 36) 3 := by decide +kernel
theorem d10_103 : De Go 103 (.aload_n 1) 1 := by decide +kernel
theorem d10_104 : De Go 104 (.iconst 0) 1 := by decide +kernel
theorem d10_105 : De Go 105 (.aload_n 2) 1 := by decide +kernel
theorem d10_106 : De Go 106 (.iconst 0) 1 := by decide +kernel
theorem d10_107 : De Go 107 (.iload_n 3) 1 := by decide +kernel
theorem d10_108 : De Go 108 (.invokevirtual 53) 3 := by decide +kernel
theorem d10_111 : De Go 111 (.goto 23) 3 := by decide +kernel
theorem d10_114 : De Go 114 (.aload_n 0) 1 := by decide +kernel
theorem d10_115 : De Go 115 (.getfield 57) 3 := by decide +kernel
theorem d10_118 : De Go 118 (.ifCond .eq 11) 3 := by decide +kernel
theorem d10_121 : De Go 121 (.aload_n 0) 1 := by decide +kernel
theorem d10_122 : De Go 122 (.iconst 1) 1 := by decide +kernel
theorem d10_123 : De Go 123 (.putfield 60) 3 := by decide +kernel
theorem d10_126 : De Go 126 (.goto 8) 3 := by decide +kernel
theorem d10_129 : De Go 129 (.aload_n 0) 1 := by decide +kernel
theorem d10_130 : De Go 130 (.iconst 0) 1 := by decide +kernel
theorem d10_131 : De Go 131 (.putfield 7) 3 := by decide +kernel
theorem d10_134 : De Go 134 (.aload_n 0) 1 := by decide +kernel
theorem d10_135 : De Go 135 (.dup) 1 := by decide +kernel
theorem d10_136 : De Go 136 (.getfield 40) 3 := by decide +kernel
theorem d10_139 : De Go 139 (.iconst 1) 1 := by decide +kernel
theorem d10_140 : De Go 140 (.iadd) 1 := by decide +kernel
theorem d10_141 : De Go 141 (.putfield 40) 3 := by decide +kernel
theorem d10_144 : De Go 144 (.return_) 1 := by decide +kernel
abbrev y13 : MethodName := ⟨cB, "add", "([I[ICI)V"⟩
def Rad (t : Int32 × Int32 × Int32 × Int32 × Int32 × Int32 × Int32 × Int32 × Int32 × Int32 × Int32) : Option Value := none
def Kad (Z : State) (p3 p4 ino alc cnt siz dif sz rng tsz ful nC nT w l0 l1 l2 l3 r0 r1 r2 r3 t0 t1 t2 t3 nB : Int32) (a0 a1 a2 sg sS sT sL sC sA bS bE bC bL : Addr) (h0 : Heap) (n0 : Nat) (t : Int32 × Int32 × Int32 × Int32 × Int32 × Int32 × Int32 × Int32 × Int32 × Int32 × Int32) (h : Heap) (L : List Loc) : Prop := Fr n0 L ∧ Keep h0 h [a0, sg, sS, sT, sL, sC, sA, bS, bE, bC, bL] ∧ Exa Z h a0 cB ∧ Fld Z h a0 cB "inOrder" "Z" (.int t.1) ∧ Fld Z h a0 cB "allocated" "Z" (.int alc) ∧ Fld Z h a0 cB "counted" "I" (.int cnt) ∧ Fld Z h a0 cB "size" "I" (.int t.2.1) ∧ Fld Z h a0 cB "differs" "Z" (.int t.2.2.1) ∧ Fld Z h a0 cB "starts" "[I" (.ref bS) ∧ Fld Z h a0 cB "ends" "[I" (.ref bE) ∧ Fld Z h a0 cB "countries" "[C" (.ref bC) ∧ Fld Z h a0 cB "lineNumbers" "[I" (.ref bL) ∧ Fld Z h a0 cB "width" "I" (.int w) ∧ Fld Z h a0 cB "segments" dS (.ref sg) ∧ Exa Z h sg cS ∧ Fld Z h sg cS "starts" "[I" (.ref sS) ∧ Fld Z h sg cS "tailed" "[I" (.ref sT) ∧ Fld Z h sg cS "tails" "[I" (.ref sL) ∧ Fld Z h sg cS "countries" "[C" (.ref sC) ∧ Fld Z h sg cS "width" "I" (.int w) ∧ Fld Z h sg cS "head" "I" (.int (own_hd w)) ∧ Fld Z h sg cS "after" "[I" (.ref sA) ∧ Fld Z h sg cS "size" "I" (.int t.2.2.2.1) ∧ Fld Z h sg cS "ranges" "I" (.int t.2.2.2.2.1) ∧ Fld Z h sg cS "tailedSize" "I" (.int t.2.2.2.2.2.1) ∧ Fld Z h sg cS "full" "Z" (.int t.2.2.2.2.2.2.1) ∧ own_Ar Z h sS .int (nC * (own_hd w)) ∧ own_Ar Z h sT .int nT ∧ own_Ar Z h sL .int (nT * (w - (own_hd w))) ∧ own_Ar Z h sC .char nC ∧ own_Ar Z h bS .int (nB * w) ∧ own_Ar Z h bE .int (nB * w) ∧ own_Ar Z h bC .char nB ∧ own_Ar Z h bL .int nB ∧ own_G Z h sA w t.2.2.2.2.2.2.2.1 t.2.2.2.2.2.2.2.2.1 t.2.2.2.2.2.2.2.2.2.1 t.2.2.2.2.2.2.2.2.2.2
def fad_134 (p3 p4 ino alc cnt siz dif sz rng tsz ful nC nT w l0 l1 l2 l3 r0 r1 r2 r3 t0 t1 t2 t3 nB Yj Yk Ym Yn Yo Yp v_sA_0 v_sA_1 v_sA_2 v_sA_3 : Int32) : Int32 × Int32 × Int32 × Int32 × Int32 × Int32 × Int32 × Int32 × Int32 × Int32 × Int32 := (Yj, (siz + (1 : Int32)), Yk, Ym, Yn, Yo, Yp, v_sA_0, v_sA_1, v_sA_2, v_sA_3)
set_option maxRecDepth 65536 in
set_option maxHeartbeats 40000000 in
theorem gad_134 (hw : HW aw Z) {h0 : Heap} {n0 : Nat} (p3 p4 ino alc cnt siz dif sz rng tsz ful nC nT w l0 l1 l2 l3 r0 r1 r2 r3 t0 t1 t2 t3 nB : Int32) (a0 a1 a2 sg sS sT sL sC sA bS bE bC bL : Addr) (Ms : a0 ≠ bS) (Mw : sg ≠ bS) (V1 : sS ≠ bS) (V2 : sT ≠ bS) (V3 : sL ≠ bS) (V4 : sC ≠ bS) (V5 : bS ≠ bE) (V6 : bS ≠ bC) (V7 : bS ≠ bL) (Wc : a1 ≠ bS) (Wd : a2 ≠ bS) (V8 : sA ≠ bS) (Mt : a0 ≠ bE) (Mx : sg ≠ bE) (V9 : sS ≠ bE) (Va : sT ≠ bE) (Vb : sL ≠ bE) (Vc : sC ≠ bE) (Vd : bE ≠ bC) (Ve : bE ≠ bL) (We : a1 ≠ bE) (Wf : a2 ≠ bE) (Vf : sA ≠ bE) (Mu : a0 ≠ bC) (My : sg ≠ bC) (Vg : sS ≠ bC) (Vh : sT ≠ bC) (Vi : sL ≠ bC) (Vj : sC ≠ bC) (Vk : bC ≠ bL) (Wg : a1 ≠ bC) (Wh : a2 ≠ bC) (Vm : sA ≠ bC) (Mv : a0 ≠ bL) (Mz : sg ≠ bL) (Vn : sS ≠ bL) (Vo : sT ≠ bL) (Vp : sL ≠ bL) (Vq : sC ≠ bL) (Wi : a1 ≠ bL) (Wj : a2 ≠ bL) (Vr : sA ≠ bL) (Gf : a0 ≠ sg) (Gd : a0 ≠ sS) (Gh : a0 ≠ sT) (Gi : a0 ≠ sL) (Ge : a0 ≠ sC) (Gu : a0 ≠ a1) (Ux : a0 ≠ a2) (G6 : a0 ≠ sA) (Wk : sg ≠ sS) (Hb : sS ≠ sT) (Hc : sS ≠ sL) (Ha : sS ≠ sC) (Hu : sS ≠ sA) (Wm : sg ≠ sC) (Hd : sT ≠ sC) (He : sL ≠ sC) (Hv : sC ≠ sA) (Wn : sg ≠ sT) (Jb : sT ≠ sL) (Hx : sT ≠ sA) (Wo : sg ≠ sL) (Hw : sL ≠ sA) (Uo : sg ≠ sA) (H0 : a1 ≠ sC) (Hs : a1 ≠ sL) (Hr : a1 ≠ sT) (Gz : a1 ≠ sS) (Vs : a1 ≠ sg) (Vt : a2 ≠ sC) (Vu : a2 ≠ sL) (Vv : a2 ≠ sT) (Vw : a2 ≠ sS) (Vx : a2 ≠ sg) (J5 : a1 ≠ sA) (Vy : a2 ≠ sA) (HS : 0 ≤ sz.toInt) (HS2 : sz.toInt ≤ 1000) (HC : nC.toInt ≤ 100) (HT : 0 ≤ tsz.toInt) (HT2 : tsz.toInt ≤ 1000) (HN : nT.toInt ≤ 100) (HZ : 0 ≤ siz.toInt) (HB : nB.toInt ≤ 100) (HD : w = 1 ∨ w = 4) (Yj Yk Ym Yn Yo Yp v_sA_0 v_sA_1 v_sA_2 v_sA_3 : Int32)
    (Bd : BodyLoose p l y13 (head1 (Jvm.Cond.code y13 Go 5 none :: ws) Qad) Go 5 none e s m #[(.ref a0), (.ref a1), (.ref a2), (.int p3), (.int p4)] below meth c s₁) (hml : c.maxLocals = 5) (hZ : Z.Warmed39 s.vm) (G0 : n0 ≤ a0) (Uq : n0 ≤ sg) (Hg : n0 ≤ sS) (Hj : n0 ≤ sT) (Hk : n0 ≤ sL) (Hh : n0 ≤ sC) (J7 : n0 ≤ sA) (Wp : n0 ≤ bS) (Wq : n0 ≤ bE) (Wr : n0 ≤ bC) (Ws : n0 ≤ bL) (T0 : State) {locs : List Loc} (X0 : Stand p l e Qad s m #[(.ref a0), (.ref a1), (.ref a2), (.int p3), (.int p4)] below meth c T0 locs 0 0) {h : Heap} (e0 : T0.heap = h) (SZ0 : n0 ≤ h.size) (NF0 : Fr n0 locs) (KP0 : Keep h0 h [a0, sg, sS, sT, sL, sC, sA, bS, bE, bC, bL]) (Ga : Exa Z h a0 cB) (Hz : Fld Z h a0 cB "inOrder" "Z" (.int Yj)) (Ja : Fld Z h a0 cB "allocated" "Z" (.int alc)) (J0 : Fld Z h a0 cB "counted" "I" (.int cnt)) (Gc : Fld Z h a0 cB "size" "I" (.int siz)) (J6 : Fld Z h a0 cB "differs" "Z" (.int Yk)) (Gk : Fld Z h a0 cB "starts" "[I" (.ref bS)) (J8 : Fld Z h a0 cB "ends" "[I" (.ref bE)) (Gg : Fld Z h a0 cB "countries" "[C" (.ref bC)) (J9 : Fld Z h a0 cB "lineNumbers" "[I" (.ref bL)) (Gb : Fld Z h a0 cB "width" "I" (.int w)) (J1 : Fld Z h a0 cB "segments" dS (.ref sg)) (J2 : Exa Z h sg cS) (M6 : Fld Z h sg cS "starts" "[I" (.ref sS)) (M0 : Fld Z h sg cS "tailed" "[I" (.ref sT)) (M7 : Fld Z h sg cS "tails" "[I" (.ref sL)) (M1 : Fld Z h sg cS "countries" "[C" (.ref sC)) (Jt : Fld Z h sg cS "width" "I" (.int w)) (M2 : Fld Z h sg cS "head" "I" (.int (own_hd w))) (Ju : Fld Z h sg cS "after" "[I" (.ref sA)) (M3 : Fld Z h sg cS "size" "I" (.int Ym)) (Jv : Fld Z h sg cS "ranges" "I" (.int Yn)) (M4 : Fld Z h sg cS "tailedSize" "I" (.int Yo)) (Jw : Fld Z h sg cS "full" "Z" (.int Yp)) (H6 : own_Ar Z h sS .int (nC * (own_hd w))) (Gx : own_Ar Z h sT .int nT) (Gy : own_Ar Z h sL .int (nT * (w - (own_hd w)))) (Gv : own_Ar Z h sC .char nC) (Ud : own_Ar Z h bC .char nB) (Ue : own_Ar Z h bL .int nB) (Gp : own_G Z h a1 w l0 l1 l2 l3) (Hi : own_G Z h a2 w r0 r1 r2 r3) (Gm : own_G Z h sA w v_sA_0 v_sA_1 v_sA_2 v_sA_3) (Uf : own_Ar Z h bS .int (nB * w)) (Ug : own_Ar Z h bE .int (nB * w)) :
    own_Go p e below s Qad.cells Qad.slots (Rad (fad_134 p3 p4 ino alc cnt siz dif sz rng tsz ful nC nT w l0 l1 l2 l3 r0 r1 r2 r3 t0 t1 t2 t3 nB Yj Yk Ym Yn Yo Yp v_sA_0 v_sA_1 v_sA_2 v_sA_3)) (Kad Z p3 p4 ino alc cnt siz dif sz rng tsz ful nC nT w l0 l1 l2 l3 r0 r1 r2 r3 t0 t1 t2 t3 nB a0 a1 a2 sg sS sT sL sC sA bS bE bC bL h0 n0 (fad_134 p3 p4 ino alc cnt siz dif sz rng tsz ful nC nT w l0 l1 l2 l3 r0 r1 r2 r3 t0 t1 t2 t3 nB Yj Yk Ym Yn Yo Yp v_sA_0 v_sA_1 v_sA_2 v_sA_3)) (T0.setTop (mkF m 134 #[rv a0, rv a1, rv a2, iv p3, iv p4] [])) := by
  have hx := Bd.exec
  have hby := Bd.bytes
  have hown : s.vm.findClass cB = some m.cls := findClass_of_methodNamed Bd.named
  have hnm := (name_of_methodNamed Bd.named Bd.method).1
  unfold fad_134
  refine op T0 (mkF m 136 #[rv a0, rv a1, rv a2, iv p3, iv p4] [(.ref a0), (.ref a0)]) (fun _ k => XS.aloadN X0.here hx rfl (hb hby d10_134) rfl rfl (XS.dup X0.here hx rfl (hb hby d10_135) rfl rfl k)) ?_
  obtain ⟨T1, X1, e1, st'⟩ := getF X0 hx hZ hown (host := "") (Or.inl (ow hw 103 rfl)) Via.refl e0 Gc (g := (mkF m 136 #[rv a0, rv a1, rv a2, iv p3, iv p4] [(.ref a0), (.ref a0)])) rfl rfl (hb hby d10_136)
  refine op T1 (mkF m 141 #[rv a0, rv a1, rv a2, iv p3, iv p4] [(.int (siz + (1 : Int32))), (.ref a0)]) (fun _ k => st' _ (XS.iconst X1.here hx rfl (hb hby d10_139) (XS.iadd X1.here hx rfl (hb hby d10_140) rfl k))) ?_
  obtain ⟨T2, h2, X2, e2, W2, st'⟩ := putF X1 hx hZ hown (host := "") (Or.inl (ow hw 103 rfl)) Via.refl e1 Gc Ga (Or.inl (ow hw 104 rfl)) (ow hw 19 rfl) (ty := .int) (by decide) rfl rfl (g := (mkF m 141 #[rv a0, rv a1, rv a2, iv p3, iv p4] [(.int (siz + (1 : Int32))), (.ref a0)])) rfl rfl (hb hby d10_141)
  have f3 := Gc.same W2
  have f4 := Ga.wr W2
  have f5 := Hz.other W2 (Or.inr (sn190 hw))
  have f6 := Ja.other W2 (Or.inr (sn191 hw))
  have f7 := J0.other W2 (Or.inr (sn192 hw))
  have f8 := J6.other W2 (Or.inr (sn193 hw))
  have f9 := Gk.other W2 (Or.inr (sn194 hw))
  have f10 := J8.other W2 (Or.inr (sn195 hw))
  have f11 := Gg.other W2 (Or.inr (sn196 hw))
  have f12 := J9.other W2 (Or.inr (sn197 hw))
  have f13 := Gb.other W2 (Or.inr (sn198 hw))
  have f14 := J1.other W2 (Or.inr (sn199 hw))
  have f15 := J2.wr W2
  have f16 := M6.other W2 (Or.inl (Ne.symm Gf))
  have f17 := M0.other W2 (Or.inl (Ne.symm Gf))
  have f18 := M7.other W2 (Or.inl (Ne.symm Gf))
  have f19 := M1.other W2 (Or.inl (Ne.symm Gf))
  have f20 := Jt.other W2 (Or.inl (Ne.symm Gf))
  have f21 := M2.other W2 (Or.inl (Ne.symm Gf))
  have f22 := Ju.other W2 (Or.inl (Ne.symm Gf))
  have f23 := M3.other W2 (Or.inl (Ne.symm Gf))
  have f24 := Jv.other W2 (Or.inl (Ne.symm Gf))
  have f25 := M4.other W2 (Or.inl (Ne.symm Gf))
  have f26 := Jw.other W2 (Or.inl (Ne.symm Gf))
  have f27 := H6.other W2 (Ne.symm Gd)
  have f28 := Gx.other W2 (Ne.symm Gh)
  have f29 := Gy.other W2 (Ne.symm Gi)
  have f30 := Gv.other W2 (Ne.symm Ge)
  have f31 := Ud.other W2 (Ne.symm Mu)
  have f32 := Ue.other W2 (Ne.symm Mv)
  have f33 := Gp.other W2 (Ne.symm Gu)
  have f34 := Hi.other W2 (Ne.symm Ux)
  have f35 := Gm.other W2 (Ne.symm G6)
  have f36 := Uf.other W2 (Ne.symm Ms)
  have f37 := Ug.other W2 (Ne.symm Mt)
  have NF2 := Fr.snoc X2 NF0 G0
  have SZ2 : n0 ≤ h2.size := (Nat.le_trans SZ0 (Keep.of_wr W2).1)
  have KP2 : Keep h0 h2 [a0, sg, sS, sT, sL, sC, sA, bS, bE, bC, bL] := KP0.wr W2 (Or.inl (List.mem_of_getElem? (i := 0) rfl))
  refine op T2 (mkF m 144 #[rv a0, rv a1, rv a2, iv p3, iv p4] []) (fun _ k => st' _ k) ?_
  exact own_retV X2 hx Bd.notSynchronized Bd.returns (hb hby d10_144) (by rw [e2]; exact ⟨NF2, KP2, f4, f5, f6, f7, f3, f8, f9, f10, f11, f12, f13, f14, f15, f16, f17, f18, f19, f20, f21, f22, f23, f24, f25, f26, f27, f28, f29, f30, f36, f37, f31, f32, f35⟩) (by decide) (by decide)
def fad_0 (p3 p4 ino alc cnt siz dif sz rng tsz ful nC nT w l0 l1 l2 l3 r0 r1 r2 r3 t0 t1 t2 t3 nB : Int32) : Int32 × Int32 × Int32 × Int32 × Int32 × Int32 × Int32 × Int32 × Int32 × Int32 × Int32 := (if ino = (0 : Int32) then (if siz < nB then (fad_134 p3 p4 ino alc cnt siz dif sz rng tsz ful nC nT w l0 l1 l2 l3 r0 r1 r2 r3 t0 t1 t2 t3 nB ino dif sz rng tsz ful t0 t1 t2 t3) else (fad_134 p3 p4 ino alc cnt siz dif sz rng tsz ful nC nT w l0 l1 l2 l3 r0 r1 r2 r3 t0 t1 t2 t3 nB ino dif sz rng tsz ful t0 t1 t2 t3)) else (if (fab_0 rng ful w l0 l1 l2 l3 t0 t1 t2 t3) = (0 : Int32) then (if alc = (0 : Int32) then (fad_134 p3 p4 ino alc cnt siz dif sz rng tsz ful nC nT w l0 l1 l2 l3 r0 r1 r2 r3 t0 t1 t2 t3 nB (0 : Int32) dif sz rng tsz ful t0 t1 t2 t3) else (fad_134 p3 p4 ino alc cnt siz dif sz rng tsz ful nC nT w l0 l1 l2 l3 r0 r1 r2 r3 t0 t1 t2 t3 nB ino (1 : Int32) sz rng tsz ful t0 t1 t2 t3)) else (fad_134 p3 p4 ino alc cnt siz dif sz rng tsz ful nC nT w l0 l1 l2 l3 r0 r1 r2 r3 t0 t1 t2 t3 nB ino dif (fgap_0 p3 sz rng tsz ful nC nT w l0 l1 l2 l3 r0 r1 r2 r3 t0 t1 t2 t3).1 (fgap_0 p3 sz rng tsz ful nC nT w l0 l1 l2 l3 r0 r1 r2 r3 t0 t1 t2 t3).2.1 (fgap_0 p3 sz rng tsz ful nC nT w l0 l1 l2 l3 r0 r1 r2 r3 t0 t1 t2 t3).2.2.1 (fgap_0 p3 sz rng tsz ful nC nT w l0 l1 l2 l3 r0 r1 r2 r3 t0 t1 t2 t3).2.2.2.1 (fgap_0 p3 sz rng tsz ful nC nT w l0 l1 l2 l3 r0 r1 r2 r3 t0 t1 t2 t3).2.2.2.2.1 (fgap_0 p3 sz rng tsz ful nC nT w l0 l1 l2 l3 r0 r1 r2 r3 t0 t1 t2 t3).2.2.2.2.2.1 (fgap_0 p3 sz rng tsz ful nC nT w l0 l1 l2 l3 r0 r1 r2 r3 t0 t1 t2 t3).2.2.2.2.2.2.1 (fgap_0 p3 sz rng tsz ful nC nT w l0 l1 l2 l3 r0 r1 r2 r3 t0 t1 t2 t3).2.2.2.2.2.2.2)))
set_option maxRecDepth 65536 in
set_option maxHeartbeats 40000000 in
theorem gad_0 (hw : HW aw Z) {h0 : Heap} {n0 : Nat} (p3 p4 ino alc cnt siz dif sz rng tsz ful nC nT w l0 l1 l2 l3 r0 r1 r2 r3 t0 t1 t2 t3 nB : Int32) (a0 a1 a2 sg sS sT sL sC sA bS bE bC bL : Addr) (Ms : a0 ≠ bS) (Mw : sg ≠ bS) (V1 : sS ≠ bS) (V2 : sT ≠ bS) (V3 : sL ≠ bS) (V4 : sC ≠ bS) (V5 : bS ≠ bE) (V6 : bS ≠ bC) (V7 : bS ≠ bL) (Wc : a1 ≠ bS) (Wd : a2 ≠ bS) (V8 : sA ≠ bS) (Mt : a0 ≠ bE) (Mx : sg ≠ bE) (V9 : sS ≠ bE) (Va : sT ≠ bE) (Vb : sL ≠ bE) (Vc : sC ≠ bE) (Vd : bE ≠ bC) (Ve : bE ≠ bL) (We : a1 ≠ bE) (Wf : a2 ≠ bE) (Vf : sA ≠ bE) (Mu : a0 ≠ bC) (My : sg ≠ bC) (Vg : sS ≠ bC) (Vh : sT ≠ bC) (Vi : sL ≠ bC) (Vj : sC ≠ bC) (Vk : bC ≠ bL) (Wg : a1 ≠ bC) (Wh : a2 ≠ bC) (Vm : sA ≠ bC) (Mv : a0 ≠ bL) (Mz : sg ≠ bL) (Vn : sS ≠ bL) (Vo : sT ≠ bL) (Vp : sL ≠ bL) (Vq : sC ≠ bL) (Wi : a1 ≠ bL) (Wj : a2 ≠ bL) (Vr : sA ≠ bL) (Gf : a0 ≠ sg) (Gd : a0 ≠ sS) (Gh : a0 ≠ sT) (Gi : a0 ≠ sL) (Ge : a0 ≠ sC) (Gu : a0 ≠ a1) (Ux : a0 ≠ a2) (G6 : a0 ≠ sA) (Wk : sg ≠ sS) (Hb : sS ≠ sT) (Hc : sS ≠ sL) (Ha : sS ≠ sC) (Hu : sS ≠ sA) (Wm : sg ≠ sC) (Hd : sT ≠ sC) (He : sL ≠ sC) (Hv : sC ≠ sA) (Wn : sg ≠ sT) (Jb : sT ≠ sL) (Hx : sT ≠ sA) (Wo : sg ≠ sL) (Hw : sL ≠ sA) (Uo : sg ≠ sA) (H0 : a1 ≠ sC) (Hs : a1 ≠ sL) (Hr : a1 ≠ sT) (Gz : a1 ≠ sS) (Vs : a1 ≠ sg) (Vt : a2 ≠ sC) (Vu : a2 ≠ sL) (Vv : a2 ≠ sT) (Vw : a2 ≠ sS) (Vx : a2 ≠ sg) (J5 : a1 ≠ sA) (Vy : a2 ≠ sA) (HS : 0 ≤ sz.toInt) (HS2 : sz.toInt ≤ 1000) (HC : nC.toInt ≤ 100) (HT : 0 ≤ tsz.toInt) (HT2 : tsz.toInt ≤ 1000) (HN : nT.toInt ≤ 100) (HZ : 0 ≤ siz.toInt) (HB : nB.toInt ≤ 100) (HD : w = 1 ∨ w = 4)
    (Bd : BodyLoose p l y13 (head1 (Jvm.Cond.code y13 Go 5 none :: ws) Qad) Go 5 none e s m #[(.ref a0), (.ref a1), (.ref a2), (.int p3), (.int p4)] below meth c s₁) (hml : c.maxLocals = 5) (hZ : Z.Warmed39 s.vm) (G0 : n0 ≤ a0) (Uq : n0 ≤ sg) (Hg : n0 ≤ sS) (Hj : n0 ≤ sT) (Hk : n0 ≤ sL) (Hh : n0 ≤ sC) (J7 : n0 ≤ sA) (Wp : n0 ≤ bS) (Wq : n0 ≤ bE) (Wr : n0 ≤ bC) (Ws : n0 ≤ bL) (T0 : State) {locs : List Loc} (X0 : Stand p l e Qad s m #[(.ref a0), (.ref a1), (.ref a2), (.int p3), (.int p4)] below meth c T0 locs 0 0) (e0 : T0.heap = h0) (SZ0 : n0 ≤ h0.size) (NF0 : Fr n0 locs) (KP0 : Keep h0 h0 [a0, sg, sS, sT, sL, sC, sA, bS, bE, bC, bL]) (Ga : Exa Z h0 a0 cB) (Hz : Fld Z h0 a0 cB "inOrder" "Z" (.int ino)) (Ja : Fld Z h0 a0 cB "allocated" "Z" (.int alc)) (J0 : Fld Z h0 a0 cB "counted" "I" (.int cnt)) (Gc : Fld Z h0 a0 cB "size" "I" (.int siz)) (J6 : Fld Z h0 a0 cB "differs" "Z" (.int dif)) (Gk : Fld Z h0 a0 cB "starts" "[I" (.ref bS)) (J8 : Fld Z h0 a0 cB "ends" "[I" (.ref bE)) (Gg : Fld Z h0 a0 cB "countries" "[C" (.ref bC)) (J9 : Fld Z h0 a0 cB "lineNumbers" "[I" (.ref bL)) (Gb : Fld Z h0 a0 cB "width" "I" (.int w)) (J1 : Fld Z h0 a0 cB "segments" dS (.ref sg)) (J2 : Exa Z h0 sg cS) (M6 : Fld Z h0 sg cS "starts" "[I" (.ref sS)) (M0 : Fld Z h0 sg cS "tailed" "[I" (.ref sT)) (M7 : Fld Z h0 sg cS "tails" "[I" (.ref sL)) (M1 : Fld Z h0 sg cS "countries" "[C" (.ref sC)) (Jt : Fld Z h0 sg cS "width" "I" (.int w)) (M2 : Fld Z h0 sg cS "head" "I" (.int (own_hd w))) (Ju : Fld Z h0 sg cS "after" "[I" (.ref sA)) (M3 : Fld Z h0 sg cS "size" "I" (.int sz)) (Jv : Fld Z h0 sg cS "ranges" "I" (.int rng)) (M4 : Fld Z h0 sg cS "tailedSize" "I" (.int tsz)) (Jw : Fld Z h0 sg cS "full" "Z" (.int ful)) (H6 : own_Ar Z h0 sS .int (nC * (own_hd w))) (Gx : own_Ar Z h0 sT .int nT) (Gy : own_Ar Z h0 sL .int (nT * (w - (own_hd w)))) (Gv : own_Ar Z h0 sC .char nC) (Uf : own_Ar Z h0 bS .int (nB * w)) (Ug : own_Ar Z h0 bE .int (nB * w)) (Ud : own_Ar Z h0 bC .char nB) (Ue : own_Ar Z h0 bL .int nB) (Gp : own_G Z h0 a1 w l0 l1 l2 l3) (Hi : own_G Z h0 a2 w r0 r1 r2 r3) (Gm : own_G Z h0 sA w t0 t1 t2 t3) :
    own_Go p e below s Qad.cells Qad.slots (Rad (fad_0 p3 p4 ino alc cnt siz dif sz rng tsz ful nC nT w l0 l1 l2 l3 r0 r1 r2 r3 t0 t1 t2 t3 nB)) (Kad Z p3 p4 ino alc cnt siz dif sz rng tsz ful nC nT w l0 l1 l2 l3 r0 r1 r2 r3 t0 t1 t2 t3 nB a0 a1 a2 sg sS sT sL sC sA bS bE bC bL h0 n0 (fad_0 p3 p4 ino alc cnt siz dif sz rng tsz ful nC nT w l0 l1 l2 l3 r0 r1 r2 r3 t0 t1 t2 t3 nB)) (T0.setTop (mkF m 0 #[rv a0, rv a1, rv a2, iv p3, iv p4] [])) := by
  have hx := Bd.exec
  have hby := Bd.bytes
  have hown : s.vm.findClass cB = some m.cls := findClass_of_methodNamed Bd.named
  have hnm := (name_of_methodNamed Bd.named Bd.method).1
  unfold fad_0
  refine op T0 (mkF m 1 #[rv a0, rv a1, rv a2, iv p3, iv p4] [(.ref a0)]) (fun _ k => XS.aloadN X0.here hx rfl (hb hby d10_0) rfl rfl k) ?_
  obtain ⟨T1, X1, e1, st'⟩ := getF X0 hx hZ hown (host := "") (Or.inl (ow hw 27 rfl)) Via.refl e0 Hz (g := (mkF m 1 #[rv a0, rv a1, rv a2, iv p3, iv p4] [(.ref a0)])) rfl rfl (hb hby d10_1)
  refine op T1 (mkF m 4 #[rv a0, rv a1, rv a2, iv p3, iv p4] [(.int ino)]) (fun _ k => st' _ k) ?_
  refine own_iteT Rad (Kad Z p3 p4 ino alc cnt siz dif sz rng tsz ful nC nT w l0 l1 l2 l3 r0 r1 r2 r3 t0 t1 t2 t3 nB a0 a1 a2 sg sS sT sL sC sA bS bE bC bL h0 n0) (fun hc4 => ?_) (fun hc4 => ?_)
  · skip
    refine op T1 (mkF m 8 #[rv a0, rv a1, rv a2, iv p3, iv p4] [(.ref a0)]) (fun _ k => XS.ifNo X1.here hx rfl (hb hby d10_4) rfl ((if0 _ _).trans (teq hc4).2) (XS.aloadN X1.here hx rfl (hb hby d10_7) rfl rfl k)) ?_
    obtain ⟨T2, X2, e2, st'⟩ := getF X1 hx hZ hown (host := "") (Or.inl (ow hw 103 rfl)) Via.refl e1 Gc (g := (mkF m 8 #[rv a0, rv a1, rv a2, iv p3, iv p4] [(.ref a0)])) rfl rfl (hb hby d10_8)
    refine op T2 (mkF m 12 #[rv a0, rv a1, rv a2, iv p3, iv p4] [(.ref a0), (.int siz)]) (fun _ k => st' _ (XS.aloadN X2.here hx rfl (hb hby d10_11) rfl rfl k)) ?_
    obtain ⟨T3, X3, e3, st'⟩ := getF X2 hx hZ hown (host := "") (Or.inl (ow hw 34 rfl)) Via.refl e2 Gg (g := (mkF m 12 #[rv a0, rv a1, rv a2, iv p3, iv p4] [(.ref a0), (.int siz)])) rfl rfl (hb hby d10_12)
    refine op T3 (mkF m 15 #[rv a0, rv a1, rv a2, iv p3, iv p4] [(.ref bC), (.int siz)]) (fun _ k => st' _ k) ?_
    obtain ⟨k4, vs4, ⟨cl4, Ar4, q4, S4, N4, H4, G4⟩, hl4⟩ := id Ud
    refine op T3 (mkF m 16 #[rv a0, rv a1, rv a2, iv p3, iv p4] [(.int nB), (.int siz)]) (fun t k => X3.arraylength hx (by rw [e3]; exact Ar4.1) (State.isArrayOf_alike hZ.alike Ar4.2.1) (g := (mkF m 15 #[rv a0, rv a1, rv a2, iv p3, iv p4] [(.ref bC), (.int siz)])) rfl rfl (hb hby d10_15) t (by rw [len_of S4 N4]; exact k)) ?_
    refine own_iteT Rad (Kad Z p3 p4 ino alc cnt siz dif sz rng tsz ful nC nT w l0 l1 l2 l3 r0 r1 r2 r3 t0 t1 t2 t3 nB a0 a1 a2 sg sS sT sL sC sA bS bE bC bL h0 n0) (fun hc16 => ?_) (fun hc16 => ?_)
    · skip
      refine op T3 (mkF m 22 #[rv a0, rv a1, rv a2, iv p3, iv p4] [(.ref a0), (.int 0), (.ref a1)]) (fun _ k => XS.icmpNo X3.here hx rfl (hb hby d10_16) rfl (tlt hc16).2.1 (XS.aloadN X3.here hx rfl (hb hby d10_19) rfl rfl (XS.iconst X3.here hx rfl (hb hby d10_20) (XS.aloadN X3.here hx rfl (hb hby d10_21) rfl rfl k)))) ?_
      obtain ⟨T5, X5, e5, st'⟩ := getF X3 hx hZ hown (host := "") (Or.inl (ow hw 29 rfl)) Via.refl e3 Gk (g := (mkF m 22 #[rv a0, rv a1, rv a2, iv p3, iv p4] [(.ref a0), (.int 0), (.ref a1)])) rfl rfl (hb hby d10_22)
      refine op T5 (mkF m 26 #[rv a0, rv a1, rv a2, iv p3, iv p4] [(.ref a0), (.ref bS), (.int 0), (.ref a1)]) (fun _ k => st' _ (XS.aloadN X5.here hx rfl (hb hby d10_25) rfl rfl k)) ?_
      obtain ⟨T6, X6, e6, st'⟩ := getF X5 hx hZ hown (host := "") (Or.inl (ow hw 103 rfl)) Via.refl e5 Gc (g := (mkF m 26 #[rv a0, rv a1, rv a2, iv p3, iv p4] [(.ref a0), (.ref bS), (.int 0), (.ref a1)])) rfl rfl (hb hby d10_26)
      refine op T6 (mkF m 30 #[rv a0, rv a1, rv a2, iv p3, iv p4] [(.ref a0), (.int siz), (.ref bS), (.int 0), (.ref a1)]) (fun _ k => st' _ (XS.aloadN X6.here hx rfl (hb hby d10_29) rfl rfl k)) ?_
      obtain ⟨T7, X7, e7, st'⟩ := getF X6 hx hZ hown (host := "") (Or.inl (ow hw 38 rfl)) Via.refl e6 Gb (g := (mkF m 30 #[rv a0, rv a1, rv a2, iv p3, iv p4] [(.ref a0), (.int siz), (.ref bS), (.int 0), (.ref a1)])) rfl rfl (hb hby d10_30)
      refine op T7 (mkF m 35 #[rv a0, rv a1, rv a2, iv p3, iv p4] [(.ref a0), (.int (siz * w)), (.ref bS), (.int 0), (.ref a1)]) (fun _ k => st' _ (XS.imul X7.here hx rfl (hb hby d10_33) rfl (XS.aloadN X7.here hx rfl (hb hby d10_34) rfl rfl k))) ?_
      obtain ⟨T8, X8, e8, st'⟩ := getF X7 hx hZ hown (host := "") (Or.inl (ow hw 38 rfl)) Via.refl e7 Gb (g := (mkF m 35 #[rv a0, rv a1, rv a2, iv p3, iv p4] [(.ref a0), (.int (siz * w)), (.ref bS), (.int 0), (.ref a1)])) rfl rfl (hb hby d10_35)
      refine op T8 (mkF m 38 #[rv a0, rv a1, rv a2, iv p3, iv p4] [(.int w), (.int (siz * w)), (.ref bS), (.int 0), (.ref a1)]) (fun _ k => st' _ k) ?_
      obtain ⟨ks9, vs9, As9, hs9⟩ := id (own_G.ar Gp HD)
      obtain ⟨kd9, vd9, Ad9, hd9⟩ := id Uf
      obtain ⟨T9, h9, L9, X9, e9, NF9, KPq9, B9, st'⟩ := cpA X8 hx hZ hown (ow hw 153 rfl) (ow hw 100 rfl) (ow hw 98 rfl) (ow hw 99 rfl) e8 As9 Ad9 (Or.inl ⟨rfl, rfl⟩) (sp := (0 : Int32)) (dp := (siz * w)) (nn := w) (by decide) (own_cw HD HZ hc16 HB).1 (own_wn HD) (own_w0 _) (own_cw HD HZ hc16 HB).2 rfl (by rw [hd9]; exact (own_cw HD HZ hc16 HB).2) NF0 Wp (g := (mkF m 38 #[rv a0, rv a1, rv a2, iv p3, iv p4] [(.int w), (.int (siz * w)), (.ref bS), (.int 0), (.ref a1)])) rfl (by rw [hml]; rfl) rfl (hb hby d10_38) (by decide) (W := 0) (by show 2 * 0 + _ ≤ _; exact Nat.le_of_eq rfl) (by decide)
      have f10 : own_Ar Z h9 bS .int (nB * w) := own_cp B9 hd9 (by rw [List.length_map, List.length_range]) (own_cw HD HZ hc16 HB).2
      have SZ9 : n0 ≤ h9.size := Nat.le_trans SZ0 KPq9.1
      have KP9 : Keep h0 h9 [a0, sg, sS, sT, sL, sC, sA, bS, bE, bC, bL] := KP0.trans KPq9 (allS (Or.inl (List.mem_of_getElem? (i := 7) rfl)) all0)
      have f11 := Ga.keep KPq9
      have f12 := Hz.keep KPq9 (ninS Ms nin0)
      have f13 := Ja.keep KPq9 (ninS Ms nin0)
      have f14 := J0.keep KPq9 (ninS Ms nin0)
      have f15 := Gc.keep KPq9 (ninS Ms nin0)
      have f16 := J6.keep KPq9 (ninS Ms nin0)
      have f17 := Gk.keep KPq9 (ninS Ms nin0)
      have f18 := J8.keep KPq9 (ninS Ms nin0)
      have f19 := Gg.keep KPq9 (ninS Ms nin0)
      have f20 := J9.keep KPq9 (ninS Ms nin0)
      have f21 := Gb.keep KPq9 (ninS Ms nin0)
      have f22 := J1.keep KPq9 (ninS Ms nin0)
      have f23 := J2.keep KPq9
      have f24 := M6.keep KPq9 (ninS Mw nin0)
      have f25 := M0.keep KPq9 (ninS Mw nin0)
      have f26 := M7.keep KPq9 (ninS Mw nin0)
      have f27 := M1.keep KPq9 (ninS Mw nin0)
      have f28 := Jt.keep KPq9 (ninS Mw nin0)
      have f29 := M2.keep KPq9 (ninS Mw nin0)
      have f30 := Ju.keep KPq9 (ninS Mw nin0)
      have f31 := M3.keep KPq9 (ninS Mw nin0)
      have f32 := Jv.keep KPq9 (ninS Mw nin0)
      have f33 := M4.keep KPq9 (ninS Mw nin0)
      have f34 := Jw.keep KPq9 (ninS Mw nin0)
      have f35 := H6.keep KPq9 (ninS V1 nin0)
      have f36 := Gx.keep KPq9 (ninS V2 nin0)
      have f37 := Gy.keep KPq9 (ninS V3 nin0)
      have f38 := Gv.keep KPq9 (ninS V4 nin0)
      have f39 := Ug.keep KPq9 (ninS (Ne.symm V5) nin0)
      have f40 := Ud.keep KPq9 (ninS (Ne.symm V6) nin0)
      have f41 := Ue.keep KPq9 (ninS (Ne.symm V7) nin0)
      have f42 := Gp.keep KPq9 (ninS Wc nin0)
      have f43 := Hi.keep KPq9 (ninS Wd nin0)
      have f44 := Gm.keep KPq9 (ninS V8 nin0)
      refine op T9 (mkF m 44 #[rv a0, rv a1, rv a2, iv p3, iv p4] [(.ref a0), (.int 0), (.ref a2)]) (fun _ k => st' _ (XS.aloadN X9.here hx rfl (hb hby d10_41) rfl rfl (XS.iconst X9.here hx rfl (hb hby d10_42) (XS.aloadN X9.here hx rfl (hb hby d10_43) rfl rfl k)))) ?_
      obtain ⟨T45, X45, e45, st'⟩ := getF X9 hx hZ hown (host := "") (Or.inl (ow hw 31 rfl)) Via.refl e9 f18 (g := (mkF m 44 #[rv a0, rv a1, rv a2, iv p3, iv p4] [(.ref a0), (.int 0), (.ref a2)])) rfl rfl (hb hby d10_44)
      refine op T45 (mkF m 48 #[rv a0, rv a1, rv a2, iv p3, iv p4] [(.ref a0), (.ref bE), (.int 0), (.ref a2)]) (fun _ k => st' _ (XS.aloadN X45.here hx rfl (hb hby d10_47) rfl rfl k)) ?_
      obtain ⟨T46, X46, e46, st'⟩ := getF X45 hx hZ hown (host := "") (Or.inl (ow hw 103 rfl)) Via.refl e45 f15 (g := (mkF m 48 #[rv a0, rv a1, rv a2, iv p3, iv p4] [(.ref a0), (.ref bE), (.int 0), (.ref a2)])) rfl rfl (hb hby d10_48)
      refine op T46 (mkF m 52 #[rv a0, rv a1, rv a2, iv p3, iv p4] [(.ref a0), (.int siz), (.ref bE), (.int 0), (.ref a2)]) (fun _ k => st' _ (XS.aloadN X46.here hx rfl (hb hby d10_51) rfl rfl k)) ?_
      obtain ⟨T47, X47, e47, st'⟩ := getF X46 hx hZ hown (host := "") (Or.inl (ow hw 38 rfl)) Via.refl e46 f21 (g := (mkF m 52 #[rv a0, rv a1, rv a2, iv p3, iv p4] [(.ref a0), (.int siz), (.ref bE), (.int 0), (.ref a2)])) rfl rfl (hb hby d10_52)
      refine op T47 (mkF m 57 #[rv a0, rv a1, rv a2, iv p3, iv p4] [(.ref a0), (.int (siz * w)), (.ref bE), (.int 0), (.ref a2)]) (fun _ k => st' _ (XS.imul X47.here hx rfl (hb hby d10_55) rfl (XS.aloadN X47.here hx rfl (hb hby d10_56) rfl rfl k))) ?_
      obtain ⟨T48, X48, e48, st'⟩ := getF X47 hx hZ hown (host := "") (Or.inl (ow hw 38 rfl)) Via.refl e47 f21 (g := (mkF m 57 #[rv a0, rv a1, rv a2, iv p3, iv p4] [(.ref a0), (.int (siz * w)), (.ref bE), (.int 0), (.ref a2)])) rfl rfl (hb hby d10_57)
      refine op T48 (mkF m 60 #[rv a0, rv a1, rv a2, iv p3, iv p4] [(.int w), (.int (siz * w)), (.ref bE), (.int 0), (.ref a2)]) (fun _ k => st' _ k) ?_
      obtain ⟨ks49, vs49, As49, hs49⟩ := id (own_G.ar f43 HD)
      obtain ⟨kd49, vd49, Ad49, hd49⟩ := id f39
      obtain ⟨T49, h49, L49, X49, e49, NF49, KPq49, B49, st'⟩ := cpA X48 hx hZ hown (ow hw 153 rfl) (ow hw 100 rfl) (ow hw 98 rfl) (ow hw 99 rfl) e48 As49 Ad49 (Or.inl ⟨rfl, rfl⟩) (sp := (0 : Int32)) (dp := (siz * w)) (nn := w) (by decide) (own_cw HD HZ hc16 HB).1 (own_wn HD) (own_w0 _) (own_cw HD HZ hc16 HB).2 rfl (by rw [hd49]; exact (own_cw HD HZ hc16 HB).2) NF9 Wq (g := (mkF m 60 #[rv a0, rv a1, rv a2, iv p3, iv p4] [(.int w), (.int (siz * w)), (.ref bE), (.int 0), (.ref a2)])) rfl (by rw [hml]; rfl) rfl (hb hby d10_60) (by decide) (W := 0) (by show 2 * 0 + _ ≤ _; exact Nat.le_of_eq rfl) (by decide)
      have f50 : own_Ar Z h49 bE .int (nB * w) := own_cp B49 hd49 (by rw [List.length_map, List.length_range]) (own_cw HD HZ hc16 HB).2
      have SZ49 : n0 ≤ h49.size := Nat.le_trans SZ9 KPq49.1
      have KP49 : Keep h0 h49 [a0, sg, sS, sT, sL, sC, sA, bS, bE, bC, bL] := KP9.trans KPq49 (allS (Or.inl (List.mem_of_getElem? (i := 8) rfl)) all0)
      have f51 := f11.keep KPq49
      have f52 := f12.keep KPq49 (ninS Mt nin0)
      have f53 := f13.keep KPq49 (ninS Mt nin0)
      have f54 := f14.keep KPq49 (ninS Mt nin0)
      have f55 := f15.keep KPq49 (ninS Mt nin0)
      have f56 := f16.keep KPq49 (ninS Mt nin0)
      have f57 := f17.keep KPq49 (ninS Mt nin0)
      have f58 := f18.keep KPq49 (ninS Mt nin0)
      have f59 := f19.keep KPq49 (ninS Mt nin0)
      have f60 := f20.keep KPq49 (ninS Mt nin0)
      have f61 := f21.keep KPq49 (ninS Mt nin0)
      have f62 := f22.keep KPq49 (ninS Mt nin0)
      have f63 := f23.keep KPq49
      have f64 := f24.keep KPq49 (ninS Mx nin0)
      have f65 := f25.keep KPq49 (ninS Mx nin0)
      have f66 := f26.keep KPq49 (ninS Mx nin0)
      have f67 := f27.keep KPq49 (ninS Mx nin0)
      have f68 := f28.keep KPq49 (ninS Mx nin0)
      have f69 := f29.keep KPq49 (ninS Mx nin0)
      have f70 := f30.keep KPq49 (ninS Mx nin0)
      have f71 := f31.keep KPq49 (ninS Mx nin0)
      have f72 := f32.keep KPq49 (ninS Mx nin0)
      have f73 := f33.keep KPq49 (ninS Mx nin0)
      have f74 := f34.keep KPq49 (ninS Mx nin0)
      have f75 := f35.keep KPq49 (ninS V9 nin0)
      have f76 := f36.keep KPq49 (ninS Va nin0)
      have f77 := f37.keep KPq49 (ninS Vb nin0)
      have f78 := f38.keep KPq49 (ninS Vc nin0)
      have f79 := f40.keep KPq49 (ninS (Ne.symm Vd) nin0)
      have f80 := f41.keep KPq49 (ninS (Ne.symm Ve) nin0)
      have f81 := f42.keep KPq49 (ninS We nin0)
      have f82 := f43.keep KPq49 (ninS Wf nin0)
      have f83 := f44.keep KPq49 (ninS Vf nin0)
      have f84 := f10.keep KPq49 (ninS V5 nin0)
      refine op T49 (mkF m 64 #[rv a0, rv a1, rv a2, iv p3, iv p4] [(.ref a0)]) (fun _ k => st' _ (XS.aloadN X49.here hx rfl (hb hby d10_63) rfl rfl k)) ?_
      obtain ⟨T85, X85, e85, st'⟩ := getF X49 hx hZ hown (host := "") (Or.inl (ow hw 34 rfl)) Via.refl e49 f59 (g := (mkF m 64 #[rv a0, rv a1, rv a2, iv p3, iv p4] [(.ref a0)])) rfl rfl (hb hby d10_64)
      refine op T85 (mkF m 68 #[rv a0, rv a1, rv a2, iv p3, iv p4] [(.ref a0), (.ref bC)]) (fun _ k => st' _ (XS.aloadN X85.here hx rfl (hb hby d10_67) rfl rfl k)) ?_
      obtain ⟨T86, X86, e86, st'⟩ := getF X85 hx hZ hown (host := "") (Or.inl (ow hw 103 rfl)) Via.refl e85 f55 (g := (mkF m 68 #[rv a0, rv a1, rv a2, iv p3, iv p4] [(.ref a0), (.ref bC)])) rfl rfl (hb hby d10_68)
      refine op T86 (mkF m 72 #[rv a0, rv a1, rv a2, iv p3, iv p4] [(.int p3), (.int siz), (.ref bC)]) (fun _ k => st' _ (XS.iloadN X86.here hx rfl (hb hby d10_71) rfl k)) ?_
      obtain ⟨k87, vs87, ⟨cl87, Ar87, q87, S87, N87, H87, G87⟩, hl87⟩ := id f79
      have hin87 : ¬ (siz < 0 ∨ cl87.slots.size ≤ (siz).toNatClampNeg) := inb_of S87 ⟨(own_n0 HZ), hc16⟩
      obtain ⟨T87, h87, X87, e87, W87, st'⟩ := stC X86 hx hZ e86 Ar87 (j := siz) hin87 (g := (mkF m 72 #[rv a0, rv a1, rv a2, iv p3, iv p4] [(.int p3), (.int siz), (.ref bC)])) rfl rfl (hb hby d10_72)
      have f88 : own_Ar Z h87 bC .char nB := own_Ar.set Ar87 q87 S87 N87 H87 G87 hl87 (fits_nar_char _) W87 (own_n0 HZ) hc16
      have f89 := f51.wr W87
      have f90 := f52.other W87 (Or.inl Mu)
      have f91 := f53.other W87 (Or.inl Mu)
      have f92 := f54.other W87 (Or.inl Mu)
      have f93 := f55.other W87 (Or.inl Mu)
      have f94 := f56.other W87 (Or.inl Mu)
      have f95 := f57.other W87 (Or.inl Mu)
      have f96 := f58.other W87 (Or.inl Mu)
      have f97 := f59.other W87 (Or.inl Mu)
      have f98 := f60.other W87 (Or.inl Mu)
      have f99 := f61.other W87 (Or.inl Mu)
      have f100 := f62.other W87 (Or.inl Mu)
      have f101 := f63.wr W87
      have f102 := f64.other W87 (Or.inl My)
      have f103 := f65.other W87 (Or.inl My)
      have f104 := f66.other W87 (Or.inl My)
      have f105 := f67.other W87 (Or.inl My)
      have f106 := f68.other W87 (Or.inl My)
      have f107 := f69.other W87 (Or.inl My)
      have f108 := f70.other W87 (Or.inl My)
      have f109 := f71.other W87 (Or.inl My)
      have f110 := f72.other W87 (Or.inl My)
      have f111 := f73.other W87 (Or.inl My)
      have f112 := f74.other W87 (Or.inl My)
      have f113 := f75.other W87 Vg
      have f114 := f76.other W87 Vh
      have f115 := f77.other W87 Vi
      have f116 := f78.other W87 Vj
      have f117 := f80.other W87 (Ne.symm Vk)
      have f118 := f81.other W87 Wg
      have f119 := f82.other W87 Wh
      have f120 := f83.other W87 Vm
      have f121 := f84.other W87 V6
      have f122 := f50.other W87 Vd
      have NF87 := Fr.snoc X87 NF49 Wr
      have SZ87 : n0 ≤ h87.size := (Nat.le_trans SZ49 (Keep.of_wr W87).1)
      have KP87 : Keep h0 h87 [a0, sg, sS, sT, sL, sC, sA, bS, bE, bC, bL] := KP49.wr W87 (Or.inl (List.mem_of_getElem? (i := 9) rfl))
      refine op T87 (mkF m 74 #[rv a0, rv a1, rv a2, iv p3, iv p4] [(.ref a0)]) (fun _ k => st' _ (XS.aloadN X87.here hx rfl (hb hby d10_73) rfl rfl k)) ?_
      obtain ⟨T123, X123, e123, st'⟩ := getF X87 hx hZ hown (host := "") (Or.inl (ow hw 36 rfl)) Via.refl e87 f98 (g := (mkF m 74 #[rv a0, rv a1, rv a2, iv p3, iv p4] [(.ref a0)])) rfl rfl (hb hby d10_74)
      refine op T123 (mkF m 78 #[rv a0, rv a1, rv a2, iv p3, iv p4] [(.ref a0), (.ref bL)]) (fun _ k => st' _ (XS.aloadN X123.here hx rfl (hb hby d10_77) rfl rfl k)) ?_
      obtain ⟨T124, X124, e124, st'⟩ := getF X123 hx hZ hown (host := "") (Or.inl (ow hw 103 rfl)) Via.refl e123 f93 (g := (mkF m 78 #[rv a0, rv a1, rv a2, iv p3, iv p4] [(.ref a0), (.ref bL)])) rfl rfl (hb hby d10_78)
      refine op T124 (mkF m 83 #[rv a0, rv a1, rv a2, iv p3, iv p4] [(.int p4), (.int siz), (.ref bL)]) (fun _ k => st' _ (XS.iload X124.here hx rfl (hb hby d10_81) rfl k)) ?_
      obtain ⟨k125, vs125, ⟨cl125, Ar125, q125, S125, N125, H125, G125⟩, hl125⟩ := id f117
      have hin125 : ¬ (siz < 0 ∨ cl125.slots.size ≤ (siz).toNatClampNeg) := inb_of S125 ⟨(own_n0 HZ), hc16⟩
      obtain ⟨T125, h125, X125, e125, W125, st'⟩ := stI X124 hx hZ e124 Ar125 (j := siz) hin125 (g := (mkF m 83 #[rv a0, rv a1, rv a2, iv p3, iv p4] [(.int p4), (.int siz), (.ref bL)])) rfl rfl (hb hby d10_83)
      have f126 : own_Ar Z h125 bL .int nB := own_Ar.set Ar125 q125 S125 N125 H125 G125 hl125 rfl W125 (own_n0 HZ) hc16
      have f127 := f89.wr W125
      have f128 := f90.other W125 (Or.inl Mv)
      have f129 := f91.other W125 (Or.inl Mv)
      have f130 := f92.other W125 (Or.inl Mv)
      have f131 := f93.other W125 (Or.inl Mv)
      have f132 := f94.other W125 (Or.inl Mv)
      have f133 := f95.other W125 (Or.inl Mv)
      have f134 := f96.other W125 (Or.inl Mv)
      have f135 := f97.other W125 (Or.inl Mv)
      have f136 := f98.other W125 (Or.inl Mv)
      have f137 := f99.other W125 (Or.inl Mv)
      have f138 := f100.other W125 (Or.inl Mv)
      have f139 := f101.wr W125
      have f140 := f102.other W125 (Or.inl Mz)
      have f141 := f103.other W125 (Or.inl Mz)
      have f142 := f104.other W125 (Or.inl Mz)
      have f143 := f105.other W125 (Or.inl Mz)
      have f144 := f106.other W125 (Or.inl Mz)
      have f145 := f107.other W125 (Or.inl Mz)
      have f146 := f108.other W125 (Or.inl Mz)
      have f147 := f109.other W125 (Or.inl Mz)
      have f148 := f110.other W125 (Or.inl Mz)
      have f149 := f111.other W125 (Or.inl Mz)
      have f150 := f112.other W125 (Or.inl Mz)
      have f151 := f113.other W125 Vn
      have f152 := f114.other W125 Vo
      have f153 := f115.other W125 Vp
      have f154 := f116.other W125 Vq
      have f155 := f88.other W125 Vk
      have f156 := f118.other W125 Wi
      have f157 := f119.other W125 Wj
      have f158 := f120.other W125 Vr
      have f159 := f121.other W125 V7
      have f160 := f122.other W125 Ve
      have NF125 := Fr.snoc X125 NF87 Ws
      have SZ125 : n0 ≤ h125.size := (Nat.le_trans SZ87 (Keep.of_wr W125).1)
      have KP125 : Keep h0 h125 [a0, sg, sS, sT, sL, sC, sA, bS, bE, bC, bL] := KP87.wr W125 (Or.inl (List.mem_of_getElem? (i := 10) rfl))
      refine op T125 (mkF m 134 #[rv a0, rv a1, rv a2, iv p3, iv p4] []) (fun _ k => st' _ (XS.goto X125.here hx rfl (pc0 := 84) (pc' := 134) rfl (hb hby d10_84) (by decide) (by decide) k)) ?_
      exact gad_134 hw p3 p4 ino alc cnt siz dif sz rng tsz ful nC nT w l0 l1 l2 l3 r0 r1 r2 r3 t0 t1 t2 t3 nB a0 a1 a2 sg sS sT sL sC sA bS bE bC bL Ms Mw V1 V2 V3 V4 V5 V6 V7 Wc Wd V8 Mt Mx V9 Va Vb Vc Vd Ve We Wf Vf Mu My Vg Vh Vi Vj Vk Wg Wh Vm Mv Mz Vn Vo Vp Vq Wi Wj Vr Gf Gd Gh Gi Ge Gu Ux G6 Wk Hb Hc Ha Hu Wm Hd He Hv Wn Jb Hx Wo Hw Uo H0 Hs Hr Gz Vs Vt Vu Vv Vw Vx J5 Vy HS HS2 HC HT HT2 HN HZ HB HD ino dif sz rng tsz ful t0 t1 t2 t3 Bd hml hZ G0 Uq Hg Hj Hk Hh J7 Wp Wq Wr Ws T125 X125 e125 SZ125 NF125 KP125 f127 f128 f129 f130 f131 f132 f133 f134 f135 f136 f137 f138 f139 f140 f141 f142 f143 f144 f145 f146 f147 f148 f149 f150 f151 f152 f153 f154 f155 f126 f156 f157 f158 f159 f160
    · skip
      refine op T3 (mkF m 134 #[rv a0, rv a1, rv a2, iv p3, iv p4] []) (fun _ k => XS.icmpYes X3.here hx rfl (pc0 := 16) (pc' := 134) rfl (hb hby d10_16) rfl (flt hc16).2.1 (by decide) (by decide) k) ?_
      exact gad_134 hw p3 p4 ino alc cnt siz dif sz rng tsz ful nC nT w l0 l1 l2 l3 r0 r1 r2 r3 t0 t1 t2 t3 nB a0 a1 a2 sg sS sT sL sC sA bS bE bC bL Ms Mw V1 V2 V3 V4 V5 V6 V7 Wc Wd V8 Mt Mx V9 Va Vb Vc Vd Ve We Wf Vf Mu My Vg Vh Vi Vj Vk Wg Wh Vm Mv Mz Vn Vo Vp Vq Wi Wj Vr Gf Gd Gh Gi Ge Gu Ux G6 Wk Hb Hc Ha Hu Wm Hd He Hv Wn Jb Hx Wo Hw Uo H0 Hs Hr Gz Vs Vt Vu Vv Vw Vx J5 Vy HS HS2 HC HT HT2 HN HZ HB HD ino dif sz rng tsz ful t0 t1 t2 t3 Bd hml hZ G0 Uq Hg Hj Hk Hh J7 Wp Wq Wr Ws T3 X3 e3 SZ0 NF0 KP0 Ga Hz Ja J0 Gc J6 Gk J8 Gg J9 Gb J1 J2 M6 M0 M7 M1 Jt M2 Ju M3 Jv M4 Jw H6 Gx Gy Gv Ud Ue Gp Hi Gm Uf Ug
  · skip
    refine op T1 (mkF m 88 #[rv a0, rv a1, rv a2, iv p3, iv p4] [(.ref a0)]) (fun _ k => XS.ifYes X1.here hx rfl (pc0 := 4) (pc' := 87) rfl (hb hby d10_4) rfl ((if0 _ _).trans (feq hc4).2) (by decide) (by decide) (XS.aloadN X1.here hx rfl (hb hby d10_87) rfl rfl k)) ?_
    obtain ⟨T161, X161, e161, st'⟩ := getF X1 hx hZ hown (host := "") (Or.inl (ow hw 65 rfl)) Via.refl e1 J1 (g := (mkF m 88 #[rv a0, rv a1, rv a2, iv p3, iv p4] [(.ref a0)])) rfl rfl (hb hby d10_88)
    refine op T161 (mkF m 93 #[rv a0, rv a1, rv a2, iv p3, iv p4] [(.int 0), (.ref a1), (.ref sg)]) (fun _ k => st' _ (XS.aloadN X161.here hx rfl (hb hby d10_91) rfl rfl (XS.iconst X161.here hx rfl (hb hby d10_92) k))) ?_
    obtain ⟨cq162, kq162, qa162, qb162, qc162⟩ := isOf hZ e161 J2
    obtain ⟨_, _, ⟨T162, L162, k162, n162⟩, -, X162', ⟨Lc162, hQ162, l162, y162, z162⟩, st'⟩ := X161.virtualBack hx (y := y6) (z := y6) hown (mvT hZ (ow hw 75 rfl)) (mvT hZ (ow hw 76 rfl)) (notFace_of_selects (args := #[]) (mvT hZ (ow hw 78 rfl))) (mvT hZ (ow hw 78 rfl)) (mvT hZ (ow hw 77 rfl)) (by decide) (backOf (W := 0) (rmab l Z aw hw [] rng ful w l0 l1 l2 l3 t0 t1 t2 t3 sg a1 sA h0 n0 SZ0 J2 Jv Jw Ju Jt Gp Gm HD) hZ (ow hw 79 rfl) (ow hw 42 rfl) (by decide) (by decide)) qa162 qc162 (g := (mkF m 93 #[rv a0, rv a1, rv a2, iv p3, iv p4] [(.int 0), (.ref a1), (.ref sg)])) rfl (by rw [hml]; rfl) (Steps.refl _) (argsL := [(.ref a1), (.int 0)]) (rest := []) (lenOf own_pd1 rfl) rfl (by show 2 * 0 + _ ≤ _; exact Nat.le_of_eq rfl) (hb hby d10_93) (fun _ _ => ⟨rfl, e161, (by decide : 0 + 0 ≤ _), (by decide : 0 + 0 ≤ _)⟩)
    dsimp only [Pt.U, Pt.locs, Pt.cells, Pt.slots] at X162' l162 y162 z162 st' hQ162
    subst l162 y162 z162
    obtain ⟨rfl, NFq162, KPq162⟩ := hQ162
    have X162 : Stand p l e Qad s m #[(.ref a0), (.ref a1), (.ref a2), (.int p3), (.int p4)] below meth c T162 _ 0 0 := X162'
    have NF162 := Fr.app NF0 NFq162
    have SZ162 : n0 ≤ T162.heap.size := Nat.le_trans SZ0 KPq162.1
    have KP162 : Keep h0 T162.heap [a0, sg, sS, sT, sL, sC, sA, bS, bE, bC, bL] := KP0.trans KPq162 all0
    have f163 := Ga.keep KPq162
    have f164 := Hz.keep KPq162 nin0
    have f165 := Ja.keep KPq162 nin0
    have f166 := J0.keep KPq162 nin0
    have f167 := Gc.keep KPq162 nin0
    have f168 := J6.keep KPq162 nin0
    have f169 := Gk.keep KPq162 nin0
    have f170 := J8.keep KPq162 nin0
    have f171 := Gg.keep KPq162 nin0
    have f172 := J9.keep KPq162 nin0
    have f173 := Gb.keep KPq162 nin0
    have f174 := J1.keep KPq162 nin0
    have f175 := J2.keep KPq162
    have f176 := M6.keep KPq162 nin0
    have f177 := M0.keep KPq162 nin0
    have f178 := M7.keep KPq162 nin0
    have f179 := M1.keep KPq162 nin0
    have f180 := Jt.keep KPq162 nin0
    have f181 := M2.keep KPq162 nin0
    have f182 := Ju.keep KPq162 nin0
    have f183 := M3.keep KPq162 nin0
    have f184 := Jv.keep KPq162 nin0
    have f185 := M4.keep KPq162 nin0
    have f186 := Jw.keep KPq162 nin0
    have f187 := H6.keep KPq162 nin0
    have f188 := Gx.keep KPq162 nin0
    have f189 := Gy.keep KPq162 nin0
    have f190 := Gv.keep KPq162 nin0
    have f191 := Uf.keep KPq162 nin0
    have f192 := Ug.keep KPq162 nin0
    have f193 := Ud.keep KPq162 nin0
    have f194 := Ue.keep KPq162 nin0
    have f195 := Gp.keep KPq162 nin0
    have f196 := Hi.keep KPq162 nin0
    have f197 := Gm.keep KPq162 nin0
    refine op T162 (mkF m 96 #[rv a0, rv a1, rv a2, iv p3, iv p4] [(.int (fab_0 rng ful w l0 l1 l2 l3 t0 t1 t2 t3))]) (fun _ k => st'.trans k) ?_
    refine own_iteT Rad (Kad Z p3 p4 ino alc cnt siz dif sz rng tsz ful nC nT w l0 l1 l2 l3 r0 r1 r2 r3 t0 t1 t2 t3 nB a0 a1 a2 sg sS sT sL sC sA bS bE bC bL h0 n0) (fun hc96 => ?_) (fun hc96 => ?_)
    · skip
      refine op T162 (mkF m 115 #[rv a0, rv a1, rv a2, iv p3, iv p4] [(.ref a0)]) (fun _ k => XS.ifYes X162.here hx rfl (pc0 := 96) (pc' := 114) rfl (hb hby d10_96) rfl ((if0 _ _).trans (teq hc96).1) (by decide) (by decide) (XS.aloadN X162.here hx rfl (hb hby d10_114) rfl rfl k)) ?_
      obtain ⟨T198, X198, e198, st'⟩ := getF X162 hx hZ hown (host := "") (Or.inl (ow hw 117 rfl)) Via.refl (rfl : T162.heap = T162.heap) f165 (g := (mkF m 115 #[rv a0, rv a1, rv a2, iv p3, iv p4] [(.ref a0)])) rfl rfl (hb hby d10_115)
      refine op T198 (mkF m 118 #[rv a0, rv a1, rv a2, iv p3, iv p4] [(.int alc)]) (fun _ k => st' _ k) ?_
      refine own_iteT Rad (Kad Z p3 p4 ino alc cnt siz dif sz rng tsz ful nC nT w l0 l1 l2 l3 r0 r1 r2 r3 t0 t1 t2 t3 nB a0 a1 a2 sg sS sT sL sC sA bS bE bC bL h0 n0) (fun hc118 => ?_) (fun hc118 => ?_)
      · skip
        refine op T198 (mkF m 131 #[rv a0, rv a1, rv a2, iv p3, iv p4] [(.int 0), (.ref a0)]) (fun _ k => XS.ifYes X198.here hx rfl (pc0 := 118) (pc' := 129) rfl (hb hby d10_118) rfl ((if0 _ _).trans (teq hc118).1) (by decide) (by decide) (XS.aloadN X198.here hx rfl (hb hby d10_129) rfl rfl (XS.iconst X198.here hx rfl (hb hby d10_130) k))) ?_
        obtain ⟨T199, h199, X199, e199, W199, st'⟩ := putFN X198 hx hZ hown (ow hw 27 rfl) Via.refl e198 f164 f163 (Or.inl (ow hw 28 rfl)) (ow hw 19 rfl) (ty := .boolean) (v' := (.int 0)) (by decide) rfl (by decide) (g := (mkF m 131 #[rv a0, rv a1, rv a2, iv p3, iv p4] [(.int 0), (.ref a0)])) rfl rfl (hb hby d10_131)
        have f200 := f164.same W199
        have f201 := f163.wr W199
        have f202 := f165.other W199 (Or.inr (sn115 hw))
        have f203 := f166.other W199 (Or.inr (sn116 hw))
        have f204 := f167.other W199 (Or.inr (sn117 hw))
        have f205 := f168.other W199 (Or.inr (sn118 hw))
        have f206 := f169.other W199 (Or.inr (sn110 hw))
        have f207 := f170.other W199 (Or.inr (sn111 hw))
        have f208 := f171.other W199 (Or.inr (sn112 hw))
        have f209 := f172.other W199 (Or.inr (sn113 hw))
        have f210 := f173.other W199 (Or.inr (sn119 hw))
        have f211 := f174.other W199 (Or.inr (sn114 hw))
        have f212 := f175.wr W199
        have f213 := f176.other W199 (Or.inl (Ne.symm Gf))
        have f214 := f177.other W199 (Or.inl (Ne.symm Gf))
        have f215 := f178.other W199 (Or.inl (Ne.symm Gf))
        have f216 := f179.other W199 (Or.inl (Ne.symm Gf))
        have f217 := f180.other W199 (Or.inl (Ne.symm Gf))
        have f218 := f181.other W199 (Or.inl (Ne.symm Gf))
        have f219 := f182.other W199 (Or.inl (Ne.symm Gf))
        have f220 := f183.other W199 (Or.inl (Ne.symm Gf))
        have f221 := f184.other W199 (Or.inl (Ne.symm Gf))
        have f222 := f185.other W199 (Or.inl (Ne.symm Gf))
        have f223 := f186.other W199 (Or.inl (Ne.symm Gf))
        have f224 := f187.other W199 (Ne.symm Gd)
        have f225 := f188.other W199 (Ne.symm Gh)
        have f226 := f189.other W199 (Ne.symm Gi)
        have f227 := f190.other W199 (Ne.symm Ge)
        have f228 := f191.other W199 (Ne.symm Ms)
        have f229 := f192.other W199 (Ne.symm Mt)
        have f230 := f193.other W199 (Ne.symm Mu)
        have f231 := f194.other W199 (Ne.symm Mv)
        have f232 := f195.other W199 (Ne.symm Gu)
        have f233 := f196.other W199 (Ne.symm Ux)
        have f234 := f197.other W199 (Ne.symm G6)
        have NF199 := Fr.snoc X199 NF162 G0
        have SZ199 : n0 ≤ h199.size := (Nat.le_trans SZ162 (Keep.of_wr W199).1)
        have KP199 : Keep h0 h199 [a0, sg, sS, sT, sL, sC, sA, bS, bE, bC, bL] := KP162.wr W199 (Or.inl (List.mem_of_getElem? (i := 0) rfl))
        refine op T199 (mkF m 134 #[rv a0, rv a1, rv a2, iv p3, iv p4] []) (fun _ k => st' _ k) ?_
        exact gad_134 hw p3 p4 ino alc cnt siz dif sz rng tsz ful nC nT w l0 l1 l2 l3 r0 r1 r2 r3 t0 t1 t2 t3 nB a0 a1 a2 sg sS sT sL sC sA bS bE bC bL Ms Mw V1 V2 V3 V4 V5 V6 V7 Wc Wd V8 Mt Mx V9 Va Vb Vc Vd Ve We Wf Vf Mu My Vg Vh Vi Vj Vk Wg Wh Vm Mv Mz Vn Vo Vp Vq Wi Wj Vr Gf Gd Gh Gi Ge Gu Ux G6 Wk Hb Hc Ha Hu Wm Hd He Hv Wn Jb Hx Wo Hw Uo H0 Hs Hr Gz Vs Vt Vu Vv Vw Vx J5 Vy HS HS2 HC HT HT2 HN HZ HB HD (0 : Int32) dif sz rng tsz ful t0 t1 t2 t3 Bd hml hZ G0 Uq Hg Hj Hk Hh J7 Wp Wq Wr Ws T199 X199 e199 SZ199 NF199 KP199 f201 f200 f202 f203 f204 f205 f206 f207 f208 f209 f210 f211 f212 f213 f214 f215 f216 f217 f218 f219 f220 f221 f222 f223 f224 f225 f226 f227 f230 f231 f232 f233 f234 f228 f229
      · skip
        refine op T198 (mkF m 123 #[rv a0, rv a1, rv a2, iv p3, iv p4] [(.int 1), (.ref a0)]) (fun _ k => XS.ifNo X198.here hx rfl (hb hby d10_118) rfl ((if0 _ _).trans (feq hc118).1) (XS.aloadN X198.here hx rfl (hb hby d10_121) rfl rfl (XS.iconst X198.here hx rfl (hb hby d10_122) k))) ?_
        obtain ⟨T235, h235, X235, e235, W235, st'⟩ := putFN X198 hx hZ hown (ow hw 131 rfl) Via.refl e198 f168 f163 (Or.inl (ow hw 132 rfl)) (ow hw 19 rfl) (ty := .boolean) (v' := (.int 1)) (by decide) rfl (by decide) (g := (mkF m 123 #[rv a0, rv a1, rv a2, iv p3, iv p4] [(.int 1), (.ref a0)])) rfl rfl (hb hby d10_123)
        have f236 := f168.same W235
        have f237 := f163.wr W235
        have f238 := f164.other W235 (Or.inr (sn180 hw))
        have f239 := f165.other W235 (Or.inr (sn181 hw))
        have f240 := f166.other W235 (Or.inr (sn182 hw))
        have f241 := f167.other W235 (Or.inr (sn183 hw))
        have f242 := f169.other W235 (Or.inr (sn184 hw))
        have f243 := f170.other W235 (Or.inr (sn185 hw))
        have f244 := f171.other W235 (Or.inr (sn186 hw))
        have f245 := f172.other W235 (Or.inr (sn187 hw))
        have f246 := f173.other W235 (Or.inr (sn188 hw))
        have f247 := f174.other W235 (Or.inr (sn189 hw))
        have f248 := f175.wr W235
        have f249 := f176.other W235 (Or.inl (Ne.symm Gf))
        have f250 := f177.other W235 (Or.inl (Ne.symm Gf))
        have f251 := f178.other W235 (Or.inl (Ne.symm Gf))
        have f252 := f179.other W235 (Or.inl (Ne.symm Gf))
        have f253 := f180.other W235 (Or.inl (Ne.symm Gf))
        have f254 := f181.other W235 (Or.inl (Ne.symm Gf))
        have f255 := f182.other W235 (Or.inl (Ne.symm Gf))
        have f256 := f183.other W235 (Or.inl (Ne.symm Gf))
        have f257 := f184.other W235 (Or.inl (Ne.symm Gf))
        have f258 := f185.other W235 (Or.inl (Ne.symm Gf))
        have f259 := f186.other W235 (Or.inl (Ne.symm Gf))
        have f260 := f187.other W235 (Ne.symm Gd)
        have f261 := f188.other W235 (Ne.symm Gh)
        have f262 := f189.other W235 (Ne.symm Gi)
        have f263 := f190.other W235 (Ne.symm Ge)
        have f264 := f191.other W235 (Ne.symm Ms)
        have f265 := f192.other W235 (Ne.symm Mt)
        have f266 := f193.other W235 (Ne.symm Mu)
        have f267 := f194.other W235 (Ne.symm Mv)
        have f268 := f195.other W235 (Ne.symm Gu)
        have f269 := f196.other W235 (Ne.symm Ux)
        have f270 := f197.other W235 (Ne.symm G6)
        have NF235 := Fr.snoc X235 NF162 G0
        have SZ235 : n0 ≤ h235.size := (Nat.le_trans SZ162 (Keep.of_wr W235).1)
        have KP235 : Keep h0 h235 [a0, sg, sS, sT, sL, sC, sA, bS, bE, bC, bL] := KP162.wr W235 (Or.inl (List.mem_of_getElem? (i := 0) rfl))
        refine op T235 (mkF m 134 #[rv a0, rv a1, rv a2, iv p3, iv p4] []) (fun _ k => st' _ (XS.goto X235.here hx rfl (pc0 := 126) (pc' := 134) rfl (hb hby d10_126) (by decide) (by decide) k)) ?_
        exact gad_134 hw p3 p4 ino alc cnt siz dif sz rng tsz ful nC nT w l0 l1 l2 l3 r0 r1 r2 r3 t0 t1 t2 t3 nB a0 a1 a2 sg sS sT sL sC sA bS bE bC bL Ms Mw V1 V2 V3 V4 V5 V6 V7 Wc Wd V8 Mt Mx V9 Va Vb Vc Vd Ve We Wf Vf Mu My Vg Vh Vi Vj Vk Wg Wh Vm Mv Mz Vn Vo Vp Vq Wi Wj Vr Gf Gd Gh Gi Ge Gu Ux G6 Wk Hb Hc Ha Hu Wm Hd He Hv Wn Jb Hx Wo Hw Uo H0 Hs Hr Gz Vs Vt Vu Vv Vw Vx J5 Vy HS HS2 HC HT HT2 HN HZ HB HD ino (1 : Int32) sz rng tsz ful t0 t1 t2 t3 Bd hml hZ G0 Uq Hg Hj Hk Hh J7 Wp Wq Wr Ws T235 X235 e235 SZ235 NF235 KP235 f237 f238 f239 f240 f241 f236 f242 f243 f244 f245 f246 f247 f248 f249 f250 f251 f252 f253 f254 f255 f256 f257 f258 f259 f260 f261 f262 f263 f266 f267 f268 f269 f270 f264 f265
    · skip
      refine op T162 (mkF m 100 #[rv a0, rv a1, rv a2, iv p3, iv p4] [(.ref a0)]) (fun _ k => XS.ifNo X162.here hx rfl (hb hby d10_96) rfl ((if0 _ _).trans (feq hc96).1) (XS.aloadN X162.here hx rfl (hb hby d10_99) rfl rfl k)) ?_
      obtain ⟨T271, X271, e271, st'⟩ := getF X162 hx hZ hown (host := "") (Or.inl (ow hw 65 rfl)) Via.refl (rfl : T162.heap = T162.heap) f174 (g := (mkF m 100 #[rv a0, rv a1, rv a2, iv p3, iv p4] [(.ref a0)])) rfl rfl (hb hby d10_100)
      refine op T271 (mkF m 108 #[rv a0, rv a1, rv a2, iv p3, iv p4] [(.int p3), (.int 0), (.ref a2), (.int 0), (.ref a1), (.ref sg)]) (fun _ k => st' _ (XS.aloadN X271.here hx rfl (hb hby d10_103) rfl rfl (XS.iconst X271.here hx rfl (hb hby d10_104) (XS.aloadN X271.here hx rfl (hb hby d10_105) rfl rfl (XS.iconst X271.here hx rfl (hb hby d10_106) (XS.iloadN X271.here hx rfl (hb hby d10_107) rfl k)))))) ?_
      obtain ⟨cq272, kq272, qa272, qb272, qc272⟩ := isOf hZ e271 f175
      obtain ⟨_, _, ⟨T272, L272, k272, n272⟩, -, X272', ⟨Lc272, hQ272, l272, y272, z272⟩, st'⟩ := X271.virtualBack hx (y := y4) (z := y4) hown (mvT hZ (ow hw 82 rfl)) (mvT hZ (ow hw 83 rfl)) (notFace_of_selects (args := #[]) (mvT hZ (ow hw 85 rfl))) (mvT hZ (ow hw 85 rfl)) (mvT hZ (ow hw 84 rfl)) (by decide) (backOf (W := 0) (rmgap l Z aw hw [] p3 sz rng tsz ful nC nT w l0 l1 l2 l3 r0 r1 r2 r3 t0 t1 t2 t3 sg a1 a2 sS sT sL sC sA T162.heap n0 SZ162 f175 f176 f177 f178 f179 f180 f181 f182 f183 f184 f185 f186 f187 f188 f189 f190 f195 f196 f197 Wk Hb Hc Ha Hu Wm Hd He Hv Wn Jb Hx Wo Hw Uo H0 Hs Hr Gz (Ne.symm Vs) Vt Vu Vv Vw (Ne.symm Vx) J5 Vy HS HS2 HC HT HT2 HN HD Uq Hg Hj Hk Hh J7) hZ (ow hw 86 rfl) (ow hw 42 rfl) (by decide) (by decide)) qa272 qc272 (g := (mkF m 108 #[rv a0, rv a1, rv a2, iv p3, iv p4] [(.int p3), (.int 0), (.ref a2), (.int 0), (.ref a1), (.ref sg)])) rfl (by rw [hml]; rfl) (Steps.refl _) (argsL := [(.ref a1), (.int 0), (.ref a2), (.int 0), (.int p3)]) (rest := []) (lenOf own_pd6 rfl) rfl (by show 2 * 0 + _ ≤ _; exact Nat.le_of_eq rfl) (hb hby d10_108) (fun _ _ => ⟨rfl, e271, (by decide : 0 + 0 ≤ _), (by decide : 0 + 0 ≤ _)⟩)
      dsimp only [Pt.U, Pt.locs, Pt.cells, Pt.slots] at X272' l272 y272 z272 st' hQ272
      subst l272 y272 z272
      obtain ⟨rfl, NFq272, KPq272, p272_0, p272_1, p272_2, p272_3, p272_4, p272_5, p272_6, p272_7, p272_8, p272_9, p272_10, p272_11, p272_12, p272_13, p272_14, p272_15, p272_16⟩ := hQ272
      have X272 : Stand p l e Qad s m #[(.ref a0), (.ref a1), (.ref a2), (.int p3), (.int p4)] below meth c T272 _ 0 0 := X272'
      have NF272 := Fr.app NF162 NFq272
      have SZ272 : n0 ≤ T272.heap.size := Nat.le_trans SZ162 KPq272.1
      have KP272 : Keep h0 T272.heap [a0, sg, sS, sT, sL, sC, sA, bS, bE, bC, bL] := KP162.trans KPq272 (allS (Or.inl (List.mem_of_getElem? (i := 1) rfl)) (allS (Or.inl (List.mem_of_getElem? (i := 2) rfl)) (allS (Or.inl (List.mem_of_getElem? (i := 3) rfl)) (allS (Or.inl (List.mem_of_getElem? (i := 4) rfl)) (allS (Or.inl (List.mem_of_getElem? (i := 5) rfl)) (allS (Or.inl (List.mem_of_getElem? (i := 6) rfl)) all0))))))
      have f273 := f163.keep KPq272
      have f274 := f164.keep KPq272 (ninS Gf (ninS Gd (ninS Gh (ninS Gi (ninS Ge (ninS G6 nin0))))))
      have f275 := f165.keep KPq272 (ninS Gf (ninS Gd (ninS Gh (ninS Gi (ninS Ge (ninS G6 nin0))))))
      have f276 := f166.keep KPq272 (ninS Gf (ninS Gd (ninS Gh (ninS Gi (ninS Ge (ninS G6 nin0))))))
      have f277 := f167.keep KPq272 (ninS Gf (ninS Gd (ninS Gh (ninS Gi (ninS Ge (ninS G6 nin0))))))
      have f278 := f168.keep KPq272 (ninS Gf (ninS Gd (ninS Gh (ninS Gi (ninS Ge (ninS G6 nin0))))))
      have f279 := f169.keep KPq272 (ninS Gf (ninS Gd (ninS Gh (ninS Gi (ninS Ge (ninS G6 nin0))))))
      have f280 := f170.keep KPq272 (ninS Gf (ninS Gd (ninS Gh (ninS Gi (ninS Ge (ninS G6 nin0))))))
      have f281 := f171.keep KPq272 (ninS Gf (ninS Gd (ninS Gh (ninS Gi (ninS Ge (ninS G6 nin0))))))
      have f282 := f172.keep KPq272 (ninS Gf (ninS Gd (ninS Gh (ninS Gi (ninS Ge (ninS G6 nin0))))))
      have f283 := f173.keep KPq272 (ninS Gf (ninS Gd (ninS Gh (ninS Gi (ninS Ge (ninS G6 nin0))))))
      have f284 := f174.keep KPq272 (ninS Gf (ninS Gd (ninS Gh (ninS Gi (ninS Ge (ninS G6 nin0))))))
      have f285 := f175.keep KPq272
      have f286 := f191.keep KPq272 (ninS (Ne.symm Mw) (ninS (Ne.symm V1) (ninS (Ne.symm V2) (ninS (Ne.symm V3) (ninS (Ne.symm V4) (ninS (Ne.symm V8) nin0))))))
      have f287 := f192.keep KPq272 (ninS (Ne.symm Mx) (ninS (Ne.symm V9) (ninS (Ne.symm Va) (ninS (Ne.symm Vb) (ninS (Ne.symm Vc) (ninS (Ne.symm Vf) nin0))))))
      have f288 := f193.keep KPq272 (ninS (Ne.symm My) (ninS (Ne.symm Vg) (ninS (Ne.symm Vh) (ninS (Ne.symm Vi) (ninS (Ne.symm Vj) (ninS (Ne.symm Vm) nin0))))))
      have f289 := f194.keep KPq272 (ninS (Ne.symm Mz) (ninS (Ne.symm Vn) (ninS (Ne.symm Vo) (ninS (Ne.symm Vp) (ninS (Ne.symm Vq) (ninS (Ne.symm Vr) nin0))))))
      have f290 := f195.keep KPq272 (ninS Vs (ninS Gz (ninS Hr (ninS Hs (ninS H0 (ninS J5 nin0))))))
      have f291 := f196.keep KPq272 (ninS Vx (ninS Vw (ninS Vv (ninS Vu (ninS Vt (ninS Vy nin0))))))
      refine op T272 (mkF m 134 #[rv a0, rv a1, rv a2, iv p3, iv p4] []) (fun _ k => st'.trans (XS.goto X272.here hx rfl (pc0 := 111) (pc' := 134) rfl (hb hby d10_111) (by decide) (by decide) k)) ?_
      exact gad_134 hw p3 p4 ino alc cnt siz dif sz rng tsz ful nC nT w l0 l1 l2 l3 r0 r1 r2 r3 t0 t1 t2 t3 nB a0 a1 a2 sg sS sT sL sC sA bS bE bC bL Ms Mw V1 V2 V3 V4 V5 V6 V7 Wc Wd V8 Mt Mx V9 Va Vb Vc Vd Ve We Wf Vf Mu My Vg Vh Vi Vj Vk Wg Wh Vm Mv Mz Vn Vo Vp Vq Wi Wj Vr Gf Gd Gh Gi Ge Gu Ux G6 Wk Hb Hc Ha Hu Wm Hd He Hv Wn Jb Hx Wo Hw Uo H0 Hs Hr Gz Vs Vt Vu Vv Vw Vx J5 Vy HS HS2 HC HT HT2 HN HZ HB HD ino dif (fgap_0 p3 sz rng tsz ful nC nT w l0 l1 l2 l3 r0 r1 r2 r3 t0 t1 t2 t3).1 (fgap_0 p3 sz rng tsz ful nC nT w l0 l1 l2 l3 r0 r1 r2 r3 t0 t1 t2 t3).2.1 (fgap_0 p3 sz rng tsz ful nC nT w l0 l1 l2 l3 r0 r1 r2 r3 t0 t1 t2 t3).2.2.1 (fgap_0 p3 sz rng tsz ful nC nT w l0 l1 l2 l3 r0 r1 r2 r3 t0 t1 t2 t3).2.2.2.1 (fgap_0 p3 sz rng tsz ful nC nT w l0 l1 l2 l3 r0 r1 r2 r3 t0 t1 t2 t3).2.2.2.2.1 (fgap_0 p3 sz rng tsz ful nC nT w l0 l1 l2 l3 r0 r1 r2 r3 t0 t1 t2 t3).2.2.2.2.2.1 (fgap_0 p3 sz rng tsz ful nC nT w l0 l1 l2 l3 r0 r1 r2 r3 t0 t1 t2 t3).2.2.2.2.2.2.1 (fgap_0 p3 sz rng tsz ful nC nT w l0 l1 l2 l3 r0 r1 r2 r3 t0 t1 t2 t3).2.2.2.2.2.2.2 Bd hml hZ G0 Uq Hg Hj Hk Hh J7 Wp Wq Wr Ws T272 X272 (rfl : T272.heap = T272.heap) SZ272 NF272 KP272 f273 f274 f275 f276 f277 f278 f279 f280 f281 f282 f283 f284 p272_0 p272_1 p272_2 p272_3 p272_4 p272_5 p272_6 p272_7 p272_8 p272_9 p272_10 p272_11 p272_12 p272_13 p272_14 p272_15 f288 f289 f290 f291 p272_16 f286 f287
theorem ef_ad (m : MethodId) (a0 a1 a2 : Addr) (p3 p4 : Int32) : entryFrame m #[(.ref a0), (.ref a1), (.ref a2), (.int p3), (.int p4)] 5 = mkF m 0 #[rv a0, rv a1, rv a2, iv p3, iv p4] [] := by first | (simp [entryFrame, mkF, argsToLocals, Value.category]; done) | rfl
set_option maxRecDepth 65536 in
set_option maxHeartbeats 40000000 in
theorem rmad (l : Launch) (Z : State) (aw : Array Value) (hw : HW aw Z) (ws : List Jvm.Cond) (p3 p4 ino alc cnt siz dif sz rng tsz ful nC nT w l0 l1 l2 l3 r0 r1 r2 r3 t0 t1 t2 t3 nB : Int32) (a0 a1 a2 sg sS sT sL sC sA bS bE bC bL : Addr) (h0 : Heap) (n0 : Nat) (SZ0 : n0 ≤ h0.size) (Ga : Exa Z h0 a0 cB) (Hz : Fld Z h0 a0 cB "inOrder" "Z" (.int ino)) (Ja : Fld Z h0 a0 cB "allocated" "Z" (.int alc)) (J0 : Fld Z h0 a0 cB "counted" "I" (.int cnt)) (Gc : Fld Z h0 a0 cB "size" "I" (.int siz)) (J6 : Fld Z h0 a0 cB "differs" "Z" (.int dif)) (Gk : Fld Z h0 a0 cB "starts" "[I" (.ref bS)) (J8 : Fld Z h0 a0 cB "ends" "[I" (.ref bE)) (Gg : Fld Z h0 a0 cB "countries" "[C" (.ref bC)) (J9 : Fld Z h0 a0 cB "lineNumbers" "[I" (.ref bL)) (Gb : Fld Z h0 a0 cB "width" "I" (.int w)) (J1 : Fld Z h0 a0 cB "segments" dS (.ref sg)) (J2 : Exa Z h0 sg cS) (M6 : Fld Z h0 sg cS "starts" "[I" (.ref sS)) (M0 : Fld Z h0 sg cS "tailed" "[I" (.ref sT)) (M7 : Fld Z h0 sg cS "tails" "[I" (.ref sL)) (M1 : Fld Z h0 sg cS "countries" "[C" (.ref sC)) (Jt : Fld Z h0 sg cS "width" "I" (.int w)) (M2 : Fld Z h0 sg cS "head" "I" (.int (own_hd w))) (Ju : Fld Z h0 sg cS "after" "[I" (.ref sA)) (M3 : Fld Z h0 sg cS "size" "I" (.int sz)) (Jv : Fld Z h0 sg cS "ranges" "I" (.int rng)) (M4 : Fld Z h0 sg cS "tailedSize" "I" (.int tsz)) (Jw : Fld Z h0 sg cS "full" "Z" (.int ful)) (H6 : own_Ar Z h0 sS .int (nC * (own_hd w))) (Gx : own_Ar Z h0 sT .int nT) (Gy : own_Ar Z h0 sL .int (nT * (w - (own_hd w)))) (Gv : own_Ar Z h0 sC .char nC) (Uf : own_Ar Z h0 bS .int (nB * w)) (Ug : own_Ar Z h0 bE .int (nB * w)) (Ud : own_Ar Z h0 bC .char nB) (Ue : own_Ar Z h0 bL .int nB) (Gp : own_G Z h0 a1 w l0 l1 l2 l3) (Hi : own_G Z h0 a2 w r0 r1 r2 r3) (Gm : own_G Z h0 sA w t0 t1 t2 t3) (Ms : a0 ≠ bS) (Mw : sg ≠ bS) (V1 : sS ≠ bS) (V2 : sT ≠ bS) (V3 : sL ≠ bS) (V4 : sC ≠ bS) (V5 : bS ≠ bE) (V6 : bS ≠ bC) (V7 : bS ≠ bL) (Wc : a1 ≠ bS) (Wd : a2 ≠ bS) (V8 : sA ≠ bS) (Mt : a0 ≠ bE) (Mx : sg ≠ bE) (V9 : sS ≠ bE) (Va : sT ≠ bE) (Vb : sL ≠ bE) (Vc : sC ≠ bE) (Vd : bE ≠ bC) (Ve : bE ≠ bL) (We : a1 ≠ bE) (Wf : a2 ≠ bE) (Vf : sA ≠ bE) (Mu : a0 ≠ bC) (My : sg ≠ bC) (Vg : sS ≠ bC) (Vh : sT ≠ bC) (Vi : sL ≠ bC) (Vj : sC ≠ bC) (Vk : bC ≠ bL) (Wg : a1 ≠ bC) (Wh : a2 ≠ bC) (Vm : sA ≠ bC) (Mv : a0 ≠ bL) (Mz : sg ≠ bL) (Vn : sS ≠ bL) (Vo : sT ≠ bL) (Vp : sL ≠ bL) (Vq : sC ≠ bL) (Wi : a1 ≠ bL) (Wj : a2 ≠ bL) (Vr : sA ≠ bL) (Gf : a0 ≠ sg) (Gd : a0 ≠ sS) (Gh : a0 ≠ sT) (Gi : a0 ≠ sL) (Ge : a0 ≠ sC) (Gu : a0 ≠ a1) (Ux : a0 ≠ a2) (G6 : a0 ≠ sA) (Wk : sg ≠ sS) (Hb : sS ≠ sT) (Hc : sS ≠ sL) (Ha : sS ≠ sC) (Hu : sS ≠ sA) (Wm : sg ≠ sC) (Hd : sT ≠ sC) (He : sL ≠ sC) (Hv : sC ≠ sA) (Wn : sg ≠ sT) (Jb : sT ≠ sL) (Hx : sT ≠ sA) (Wo : sg ≠ sL) (Hw : sL ≠ sA) (Uo : sg ≠ sA) (H0 : a1 ≠ sC) (Hs : a1 ≠ sL) (Hr : a1 ≠ sT) (Gz : a1 ≠ sS) (Vs : a1 ≠ sg) (Vt : a2 ≠ sC) (Vu : a2 ≠ sL) (Vv : a2 ≠ sT) (Vw : a2 ≠ sS) (Vx : a2 ≠ sg) (J5 : a1 ≠ sA) (Vy : a2 ≠ sA) (HS : 0 ≤ sz.toInt) (HS2 : sz.toInt ≤ 1000) (HC : nC.toInt ≤ 100) (HT : 0 ≤ tsz.toInt) (HT2 : tsz.toInt ≤ 1000) (HN : nT.toInt ≤ 100) (HZ : 0 ≤ siz.toInt) (HB : nB.toInt ≤ 100) (HD : w = 1 ∨ w = 4) (G0 : n0 ≤ a0) (Uq : n0 ≤ sg) (Hg : n0 ≤ sS) (Hj : n0 ≤ sT) (Hk : n0 ≤ sL) (Hh : n0 ≤ sC) (J7 : n0 ≤ sA) (Wp : n0 ≤ bS) (Wq : n0 ≤ bE) (Wr : n0 ≤ bC) (Ws : n0 ≤ bL) :
    MetFree l y13 (head1 (Jvm.Cond.code y13 Go 5 none :: ws) Qad) (fun a U => a = #[(.ref a0), (.ref a1), (.ref a2), (.int p3), (.int p4)] ∧ Z.Warmed39 U.vm ∧ U.heap = h0) (fun _ _ _ _ _ => True) (fun _ U o U' => ∃ v L, o = .returned v ∧ own_Q (Rad (fad_0 p3 p4 ino alc cnt siz dif sz rng tsz ful nC nT w l0 l1 l2 l3 r0 r1 r2 r3 t0 t1 t2 t3 nB)) (Kad Z p3 p4 ino alc cnt siz dif sz rng tsz ful nC nT w l0 l1 l2 l3 r0 r1 r2 r3 t0 t1 t2 t3 nB a0 a1 a2 sg sS sT sL sC sA bS bE bC bL h0 n0 (fad_0 p3 p4 ino alc cnt siz dif sz rng tsz ful nC nT w l0 l1 l2 l3 r0 r1 r2 r3 t0 t1 t2 t3 nB)) v U'.heap L ∧ FrameEnd U o U' L Qad.cells Qad.slots) := by
  refine MetFree.of_bodySF (plainFor_of_name own_pn3) hisR ?_
  intro p e s m args below meth c s₁ Bd hml0 hP hK
  obtain ⟨rfl, hZ, hh⟩ := hP
  have hml : c.maxLocals = 5 := hml0
  have e0 : s₁.heap = h0 := by rw [← hh, Bd.state]; rfl
  exact own_pre (fun t k => castTop (ef_ad m a0 a1 a2 p3 p4) k) (gad_0 hw p3 p4 ino alc cnt siz dif sz rng tsz ful nC nT w l0 l1 l2 l3 r0 r1 r2 r3 t0 t1 t2 t3 nB a0 a1 a2 sg sS sT sL sC sA bS bE bC bL Ms Mw V1 V2 V3 V4 V5 V6 V7 Wc Wd V8 Mt Mx V9 Va Vb Vc Vd Ve We Wf Vf Mu My Vg Vh Vi Vj Vk Wg Wh Vm Mv Mz Vn Vo Vp Vq Wi Wj Vr Gf Gd Gh Gi Ge Gu Ux G6 Wk Hb Hc Ha Hu Wm Hd He Hv Wn Jb Hx Wo Hw Uo H0 Hs Hr Gz Vs Vt Vu Vv Vw Vx J5 Vy HS HS2 HC HT HT2 HN HZ HB HD Bd hml hZ G0 Uq Hg Hj Hk Hh J7 Wp Wq Wr Ws s₁ (Stand.of_body Bd) e0 SZ0 (Fr.nil n0) (Keep.refl _ _) Ga Hz Ja J0 Gc J6 Gk J8 Gg J9 Gb J1 J2 M6 M0 M7 M1 Jt M2 Ju M3 Jv M4 Jw H6 Gx Gy Gv Uf Ug Ud Ue Gp Hi Gm)
abbrev Qbi : Room := { frames := 3, cells := 4, slots := 48, locals := 66 }
theorem sn200 (hw : HW aw Z) : NS Z cB "inOrder" "Z" cB "counted" "I" := own_sn (la12 hw) (la18 hw) (by decide)
theorem sn201 (hw : HW aw Z) : NS Z cB "allocated" "Z" cB "counted" "I" := own_sn (la17 hw) (la18 hw) (by decide)
theorem sn202 (hw : HW aw Z) : NS Z cB "size" "I" cB "counted" "I" := own_sn (la19 hw) (la18 hw) (by decide)
theorem sn203 (hw : HW aw Z) : NS Z cB "differs" "Z" cB "counted" "I" := own_sn (la20 hw) (la18 hw) (by decide)
theorem sn204 (hw : HW aw Z) : NS Z cB "starts" "[I" cB "counted" "I" := own_sn (la11 hw) (la18 hw) (by decide)
theorem sn205 (hw : HW aw Z) : NS Z cB "ends" "[I" cB "counted" "I" := own_sn (la13 hw) (la18 hw) (by decide)
theorem sn206 (hw : HW aw Z) : NS Z cB "countries" "[C" cB "counted" "I" := own_sn (la14 hw) (la18 hw) (by decide)
theorem sn207 (hw : HW aw Z) : NS Z cB "lineNumbers" "[I" cB "counted" "I" := own_sn (la15 hw) (la18 hw) (by decide)
theorem sn208 (hw : HW aw Z) : NS Z cB "width" "I" cB "counted" "I" := own_sn (la21 hw) (la18 hw) (by decide)
theorem sn209 (hw : HW aw Z) : NS Z cB "segments" dS cB "counted" "I" := own_sn (la16 hw) (la18 hw) (by decide)
theorem own_pd7 : parseMethodDescriptor "()V" = some ⟨[], none⟩ := by decide +kernel
theorem sn210 (hw : HW aw Z) : NS Z cB "inOrder" "Z" cB "allocated" "Z" := own_sn (la12 hw) (la17 hw) (by decide)
theorem sn211 (hw : HW aw Z) : NS Z cB "counted" "I" cB "allocated" "Z" := own_sn (la18 hw) (la17 hw) (by decide)
theorem sn212 (hw : HW aw Z) : NS Z cB "size" "I" cB "allocated" "Z" := own_sn (la19 hw) (la17 hw) (by decide)
theorem sn213 (hw : HW aw Z) : NS Z cB "differs" "Z" cB "allocated" "Z" := own_sn (la20 hw) (la17 hw) (by decide)
theorem sn214 (hw : HW aw Z) : NS Z cB "starts" "[I" cB "allocated" "Z" := own_sn (la11 hw) (la17 hw) (by decide)
theorem sn215 (hw : HW aw Z) : NS Z cB "ends" "[I" cB "allocated" "Z" := own_sn (la13 hw) (la17 hw) (by decide)
theorem sn216 (hw : HW aw Z) : NS Z cB "countries" "[C" cB "allocated" "Z" := own_sn (la14 hw) (la17 hw) (by decide)
theorem sn217 (hw : HW aw Z) : NS Z cB "lineNumbers" "[I" cB "allocated" "Z" := own_sn (la15 hw) (la17 hw) (by decide)
theorem sn218 (hw : HW aw Z) : NS Z cB "width" "I" cB "allocated" "Z" := own_sn (la21 hw) (la17 hw) (by decide)
theorem sn219 (hw : HW aw Z) : NS Z cB "segments" dS cB "allocated" "Z" := own_sn (la16 hw) (la17 hw) (by decide)
/-! body 18, bi -/
theorem d18_0 : De Hp 0 (.aload_n 0) 1 := by decide +kernel
theorem d18_1 : De Hp 1 (.aload_n 0) 1 := by decide +kernel
theorem d18_2 : De Hp 2 (.getfield 40) 3 := by decide +kernel
theorem d18_5 : De Hp 5 (.putfield 63) 3 := by decide +kernel
theorem d18_8 : De Hp 8 (.aload_n 0) 1 := by decide +kernel
theorem d18_9 : De Hp 9 (.iconst 0) 1 := by decide +kernel
theorem d18_10 : De Hp 10 (.putfield 40) 3 := by decide +kernel
theorem d18_13 : De Hp 13 (.aload_n 0) 1 := by decide +kernel
theorem d18_14 : De Hp 14 (.getfield 7) 3 := by decide +kernel
theorem d18_17 : De Hp 17 (.ifCond .eq 13) 3 := by decide +kernel
theorem d18_20 : De Hp 20 (.aload_n 0) 1 := by decide +kernel
theorem d18_21 : De Hp 21 (.getfield 36) 3 := by decide +kernel
theorem d18_24 : De Hp 24 (.invokevirtual 66) 3 := by decide +kernel
theorem d18_27 : De Hp 27 (.goto 53) 3 := by decide +kernel
theorem d18_30 : De Hp 30 (.aload_n 0) 1 := by decide +kernel
theorem d18_31 : De Hp 31 (.aload_n 0) 1 := by decide +kernel
theorem d18_32 : De Hp 32 (.getfield 63) 3 := by decide +kernel
theorem d18_35 : De Hp 35 (.aload_n 0) 1 := by decide +kernel
theorem d18_36 : De Hp 36 (.getfield 27) 3 := by decide +kernel
theorem d18_39 : De Hp 39 (.imul) 1 := by decide +kernel
theorem d18_40 : De Hp 40 (.newarray .int) 2 := by decide +kernel
theorem d18_42 : De Hp 42 (.putfield 13) 3 := by decide +kernel
theorem d18_45 : De Hp 45 (.aload_n 0) 1 := by decide +kernel
theorem d18_46 : De Hp 46 (.aload_n 0) 1 := by decide +kernel
theorem d18_47 : De Hp 47 (.getfield 63) 3 := by decide +kernel
theorem d18_50 : De Hp 50 (.aload_n 0) 1 := by decide +kernel
theorem d18_51 : De Hp 51 (.getfield 27) 3 := by decide +kernel
theorem d18_54 : De Hp 54 (.imul) 1 := by decide +kernel
theorem d18_55 : De Hp 55 (.newarray .int) 2 := by decide +kernel
theorem d18_57 : De Hp 57 (.putfield 17) 3 := by decide +kernel
theorem d18_60 : De Hp 60 (.aload_n 0) 1 := by decide +kernel
theorem d18_61 : De Hp 61 (.aload_n 0) 1 := by decide +kernel
theorem d18_62 : De Hp 62 (.getfield 63) 3 := by decide +kernel
theorem d18_65 : De Hp 65 (.newarray .char) 2 := by decide +kernel
theorem d18_67 : De Hp 67 (.putfield 20) 3 := by decide +kernel
theorem d18_70 : De Hp 70 (.aload_n 0) 1 := by decide +kernel
theorem d18_71 : De Hp 71 (.aload_n 0) 1 := by decide +kernel
theorem d18_72 : De Hp 72 (.getfield 63) 3 := by decide +kernel
theorem d18_75 : De Hp 75 (.newarray .int) 2 := by decide +kernel
theorem d18_77 : De Hp 77 (.putfield 24) 3 := by decide +kernel
theorem d18_80 : De Hp 80 (.aload_n 0) 1 := by decide +kernel
theorem d18_81 : De Hp 81 (.iconst 1) 1 := by decide +kernel
theorem d18_82 : De Hp 82 (.putfield 57) 3 := by decide +kernel
theorem d18_85 : De Hp 85 (.return_) 1 := by decide +kernel
abbrev y14 : MethodName := ⟨cB, "allocate", "()V"⟩
def Rbi (t : Int32 × Int32) : Option Value := none
def Kbi (Z : State) (alc cnt siz dif sz rng tsz ful w t0 t1 t2 t3 : Int32) (a0 sg sS sT sL sC sA bS bE bC bL : Addr) (h0 : Heap) (n0 : Nat) (t : Int32 × Int32) (h : Heap) (L : List Loc) : Prop := ∃ qS qT qL qC : Addr, Fr n0 L ∧ Keep h0 h [a0, sg] ∧ h0.size ≤ qS ∧ h0.size ≤ qT ∧ h0.size ≤ qL ∧ h0.size ≤ qC ∧ qS ≠ qT ∧ qS ≠ qL ∧ qT ≠ qL ∧ qS ≠ qC ∧ qT ≠ qC ∧ qL ≠ qC ∧ Exa Z h a0 cB ∧ Fld Z h a0 cB "inOrder" "Z" (.int 1) ∧ Fld Z h a0 cB "allocated" "Z" (.int 1) ∧ Fld Z h a0 cB "counted" "I" (.int siz) ∧ Fld Z h a0 cB "size" "I" (.int 0) ∧ Fld Z h a0 cB "differs" "Z" (.int dif) ∧ Fld Z h a0 cB "starts" "[I" (.ref bS) ∧ Fld Z h a0 cB "ends" "[I" (.ref bE) ∧ Fld Z h a0 cB "countries" "[C" (.ref bC) ∧ Fld Z h a0 cB "lineNumbers" "[I" (.ref bL) ∧ Fld Z h a0 cB "width" "I" (.int w) ∧ Fld Z h a0 cB "segments" dS (.ref sg) ∧ Exa Z h sg cS ∧ Fld Z h sg cS "starts" "[I" (.ref qS) ∧ Fld Z h sg cS "tailed" "[I" (.ref qT) ∧ Fld Z h sg cS "tails" "[I" (.ref qL) ∧ Fld Z h sg cS "countries" "[C" (.ref qC) ∧ Fld Z h sg cS "width" "I" (.int w) ∧ Fld Z h sg cS "head" "I" (.int (own_hd w)) ∧ Fld Z h sg cS "after" "[I" (.ref sA) ∧ Fld Z h sg cS "size" "I" (.int 0) ∧ Fld Z h sg cS "ranges" "I" (.int 0) ∧ Fld Z h sg cS "tailedSize" "I" (.int 0) ∧ Fld Z h sg cS "full" "Z" (.int ful) ∧ own_Ar Z h qS .int (t.1 * (own_hd w)) ∧ own_Ar Z h qT .int t.2 ∧ own_Ar Z h qL .int (t.2 * (w - (own_hd w))) ∧ own_Ar Z h qC .char t.1
def fbi_0 (alc cnt siz dif sz rng tsz ful w t0 t1 t2 t3 : Int32) : Int32 × Int32 := ((fsal_0 sz rng tsz ful w t0 t1 t2 t3).1, (fsal_0 sz rng tsz ful w t0 t1 t2 t3).2)
set_option maxRecDepth 65536 in
set_option maxHeartbeats 40000000 in
theorem gbi_0 (hw : HW aw Z) {h0 : Heap} {n0 : Nat} (alc cnt siz dif sz rng tsz ful w t0 t1 t2 t3 : Int32) (a0 sg sS sT sL sC sA bS bE bC bL : Addr) (Gf : a0 ≠ sg) (G6 : a0 ≠ sA) (Uo : sg ≠ sA) (HS : 0 ≤ sz.toInt) (HS6 : sz.toInt ≤ 6) (HT : 0 ≤ tsz.toInt) (HT6 : tsz.toInt ≤ 6) (HD : w = 1 ∨ w = 4)
    (Bd : BodyLoose p l y14 (head1 (Jvm.Cond.code y14 Hp 1 none :: ws) Qbi) Hp 1 none e s m #[(.ref a0)] below meth c s₁) (hml : c.maxLocals = 1) (hZ : Z.Warmed39 s.vm) (G0 : n0 ≤ a0) (Uq : n0 ≤ sg) (T0 : State) {locs : List Loc} (X0 : Stand p l e Qbi s m #[(.ref a0)] below meth c T0 locs 0 0) (e0 : T0.heap = h0) (SZ0 : n0 ≤ h0.size) (NF0 : Fr n0 locs) (KP0 : Keep h0 h0 [a0, sg]) (Ga : Exa Z h0 a0 cB) (Hz : Fld Z h0 a0 cB "inOrder" "Z" (.int 1)) (Ja : Fld Z h0 a0 cB "allocated" "Z" (.int alc)) (J0 : Fld Z h0 a0 cB "counted" "I" (.int cnt)) (Gc : Fld Z h0 a0 cB "size" "I" (.int siz)) (J6 : Fld Z h0 a0 cB "differs" "Z" (.int dif)) (Gk : Fld Z h0 a0 cB "starts" "[I" (.ref bS)) (J8 : Fld Z h0 a0 cB "ends" "[I" (.ref bE)) (Gg : Fld Z h0 a0 cB "countries" "[C" (.ref bC)) (J9 : Fld Z h0 a0 cB "lineNumbers" "[I" (.ref bL)) (Gb : Fld Z h0 a0 cB "width" "I" (.int w)) (J1 : Fld Z h0 a0 cB "segments" dS (.ref sg)) (J2 : Exa Z h0 sg cS) (M6 : Fld Z h0 sg cS "starts" "[I" (.ref sS)) (M0 : Fld Z h0 sg cS "tailed" "[I" (.ref sT)) (M7 : Fld Z h0 sg cS "tails" "[I" (.ref sL)) (M1 : Fld Z h0 sg cS "countries" "[C" (.ref sC)) (Jt : Fld Z h0 sg cS "width" "I" (.int w)) (M2 : Fld Z h0 sg cS "head" "I" (.int (own_hd w))) (Ju : Fld Z h0 sg cS "after" "[I" (.ref sA)) (M3 : Fld Z h0 sg cS "size" "I" (.int sz)) (Jv : Fld Z h0 sg cS "ranges" "I" (.int rng)) (M4 : Fld Z h0 sg cS "tailedSize" "I" (.int tsz)) (Jw : Fld Z h0 sg cS "full" "Z" (.int ful)) (Gm : own_G Z h0 sA w t0 t1 t2 t3) :
    own_Go p e below s Qbi.cells Qbi.slots (Rbi (fbi_0 alc cnt siz dif sz rng tsz ful w t0 t1 t2 t3)) (Kbi Z alc cnt siz dif sz rng tsz ful w t0 t1 t2 t3 a0 sg sS sT sL sC sA bS bE bC bL h0 n0 (fbi_0 alc cnt siz dif sz rng tsz ful w t0 t1 t2 t3)) (T0.setTop (mkF m 0 #[rv a0] [])) := by
  have hx := Bd.exec
  have hby := Bd.bytes
  have hown : s.vm.findClass cB = some m.cls := findClass_of_methodNamed Bd.named
  have hnm := (name_of_methodNamed Bd.named Bd.method).1
  unfold fbi_0
  refine op T0 (mkF m 2 #[rv a0] [(.ref a0), (.ref a0)]) (fun _ k => XS.aloadN X0.here hx rfl (hb hby d18_0) rfl rfl (XS.aloadN X0.here hx rfl (hb hby d18_1) rfl rfl k)) ?_
  obtain ⟨T1, X1, e1, st'⟩ := getF X0 hx hZ hown (host := "") (Or.inl (ow hw 103 rfl)) Via.refl e0 Gc (g := (mkF m 2 #[rv a0] [(.ref a0), (.ref a0)])) rfl rfl (hb hby d18_2)
  refine op T1 (mkF m 5 #[rv a0] [(.int siz), (.ref a0)]) (fun _ k => st' _ k) ?_
  obtain ⟨T2, h2, X2, e2, W2, st'⟩ := putF X1 hx hZ hown (host := "") (Or.inl (ow hw 124 rfl)) Via.refl e1 J0 Ga (Or.inl (ow hw 125 rfl)) (ow hw 19 rfl) (ty := .int) (by decide) rfl rfl (g := (mkF m 5 #[rv a0] [(.int siz), (.ref a0)])) rfl rfl (hb hby d18_5)
  have f3 := J0.same W2
  have f4 := Ga.wr W2
  have f5 := Hz.other W2 (Or.inr (sn200 hw))
  have f6 := Ja.other W2 (Or.inr (sn201 hw))
  have f7 := Gc.other W2 (Or.inr (sn202 hw))
  have f8 := J6.other W2 (Or.inr (sn203 hw))
  have f9 := Gk.other W2 (Or.inr (sn204 hw))
  have f10 := J8.other W2 (Or.inr (sn205 hw))
  have f11 := Gg.other W2 (Or.inr (sn206 hw))
  have f12 := J9.other W2 (Or.inr (sn207 hw))
  have f13 := Gb.other W2 (Or.inr (sn208 hw))
  have f14 := J1.other W2 (Or.inr (sn209 hw))
  have f15 := J2.wr W2
  have f16 := M6.other W2 (Or.inl (Ne.symm Gf))
  have f17 := M0.other W2 (Or.inl (Ne.symm Gf))
  have f18 := M7.other W2 (Or.inl (Ne.symm Gf))
  have f19 := M1.other W2 (Or.inl (Ne.symm Gf))
  have f20 := Jt.other W2 (Or.inl (Ne.symm Gf))
  have f21 := M2.other W2 (Or.inl (Ne.symm Gf))
  have f22 := Ju.other W2 (Or.inl (Ne.symm Gf))
  have f23 := M3.other W2 (Or.inl (Ne.symm Gf))
  have f24 := Jv.other W2 (Or.inl (Ne.symm Gf))
  have f25 := M4.other W2 (Or.inl (Ne.symm Gf))
  have f26 := Jw.other W2 (Or.inl (Ne.symm Gf))
  have f27 := Gm.other W2 (Ne.symm G6)
  have NF2 := Fr.snoc X2 NF0 G0
  have SZ2 : n0 ≤ h2.size := (Nat.le_trans SZ0 (Keep.of_wr W2).1)
  have KP2 : Keep h0 h2 [a0, sg] := KP0.wr W2 (Or.inl (List.mem_of_getElem? (i := 0) rfl))
  refine op T2 (mkF m 10 #[rv a0] [(.int 0), (.ref a0)]) (fun _ k => st' _ (XS.aloadN X2.here hx rfl (hb hby d18_8) rfl rfl (XS.iconst X2.here hx rfl (hb hby d18_9) k))) ?_
  obtain ⟨T28, h28, X28, e28, W28, st'⟩ := putF X2 hx hZ hown (host := "") (Or.inl (ow hw 103 rfl)) Via.refl e2 f7 f4 (Or.inl (ow hw 104 rfl)) (ow hw 19 rfl) (ty := .int) (by decide) rfl rfl (g := (mkF m 10 #[rv a0] [(.int 0), (.ref a0)])) rfl rfl (hb hby d18_10)
  have f29 := f7.same W28
  have f30 := f4.wr W28
  have f31 := f5.other W28 (Or.inr (sn190 hw))
  have f32 := f6.other W28 (Or.inr (sn191 hw))
  have f33 := f3.other W28 (Or.inr (sn192 hw))
  have f34 := f8.other W28 (Or.inr (sn193 hw))
  have f35 := f9.other W28 (Or.inr (sn194 hw))
  have f36 := f10.other W28 (Or.inr (sn195 hw))
  have f37 := f11.other W28 (Or.inr (sn196 hw))
  have f38 := f12.other W28 (Or.inr (sn197 hw))
  have f39 := f13.other W28 (Or.inr (sn198 hw))
  have f40 := f14.other W28 (Or.inr (sn199 hw))
  have f41 := f15.wr W28
  have f42 := f16.other W28 (Or.inl (Ne.symm Gf))
  have f43 := f17.other W28 (Or.inl (Ne.symm Gf))
  have f44 := f18.other W28 (Or.inl (Ne.symm Gf))
  have f45 := f19.other W28 (Or.inl (Ne.symm Gf))
  have f46 := f20.other W28 (Or.inl (Ne.symm Gf))
  have f47 := f21.other W28 (Or.inl (Ne.symm Gf))
  have f48 := f22.other W28 (Or.inl (Ne.symm Gf))
  have f49 := f23.other W28 (Or.inl (Ne.symm Gf))
  have f50 := f24.other W28 (Or.inl (Ne.symm Gf))
  have f51 := f25.other W28 (Or.inl (Ne.symm Gf))
  have f52 := f26.other W28 (Or.inl (Ne.symm Gf))
  have f53 := f27.other W28 (Ne.symm G6)
  have NF28 := Fr.snoc X28 NF2 G0
  have SZ28 : n0 ≤ h28.size := (Nat.le_trans SZ2 (Keep.of_wr W28).1)
  have KP28 : Keep h0 h28 [a0, sg] := KP2.wr W28 (Or.inl (List.mem_of_getElem? (i := 0) rfl))
  refine op T28 (mkF m 14 #[rv a0] [(.ref a0)]) (fun _ k => st' _ (XS.aloadN X28.here hx rfl (hb hby d18_13) rfl rfl k)) ?_
  obtain ⟨T54, X54, e54, st'⟩ := getF X28 hx hZ hown (host := "") (Or.inl (ow hw 27 rfl)) Via.refl e28 f31 (g := (mkF m 14 #[rv a0] [(.ref a0)])) rfl rfl (hb hby d18_14)
  refine op T54 (mkF m 17 #[rv a0] [(.int 1)]) (fun _ k => st' _ k) ?_
  have hd55 : ¬ ((1 : Int32) = (0 : Int32)) := by decide
  refine op T54 (mkF m 21 #[rv a0] [(.ref a0)]) (fun _ k => XS.ifNo X54.here hx rfl (hb hby d18_17) rfl ((if0 _ _).trans (feq hd55).1) (XS.aloadN X54.here hx rfl (hb hby d18_20) rfl rfl k)) ?_
  obtain ⟨T56, X56, e56, st'⟩ := getF X54 hx hZ hown (host := "") (Or.inl (ow hw 65 rfl)) Via.refl e54 f40 (g := (mkF m 21 #[rv a0] [(.ref a0)])) rfl rfl (hb hby d18_21)
  refine op T56 (mkF m 24 #[rv a0] [(.ref sg)]) (fun _ k => st' _ k) ?_
  obtain ⟨cq57, kq57, qa57, qb57, qc57⟩ := isOf hZ e56 f41
  obtain ⟨_, _, ⟨T57, L57, k57, n57⟩, -, X57', ⟨Lc57, hQ57, l57, y57, z57⟩, st'⟩ := X56.virtualBack hx (y := y9) (z := y9) hown (mvT hZ (ow hw 133 rfl)) (mvT hZ (ow hw 134 rfl)) (notFace_of_selects (args := #[]) (mvT hZ (ow hw 136 rfl))) (mvT hZ (ow hw 136 rfl)) (mvT hZ (ow hw 135 rfl)) (by decide) (backOf (W := 0) (rmsal l Z aw hw [] sz rng tsz ful w t0 t1 t2 t3 sg sS sT sL sC sA h28 n0 SZ28 f41 f42 f43 f44 f45 f46 f47 f48 f49 f50 f51 f52 f53 Uo HS HS6 HT HT6 HD Uq) hZ (ow hw 137 rfl) (ow hw 42 rfl) (by decide) (by decide)) qa57 qc57 (g := (mkF m 24 #[rv a0] [(.ref sg)])) rfl (by rw [hml]; rfl) (Steps.refl _) (argsL := []) (rest := []) (lenOf own_pd7 rfl) rfl (by show 2 * 0 + _ ≤ _; exact Nat.le_of_eq rfl) (hb hby d18_24) (fun _ _ => ⟨rfl, e56, (by decide : 0 + 4 ≤ _), (by decide : 0 + 48 ≤ _)⟩)
  dsimp only [Pt.U, Pt.locs, Pt.cells, Pt.slots] at X57' l57 y57 z57 st' hQ57
  subst l57 y57 z57
  obtain ⟨rfl, b57_qS, b57_qT, b57_qL, b57_qC, NFq57, KPq57, sz57_qS, sz57_qT, sz57_qL, sz57_qC, nf57_qS_qT, nf57_qS_qL, nf57_qT_qL, nf57_qS_qC, nf57_qT_qC, nf57_qL_qC, p57_0, p57_1, p57_2, p57_3, p57_4, p57_5, p57_6, p57_7, p57_8, p57_9, p57_10, p57_11, p57_12, p57_13, p57_14, p57_15⟩ := hQ57
  have X57 : Stand p l e Qbi s m #[(.ref a0)] below meth c T57 _ 4 48 := X57'
  have NF57 := Fr.app NF28 NFq57
  have SZ57 : n0 ≤ T57.heap.size := Nat.le_trans SZ28 KPq57.1
  have KP57 : Keep h0 T57.heap [a0, sg] := KP28.trans KPq57 (allS (Or.inl (List.mem_of_getElem? (i := 1) rfl)) all0)
  have g_b57_qS : n0 ≤ b57_qS := Nat.le_trans SZ28 sz57_qS
  have sz_b57_qS : h0.size ≤ b57_qS := Nat.le_trans KP28.1 sz57_qS
  have ne_a0_b57_qS : a0 ≠ b57_qS := Nat.ne_of_lt (Nat.lt_of_lt_of_le f30.lt sz57_qS)
  have ne_sg_b57_qS : sg ≠ b57_qS := Nat.ne_of_lt (Nat.lt_of_lt_of_le f41.lt sz57_qS)
  have ne_sA_b57_qS : sA ≠ b57_qS := Nat.ne_of_lt (Nat.lt_of_lt_of_le f53.lt sz57_qS)
  have g_b57_qT : n0 ≤ b57_qT := Nat.le_trans SZ28 sz57_qT
  have sz_b57_qT : h0.size ≤ b57_qT := Nat.le_trans KP28.1 sz57_qT
  have ne_a0_b57_qT : a0 ≠ b57_qT := Nat.ne_of_lt (Nat.lt_of_lt_of_le f30.lt sz57_qT)
  have ne_sg_b57_qT : sg ≠ b57_qT := Nat.ne_of_lt (Nat.lt_of_lt_of_le f41.lt sz57_qT)
  have ne_sA_b57_qT : sA ≠ b57_qT := Nat.ne_of_lt (Nat.lt_of_lt_of_le f53.lt sz57_qT)
  have g_b57_qL : n0 ≤ b57_qL := Nat.le_trans SZ28 sz57_qL
  have sz_b57_qL : h0.size ≤ b57_qL := Nat.le_trans KP28.1 sz57_qL
  have ne_a0_b57_qL : a0 ≠ b57_qL := Nat.ne_of_lt (Nat.lt_of_lt_of_le f30.lt sz57_qL)
  have ne_sg_b57_qL : sg ≠ b57_qL := Nat.ne_of_lt (Nat.lt_of_lt_of_le f41.lt sz57_qL)
  have ne_sA_b57_qL : sA ≠ b57_qL := Nat.ne_of_lt (Nat.lt_of_lt_of_le f53.lt sz57_qL)
  have g_b57_qC : n0 ≤ b57_qC := Nat.le_trans SZ28 sz57_qC
  have sz_b57_qC : h0.size ≤ b57_qC := Nat.le_trans KP28.1 sz57_qC
  have ne_a0_b57_qC : a0 ≠ b57_qC := Nat.ne_of_lt (Nat.lt_of_lt_of_le f30.lt sz57_qC)
  have ne_sg_b57_qC : sg ≠ b57_qC := Nat.ne_of_lt (Nat.lt_of_lt_of_le f41.lt sz57_qC)
  have ne_sA_b57_qC : sA ≠ b57_qC := Nat.ne_of_lt (Nat.lt_of_lt_of_le f53.lt sz57_qC)
  have f58 := f30.keep KPq57
  have f59 := f31.keep KPq57 (ninS Gf nin0)
  have f60 := f32.keep KPq57 (ninS Gf nin0)
  have f61 := f33.keep KPq57 (ninS Gf nin0)
  have f62 := f29.keep KPq57 (ninS Gf nin0)
  have f63 := f34.keep KPq57 (ninS Gf nin0)
  have f64 := f35.keep KPq57 (ninS Gf nin0)
  have f65 := f36.keep KPq57 (ninS Gf nin0)
  have f66 := f37.keep KPq57 (ninS Gf nin0)
  have f67 := f38.keep KPq57 (ninS Gf nin0)
  have f68 := f39.keep KPq57 (ninS Gf nin0)
  have f69 := f40.keep KPq57 (ninS Gf nin0)
  have f70 := f41.keep KPq57
  have f71 := f53.keep KPq57 (ninS (Ne.symm Uo) nin0)
  refine op T57 (mkF m 82 #[rv a0] [(.int 1), (.ref a0)]) (fun _ k => st'.trans (XS.goto X57.here hx rfl (pc0 := 27) (pc' := 80) rfl (hb hby d18_27) (by decide) (by decide) (XS.aloadN X57.here hx rfl (hb hby d18_80) rfl rfl (XS.iconst X57.here hx rfl (hb hby d18_81) k)))) ?_
  obtain ⟨T72, h72, X72, e72, W72, st'⟩ := putFN X57 hx hZ hown (ow hw 117 rfl) Via.refl (rfl : T57.heap = T57.heap) f60 f58 (Or.inl (ow hw 118 rfl)) (ow hw 19 rfl) (ty := .boolean) (v' := (.int 1)) (by decide) rfl (by decide) (g := (mkF m 82 #[rv a0] [(.int 1), (.ref a0)])) rfl rfl (hb hby d18_82)
  have f73 := f60.same W72
  have f74 := f58.wr W72
  have f75 := f59.other W72 (Or.inr (sn210 hw))
  have f76 := f61.other W72 (Or.inr (sn211 hw))
  have f77 := f62.other W72 (Or.inr (sn212 hw))
  have f78 := f63.other W72 (Or.inr (sn213 hw))
  have f79 := f64.other W72 (Or.inr (sn214 hw))
  have f80 := f65.other W72 (Or.inr (sn215 hw))
  have f81 := f66.other W72 (Or.inr (sn216 hw))
  have f82 := f67.other W72 (Or.inr (sn217 hw))
  have f83 := f68.other W72 (Or.inr (sn218 hw))
  have f84 := f69.other W72 (Or.inr (sn219 hw))
  have f85 := p57_0.wr W72
  have f86 := f71.other W72 (Ne.symm G6)
  have f87 := p57_1.other W72 (Or.inl (Ne.symm Gf))
  have f88 := p57_2.other W72 (Or.inl (Ne.symm Gf))
  have f89 := p57_3.other W72 (Or.inl (Ne.symm Gf))
  have f90 := p57_4.other W72 (Or.inl (Ne.symm Gf))
  have f91 := p57_5.other W72 (Or.inl (Ne.symm Gf))
  have f92 := p57_6.other W72 (Or.inl (Ne.symm Gf))
  have f93 := p57_7.other W72 (Or.inl (Ne.symm Gf))
  have f94 := p57_8.other W72 (Or.inl (Ne.symm Gf))
  have f95 := p57_9.other W72 (Or.inl (Ne.symm Gf))
  have f96 := p57_10.other W72 (Or.inl (Ne.symm Gf))
  have f97 := p57_11.other W72 (Or.inl (Ne.symm Gf))
  have f98 := p57_12.other W72 (Ne.symm ne_a0_b57_qS)
  have f99 := p57_13.other W72 (Ne.symm ne_a0_b57_qT)
  have f100 := p57_14.other W72 (Ne.symm ne_a0_b57_qL)
  have f101 := p57_15.other W72 (Ne.symm ne_a0_b57_qC)
  have NF72 := Fr.snoc X72 NF57 G0
  have SZ72 : n0 ≤ h72.size := (Nat.le_trans SZ57 (Keep.of_wr W72).1)
  have KP72 : Keep h0 h72 [a0, sg] := KP57.wr W72 (Or.inl (List.mem_of_getElem? (i := 0) rfl))
  refine op T72 (mkF m 85 #[rv a0] []) (fun _ k => st' _ k) ?_
  exact own_retV X72 hx Bd.notSynchronized Bd.returns (hb hby d18_85) (by rw [e72]; exact ⟨b57_qS, b57_qT, b57_qL, b57_qC, NF72, KP72, sz_b57_qS, sz_b57_qT, sz_b57_qL, sz_b57_qC, nf57_qS_qT, nf57_qS_qL, nf57_qT_qL, nf57_qS_qC, nf57_qT_qC, nf57_qL_qC, f74, f75, f73, f76, f77, f78, f79, f80, f81, f82, f83, f84, f85, f87, f88, f89, f90, f91, f92, f93, f94, f95, f96, f97, f98, f99, f100, f101⟩) (by decide) (by decide)
theorem ef_bi (m : MethodId) (a0 : Addr) : entryFrame m #[(.ref a0)] 1 = mkF m 0 #[rv a0] [] := by first | (simp [entryFrame, mkF, argsToLocals, Value.category]; done) | rfl
set_option maxRecDepth 65536 in
set_option maxHeartbeats 40000000 in
theorem rmbi (l : Launch) (Z : State) (aw : Array Value) (hw : HW aw Z) (ws : List Jvm.Cond) (alc cnt siz dif sz rng tsz ful w t0 t1 t2 t3 : Int32) (a0 sg sS sT sL sC sA bS bE bC bL : Addr) (h0 : Heap) (n0 : Nat) (SZ0 : n0 ≤ h0.size) (Ga : Exa Z h0 a0 cB) (Hz : Fld Z h0 a0 cB "inOrder" "Z" (.int 1)) (Ja : Fld Z h0 a0 cB "allocated" "Z" (.int alc)) (J0 : Fld Z h0 a0 cB "counted" "I" (.int cnt)) (Gc : Fld Z h0 a0 cB "size" "I" (.int siz)) (J6 : Fld Z h0 a0 cB "differs" "Z" (.int dif)) (Gk : Fld Z h0 a0 cB "starts" "[I" (.ref bS)) (J8 : Fld Z h0 a0 cB "ends" "[I" (.ref bE)) (Gg : Fld Z h0 a0 cB "countries" "[C" (.ref bC)) (J9 : Fld Z h0 a0 cB "lineNumbers" "[I" (.ref bL)) (Gb : Fld Z h0 a0 cB "width" "I" (.int w)) (J1 : Fld Z h0 a0 cB "segments" dS (.ref sg)) (J2 : Exa Z h0 sg cS) (M6 : Fld Z h0 sg cS "starts" "[I" (.ref sS)) (M0 : Fld Z h0 sg cS "tailed" "[I" (.ref sT)) (M7 : Fld Z h0 sg cS "tails" "[I" (.ref sL)) (M1 : Fld Z h0 sg cS "countries" "[C" (.ref sC)) (Jt : Fld Z h0 sg cS "width" "I" (.int w)) (M2 : Fld Z h0 sg cS "head" "I" (.int (own_hd w))) (Ju : Fld Z h0 sg cS "after" "[I" (.ref sA)) (M3 : Fld Z h0 sg cS "size" "I" (.int sz)) (Jv : Fld Z h0 sg cS "ranges" "I" (.int rng)) (M4 : Fld Z h0 sg cS "tailedSize" "I" (.int tsz)) (Jw : Fld Z h0 sg cS "full" "Z" (.int ful)) (Gm : own_G Z h0 sA w t0 t1 t2 t3) (Gf : a0 ≠ sg) (G6 : a0 ≠ sA) (Uo : sg ≠ sA) (HS : 0 ≤ sz.toInt) (HS6 : sz.toInt ≤ 6) (HT : 0 ≤ tsz.toInt) (HT6 : tsz.toInt ≤ 6) (HD : w = 1 ∨ w = 4) (G0 : n0 ≤ a0) (Uq : n0 ≤ sg) :
    MetFree l y14 (head1 (Jvm.Cond.code y14 Hp 1 none :: ws) Qbi) (fun a U => a = #[(.ref a0)] ∧ Z.Warmed39 U.vm ∧ U.heap = h0) (fun _ _ _ _ _ => True) (fun _ U o U' => ∃ v L, o = .returned v ∧ own_Q (Rbi (fbi_0 alc cnt siz dif sz rng tsz ful w t0 t1 t2 t3)) (Kbi Z alc cnt siz dif sz rng tsz ful w t0 t1 t2 t3 a0 sg sS sT sL sC sA bS bE bC bL h0 n0 (fbi_0 alc cnt siz dif sz rng tsz ful w t0 t1 t2 t3)) v U'.heap L ∧ FrameEnd U o U' L Qbi.cells Qbi.slots) := by
  refine MetFree.of_bodySF (plainFor_of_name own_pn3) hisR ?_
  intro p e s m args below meth c s₁ Bd hml0 hP hK
  obtain ⟨rfl, hZ, hh⟩ := hP
  have hml : c.maxLocals = 1 := hml0
  have e0 : s₁.heap = h0 := by rw [← hh, Bd.state]; rfl
  exact own_pre (fun t k => castTop (ef_bi m a0) k) (gbi_0 hw alc cnt siz dif sz rng tsz ful w t0 t1 t2 t3 a0 sg sS sT sL sC sA bS bE bC bL Gf G6 Uo HS HS6 HT HT6 HD Bd hml hZ G0 Uq s₁ (Stand.of_body Bd) e0 SZ0 (Fr.nil n0) (Keep.refl _ _) Ga Hz Ja J0 Gc J6 Gk J8 Gg J9 Gb J1 J2 M6 M0 M7 M1 Jt M2 Ju M3 Jv M4 Jw Gm)
abbrev Qbo : Room := { frames := 3, cells := 4, slots := 48, locals := 66 }
/-! body 18, bo -/
def Rbo (t : Unit) : Option Value := none
def Kbo (Z : State) (alc cnt siz dif w : Int32) (a0 bS bE bC bL sg : Addr) (h0 : Heap) (n0 : Nat) (t : Unit) (h : Heap) (L : List Loc) : Prop := ∃ qS qE qC qL : Addr, Fr n0 L ∧ Keep h0 h [a0] ∧ h0.size ≤ qS ∧ h0.size ≤ qE ∧ h0.size ≤ qC ∧ h0.size ≤ qL ∧ qS ≠ qE ∧ qS ≠ qC ∧ qE ≠ qC ∧ qS ≠ qL ∧ qE ≠ qL ∧ qC ≠ qL ∧ Exa Z h a0 cB ∧ Fld Z h a0 cB "inOrder" "Z" (.int 0) ∧ Fld Z h a0 cB "allocated" "Z" (.int 1) ∧ Fld Z h a0 cB "counted" "I" (.int siz) ∧ Fld Z h a0 cB "size" "I" (.int 0) ∧ Fld Z h a0 cB "differs" "Z" (.int dif) ∧ Fld Z h a0 cB "starts" "[I" (.ref qS) ∧ Fld Z h a0 cB "ends" "[I" (.ref qE) ∧ Fld Z h a0 cB "countries" "[C" (.ref qC) ∧ Fld Z h a0 cB "lineNumbers" "[I" (.ref qL) ∧ Fld Z h a0 cB "width" "I" (.int w) ∧ Fld Z h a0 cB "segments" dS (.ref sg) ∧ own_Ar Z h qS .int (siz * w) ∧ own_Ar Z h qE .int (siz * w) ∧ own_Ar Z h qC .char siz ∧ own_Ar Z h qL .int siz
def fbo_0 (alc cnt siz dif w : Int32) : Unit := ()
set_option maxRecDepth 65536 in
set_option maxHeartbeats 40000000 in
theorem gbo_0 (hw : HW aw Z) {h0 : Heap} {n0 : Nat} (alc cnt siz dif w : Int32) (a0 bS bE bC bL sg : Addr) (HZ : 0 ≤ siz.toInt ∧ siz.toInt ≤ 3) (HD : w = 1 ∨ w = 4)
    (Bd : BodyLoose p l y14 (head1 (Jvm.Cond.code y14 Hp 1 none :: ws) Qbo) Hp 1 none e s m #[(.ref a0)] below meth c s₁) (hml : c.maxLocals = 1) (hZ : Z.Warmed39 s.vm) (G0 : n0 ≤ a0) (T0 : State) {locs : List Loc} (X0 : Stand p l e Qbo s m #[(.ref a0)] below meth c T0 locs 0 0) (e0 : T0.heap = h0) (SZ0 : n0 ≤ h0.size) (NF0 : Fr n0 locs) (KP0 : Keep h0 h0 [a0]) (Ga : Exa Z h0 a0 cB) (Hz : Fld Z h0 a0 cB "inOrder" "Z" (.int 0)) (Ja : Fld Z h0 a0 cB "allocated" "Z" (.int alc)) (J0 : Fld Z h0 a0 cB "counted" "I" (.int cnt)) (Gc : Fld Z h0 a0 cB "size" "I" (.int siz)) (J6 : Fld Z h0 a0 cB "differs" "Z" (.int dif)) (Gk : Fld Z h0 a0 cB "starts" "[I" (.ref bS)) (J8 : Fld Z h0 a0 cB "ends" "[I" (.ref bE)) (Gg : Fld Z h0 a0 cB "countries" "[C" (.ref bC)) (J9 : Fld Z h0 a0 cB "lineNumbers" "[I" (.ref bL)) (Gb : Fld Z h0 a0 cB "width" "I" (.int w)) (J1 : Fld Z h0 a0 cB "segments" dS (.ref sg)) :
    own_Go p e below s Qbo.cells Qbo.slots (Rbo (fbo_0 alc cnt siz dif w)) (Kbo Z alc cnt siz dif w a0 bS bE bC bL sg h0 n0 (fbo_0 alc cnt siz dif w)) (T0.setTop (mkF m 0 #[rv a0] [])) := by
  have hx := Bd.exec
  have hby := Bd.bytes
  have hown : s.vm.findClass cB = some m.cls := findClass_of_methodNamed Bd.named
  have hnm := (name_of_methodNamed Bd.named Bd.method).1
  unfold fbo_0
  refine op T0 (mkF m 2 #[rv a0] [(.ref a0), (.ref a0)]) (fun _ k => XS.aloadN X0.here hx rfl (hb hby d18_0) rfl rfl (XS.aloadN X0.here hx rfl (hb hby d18_1) rfl rfl k)) ?_
  obtain ⟨T1, X1, e1, st'⟩ := getF X0 hx hZ hown (host := "") (Or.inl (ow hw 103 rfl)) Via.refl e0 Gc (g := (mkF m 2 #[rv a0] [(.ref a0), (.ref a0)])) rfl rfl (hb hby d18_2)
  refine op T1 (mkF m 5 #[rv a0] [(.int siz), (.ref a0)]) (fun _ k => st' _ k) ?_
  obtain ⟨T2, h2, X2, e2, W2, st'⟩ := putF X1 hx hZ hown (host := "") (Or.inl (ow hw 124 rfl)) Via.refl e1 J0 Ga (Or.inl (ow hw 125 rfl)) (ow hw 19 rfl) (ty := .int) (by decide) rfl rfl (g := (mkF m 5 #[rv a0] [(.int siz), (.ref a0)])) rfl rfl (hb hby d18_5)
  have f3 := J0.same W2
  have f4 := Ga.wr W2
  have f5 := Hz.other W2 (Or.inr (sn200 hw))
  have f6 := Ja.other W2 (Or.inr (sn201 hw))
  have f7 := Gc.other W2 (Or.inr (sn202 hw))
  have f8 := J6.other W2 (Or.inr (sn203 hw))
  have f9 := Gk.other W2 (Or.inr (sn204 hw))
  have f10 := J8.other W2 (Or.inr (sn205 hw))
  have f11 := Gg.other W2 (Or.inr (sn206 hw))
  have f12 := J9.other W2 (Or.inr (sn207 hw))
  have f13 := Gb.other W2 (Or.inr (sn208 hw))
  have f14 := J1.other W2 (Or.inr (sn209 hw))
  have NF2 := Fr.snoc X2 NF0 G0
  have SZ2 : n0 ≤ h2.size := (Nat.le_trans SZ0 (Keep.of_wr W2).1)
  have KP2 : Keep h0 h2 [a0] := KP0.wr W2 (Or.inl (List.mem_of_getElem? (i := 0) rfl))
  refine op T2 (mkF m 10 #[rv a0] [(.int 0), (.ref a0)]) (fun _ k => st' _ (XS.aloadN X2.here hx rfl (hb hby d18_8) rfl rfl (XS.iconst X2.here hx rfl (hb hby d18_9) k))) ?_
  obtain ⟨T15, h15, X15, e15, W15, st'⟩ := putF X2 hx hZ hown (host := "") (Or.inl (ow hw 103 rfl)) Via.refl e2 f7 f4 (Or.inl (ow hw 104 rfl)) (ow hw 19 rfl) (ty := .int) (by decide) rfl rfl (g := (mkF m 10 #[rv a0] [(.int 0), (.ref a0)])) rfl rfl (hb hby d18_10)
  have f16 := f7.same W15
  have f17 := f4.wr W15
  have f18 := f5.other W15 (Or.inr (sn190 hw))
  have f19 := f6.other W15 (Or.inr (sn191 hw))
  have f20 := f3.other W15 (Or.inr (sn192 hw))
  have f21 := f8.other W15 (Or.inr (sn193 hw))
  have f22 := f9.other W15 (Or.inr (sn194 hw))
  have f23 := f10.other W15 (Or.inr (sn195 hw))
  have f24 := f11.other W15 (Or.inr (sn196 hw))
  have f25 := f12.other W15 (Or.inr (sn197 hw))
  have f26 := f13.other W15 (Or.inr (sn198 hw))
  have f27 := f14.other W15 (Or.inr (sn199 hw))
  have NF15 := Fr.snoc X15 NF2 G0
  have SZ15 : n0 ≤ h15.size := (Nat.le_trans SZ2 (Keep.of_wr W15).1)
  have KP15 : Keep h0 h15 [a0] := KP2.wr W15 (Or.inl (List.mem_of_getElem? (i := 0) rfl))
  refine op T15 (mkF m 14 #[rv a0] [(.ref a0)]) (fun _ k => st' _ (XS.aloadN X15.here hx rfl (hb hby d18_13) rfl rfl k)) ?_
  obtain ⟨T28, X28, e28, st'⟩ := getF X15 hx hZ hown (host := "") (Or.inl (ow hw 27 rfl)) Via.refl e15 f18 (g := (mkF m 14 #[rv a0] [(.ref a0)])) rfl rfl (hb hby d18_14)
  refine op T28 (mkF m 17 #[rv a0] [(.int 0)]) (fun _ k => st' _ k) ?_
  have hd29 : (0 : Int32) = (0 : Int32) := by decide
  refine op T28 (mkF m 32 #[rv a0] [(.ref a0), (.ref a0)]) (fun _ k => XS.ifYes X28.here hx rfl (pc0 := 17) (pc' := 30) rfl (hb hby d18_17) rfl ((if0 _ _).trans (teq hd29).1) (by decide) (by decide) (XS.aloadN X28.here hx rfl (hb hby d18_30) rfl rfl (XS.aloadN X28.here hx rfl (hb hby d18_31) rfl rfl k))) ?_
  obtain ⟨T30, X30, e30, st'⟩ := getF X28 hx hZ hown (host := "") (Or.inl (ow hw 124 rfl)) Via.refl e28 f20 (g := (mkF m 32 #[rv a0] [(.ref a0), (.ref a0)])) rfl rfl (hb hby d18_32)
  refine op T30 (mkF m 36 #[rv a0] [(.ref a0), (.int siz), (.ref a0)]) (fun _ k => st' _ (XS.aloadN X30.here hx rfl (hb hby d18_35) rfl rfl k)) ?_
  obtain ⟨T31, X31, e31, st'⟩ := getF X30 hx hZ hown (host := "") (Or.inl (ow hw 38 rfl)) Via.refl e30 f26 (g := (mkF m 36 #[rv a0] [(.ref a0), (.int siz), (.ref a0)])) rfl rfl (hb hby d18_36)
  refine op T31 (mkF m 40 #[rv a0] [(.int (siz * w)), (.ref a0)]) (fun _ k => st' _ (XS.imul X31.here hx rfl (hb hby d18_39) rfl k)) ?_
  obtain ⟨T32, h32, k32, X32, e32, E32, A32, st'⟩ := newP X31 hx hZ (ow hw 16 rfl) e31 (g := (mkF m 40 #[rv a0] [(.int (siz * w)), (.ref a0)])) rfl (hb hby d18_40) rfl (own_capW HD HZ).1 (cap := 16) (own_capW HD HZ).2 (by decide) (by decide) (by decide)
  obtain ⟨b32, g32⟩ : ∃ z, z = h15.size := ⟨_, rfl⟩
  rw [← g32] at A32 st'
  have g_b32 : n0 ≤ b32 := Nat.le_trans SZ15 (Nat.le_of_eq g32.symm)
  have Uv : a0 ≠ b32 := Nat.ne_of_lt (Nat.lt_of_lt_of_le f17.lt (Nat.le_of_eq g32.symm))
  have sz_b32 : h0.size ≤ b32 := Nat.le_trans KP15.1 (Nat.le_of_eq g32.symm)
  have KP32 := KP15.ext E32
  have SZ32 : n0 ≤ h32.size := Nat.le_trans SZ15 E32.1
  have f33 := f17.ext E32
  have f34 := f18.ext E32
  have f35 := f19.ext E32
  have f36 := f20.ext E32
  have f37 := f16.ext E32
  have f38 := f21.ext E32
  have f39 := f22.ext E32
  have f40 := f23.ext E32
  have f41 := f24.ext E32
  have f42 := f25.ext E32
  have f43 := f26.ext E32
  have f44 := f27.ext E32
  have f45 : own_Ar Z h32 b32 .int (siz * w) := own_arNew A32 (own_capW HD HZ).1 rfl
  refine op T32 (mkF m 42 #[rv a0] [(.ref b32), (.ref a0)]) (fun _ k => st' _ k) ?_
  obtain ⟨T46, h46, X46, e46, W46, st'⟩ := putF X32 hx hZ hown (host := "") (Or.inl (ow hw 29 rfl)) Via.refl e32 f39 f33 (Or.inl (ow hw 30 rfl)) (ow hw 19 rfl) (ty := (.array .int)) (by decide) rfl rfl (g := (mkF m 42 #[rv a0] [(.ref b32), (.ref a0)])) rfl rfl (hb hby d18_42)
  have f47 := f39.same W46
  have f48 := f33.wr W46
  have f49 := f34.other W46 (Or.inr (sn124 hw))
  have f50 := f35.other W46 (Or.inr (sn125 hw))
  have f51 := f36.other W46 (Or.inr (sn126 hw))
  have f52 := f37.other W46 (Or.inr (sn127 hw))
  have f53 := f38.other W46 (Or.inr (sn128 hw))
  have f54 := f40.other W46 (Or.inr (sn120 hw))
  have f55 := f41.other W46 (Or.inr (sn121 hw))
  have f56 := f42.other W46 (Or.inr (sn122 hw))
  have f57 := f43.other W46 (Or.inr (sn129 hw))
  have f58 := f44.other W46 (Or.inr (sn123 hw))
  have f59 := f45.other W46 (Ne.symm Uv)
  have NF46 := Fr.snoc X46 NF15 G0
  have SZ46 : n0 ≤ h46.size := (Nat.le_trans SZ32 (Keep.of_wr W46).1)
  have KP46 : Keep h0 h46 [a0] := KP32.wr W46 (Or.inl (List.mem_of_getElem? (i := 0) rfl))
  refine op T46 (mkF m 47 #[rv a0] [(.ref a0), (.ref a0)]) (fun _ k => st' _ (XS.aloadN X46.here hx rfl (hb hby d18_45) rfl rfl (XS.aloadN X46.here hx rfl (hb hby d18_46) rfl rfl k))) ?_
  obtain ⟨T60, X60, e60, st'⟩ := getF X46 hx hZ hown (host := "") (Or.inl (ow hw 124 rfl)) Via.refl e46 f51 (g := (mkF m 47 #[rv a0] [(.ref a0), (.ref a0)])) rfl rfl (hb hby d18_47)
  refine op T60 (mkF m 51 #[rv a0] [(.ref a0), (.int siz), (.ref a0)]) (fun _ k => st' _ (XS.aloadN X60.here hx rfl (hb hby d18_50) rfl rfl k)) ?_
  obtain ⟨T61, X61, e61, st'⟩ := getF X60 hx hZ hown (host := "") (Or.inl (ow hw 38 rfl)) Via.refl e60 f57 (g := (mkF m 51 #[rv a0] [(.ref a0), (.int siz), (.ref a0)])) rfl rfl (hb hby d18_51)
  refine op T61 (mkF m 55 #[rv a0] [(.int (siz * w)), (.ref a0)]) (fun _ k => st' _ (XS.imul X61.here hx rfl (hb hby d18_54) rfl k)) ?_
  obtain ⟨T62, h62, k62, X62, e62, E62, A62, st'⟩ := newP X61 hx hZ (ow hw 16 rfl) e61 (g := (mkF m 55 #[rv a0] [(.int (siz * w)), (.ref a0)])) rfl (hb hby d18_55) rfl (own_capW HD HZ).1 (cap := 16) (own_capW HD HZ).2 (by decide) (by decide) (by decide)
  obtain ⟨b62, g62⟩ : ∃ z, z = h46.size := ⟨_, rfl⟩
  rw [← g62] at A62 st'
  have g_b62 : n0 ≤ b62 := Nat.le_trans SZ46 (Nat.le_of_eq g62.symm)
  have G0h : a0 ≠ b62 := Nat.ne_of_lt (Nat.lt_of_lt_of_le f48.lt (Nat.le_of_eq g62.symm))
  have ne_b32_b62 : b32 ≠ b62 := Nat.ne_of_lt (Nat.lt_of_lt_of_le f59.lt (Nat.le_of_eq g62.symm))
  have sz_b62 : h0.size ≤ b62 := Nat.le_trans KP46.1 (Nat.le_of_eq g62.symm)
  have KP62 := KP46.ext E62
  have SZ62 : n0 ≤ h62.size := Nat.le_trans SZ46 E62.1
  have f63 := f48.ext E62
  have f64 := f49.ext E62
  have f65 := f50.ext E62
  have f66 := f51.ext E62
  have f67 := f52.ext E62
  have f68 := f53.ext E62
  have f69 := f47.ext E62
  have f70 := f54.ext E62
  have f71 := f55.ext E62
  have f72 := f56.ext E62
  have f73 := f57.ext E62
  have f74 := f58.ext E62
  have f75 := f59.ext E62
  have f76 : own_Ar Z h62 b62 .int (siz * w) := own_arNew A62 (own_capW HD HZ).1 rfl
  refine op T62 (mkF m 57 #[rv a0] [(.ref b62), (.ref a0)]) (fun _ k => st' _ k) ?_
  obtain ⟨T77, h77, X77, e77, W77, st'⟩ := putF X62 hx hZ hown (host := "") (Or.inl (ow hw 31 rfl)) Via.refl e62 f70 f63 (Or.inl (ow hw 32 rfl)) (ow hw 19 rfl) (ty := (.array .int)) (by decide) rfl rfl (g := (mkF m 57 #[rv a0] [(.ref b62), (.ref a0)])) rfl rfl (hb hby d18_57)
  have f78 := f70.same W77
  have f79 := f63.wr W77
  have f80 := f64.other W77 (Or.inr (sn134 hw))
  have f81 := f65.other W77 (Or.inr (sn135 hw))
  have f82 := f66.other W77 (Or.inr (sn136 hw))
  have f83 := f67.other W77 (Or.inr (sn137 hw))
  have f84 := f68.other W77 (Or.inr (sn138 hw))
  have f85 := f69.other W77 (Or.inr (sn130 hw))
  have f86 := f71.other W77 (Or.inr (sn131 hw))
  have f87 := f72.other W77 (Or.inr (sn132 hw))
  have f88 := f73.other W77 (Or.inr (sn139 hw))
  have f89 := f74.other W77 (Or.inr (sn133 hw))
  have f90 := f75.other W77 (Ne.symm Uv)
  have f91 := f76.other W77 (Ne.symm G0h)
  have NF77 := Fr.snoc X77 NF46 G0
  have SZ77 : n0 ≤ h77.size := (Nat.le_trans SZ62 (Keep.of_wr W77).1)
  have KP77 : Keep h0 h77 [a0] := KP62.wr W77 (Or.inl (List.mem_of_getElem? (i := 0) rfl))
  refine op T77 (mkF m 62 #[rv a0] [(.ref a0), (.ref a0)]) (fun _ k => st' _ (XS.aloadN X77.here hx rfl (hb hby d18_60) rfl rfl (XS.aloadN X77.here hx rfl (hb hby d18_61) rfl rfl k))) ?_
  obtain ⟨T92, X92, e92, st'⟩ := getF X77 hx hZ hown (host := "") (Or.inl (ow hw 124 rfl)) Via.refl e77 f82 (g := (mkF m 62 #[rv a0] [(.ref a0), (.ref a0)])) rfl rfl (hb hby d18_62)
  refine op T92 (mkF m 65 #[rv a0] [(.int siz), (.ref a0)]) (fun _ k => st' _ k) ?_
  obtain ⟨T93, h93, k93, X93, e93, E93, A93, st'⟩ := newP X92 hx hZ (ow hw 33 rfl) e92 (g := (mkF m 65 #[rv a0] [(.int siz), (.ref a0)])) rfl (hb hby d18_65) rfl (own_capx ⟨HZ.1, by omega⟩).1 (cap := 8) (own_capx ⟨HZ.1, by omega⟩).2 (by decide) (by decide) (by decide)
  obtain ⟨b93, g93⟩ : ∃ z, z = h77.size := ⟨_, rfl⟩
  rw [← g93] at A93 st'
  have g_b93 : n0 ≤ b93 := Nat.le_trans SZ77 (Nat.le_of_eq g93.symm)
  have ne_a0_b93 : a0 ≠ b93 := Nat.ne_of_lt (Nat.lt_of_lt_of_le f79.lt (Nat.le_of_eq g93.symm))
  have ne_b32_b93 : b32 ≠ b93 := Nat.ne_of_lt (Nat.lt_of_lt_of_le f90.lt (Nat.le_of_eq g93.symm))
  have ne_b62_b93 : b62 ≠ b93 := Nat.ne_of_lt (Nat.lt_of_lt_of_le f91.lt (Nat.le_of_eq g93.symm))
  have sz_b93 : h0.size ≤ b93 := Nat.le_trans KP77.1 (Nat.le_of_eq g93.symm)
  have KP93 := KP77.ext E93
  have SZ93 : n0 ≤ h93.size := Nat.le_trans SZ77 E93.1
  have f94 := f79.ext E93
  have f95 := f80.ext E93
  have f96 := f81.ext E93
  have f97 := f82.ext E93
  have f98 := f83.ext E93
  have f99 := f84.ext E93
  have f100 := f85.ext E93
  have f101 := f78.ext E93
  have f102 := f86.ext E93
  have f103 := f87.ext E93
  have f104 := f88.ext E93
  have f105 := f89.ext E93
  have f106 := f90.ext E93
  have f107 := f91.ext E93
  have f108 : own_Ar Z h93 b93 .char siz := own_arNew A93 (own_capx ⟨HZ.1, by omega⟩).1 rfl
  refine op T93 (mkF m 67 #[rv a0] [(.ref b93), (.ref a0)]) (fun _ k => st' _ k) ?_
  obtain ⟨T109, h109, X109, e109, W109, st'⟩ := putF X93 hx hZ hown (host := "") (Or.inl (ow hw 34 rfl)) Via.refl e93 f102 f94 (Or.inl (ow hw 35 rfl)) (ow hw 19 rfl) (ty := (.array .char)) (by decide) rfl rfl (g := (mkF m 67 #[rv a0] [(.ref b93), (.ref a0)])) rfl rfl (hb hby d18_67)
  have f110 := f102.same W109
  have f111 := f94.wr W109
  have f112 := f95.other W109 (Or.inr (sn144 hw))
  have f113 := f96.other W109 (Or.inr (sn145 hw))
  have f114 := f97.other W109 (Or.inr (sn146 hw))
  have f115 := f98.other W109 (Or.inr (sn147 hw))
  have f116 := f99.other W109 (Or.inr (sn148 hw))
  have f117 := f100.other W109 (Or.inr (sn140 hw))
  have f118 := f101.other W109 (Or.inr (sn141 hw))
  have f119 := f103.other W109 (Or.inr (sn142 hw))
  have f120 := f104.other W109 (Or.inr (sn149 hw))
  have f121 := f105.other W109 (Or.inr (sn143 hw))
  have f122 := f106.other W109 (Ne.symm Uv)
  have f123 := f107.other W109 (Ne.symm G0h)
  have f124 := f108.other W109 (Ne.symm ne_a0_b93)
  have NF109 := Fr.snoc X109 NF77 G0
  have SZ109 : n0 ≤ h109.size := (Nat.le_trans SZ93 (Keep.of_wr W109).1)
  have KP109 : Keep h0 h109 [a0] := KP93.wr W109 (Or.inl (List.mem_of_getElem? (i := 0) rfl))
  refine op T109 (mkF m 72 #[rv a0] [(.ref a0), (.ref a0)]) (fun _ k => st' _ (XS.aloadN X109.here hx rfl (hb hby d18_70) rfl rfl (XS.aloadN X109.here hx rfl (hb hby d18_71) rfl rfl k))) ?_
  obtain ⟨T125, X125, e125, st'⟩ := getF X109 hx hZ hown (host := "") (Or.inl (ow hw 124 rfl)) Via.refl e109 f114 (g := (mkF m 72 #[rv a0] [(.ref a0), (.ref a0)])) rfl rfl (hb hby d18_72)
  refine op T125 (mkF m 75 #[rv a0] [(.int siz), (.ref a0)]) (fun _ k => st' _ k) ?_
  obtain ⟨T126, h126, k126, X126, e126, E126, A126, st'⟩ := newP X125 hx hZ (ow hw 16 rfl) e125 (g := (mkF m 75 #[rv a0] [(.int siz), (.ref a0)])) rfl (hb hby d18_75) rfl (own_capx ⟨HZ.1, by omega⟩).1 (cap := 8) (own_capx ⟨HZ.1, by omega⟩).2 (by decide) (by decide) (by decide)
  obtain ⟨b126, g126⟩ : ∃ z, z = h109.size := ⟨_, rfl⟩
  rw [← g126] at A126 st'
  have g_b126 : n0 ≤ b126 := Nat.le_trans SZ109 (Nat.le_of_eq g126.symm)
  have ne_a0_b126 : a0 ≠ b126 := Nat.ne_of_lt (Nat.lt_of_lt_of_le f111.lt (Nat.le_of_eq g126.symm))
  have ne_b32_b126 : b32 ≠ b126 := Nat.ne_of_lt (Nat.lt_of_lt_of_le f122.lt (Nat.le_of_eq g126.symm))
  have ne_b62_b126 : b62 ≠ b126 := Nat.ne_of_lt (Nat.lt_of_lt_of_le f123.lt (Nat.le_of_eq g126.symm))
  have ne_b93_b126 : b93 ≠ b126 := Nat.ne_of_lt (Nat.lt_of_lt_of_le f124.lt (Nat.le_of_eq g126.symm))
  have sz_b126 : h0.size ≤ b126 := Nat.le_trans KP109.1 (Nat.le_of_eq g126.symm)
  have KP126 := KP109.ext E126
  have SZ126 : n0 ≤ h126.size := Nat.le_trans SZ109 E126.1
  have f127 := f111.ext E126
  have f128 := f112.ext E126
  have f129 := f113.ext E126
  have f130 := f114.ext E126
  have f131 := f115.ext E126
  have f132 := f116.ext E126
  have f133 := f117.ext E126
  have f134 := f118.ext E126
  have f135 := f110.ext E126
  have f136 := f119.ext E126
  have f137 := f120.ext E126
  have f138 := f121.ext E126
  have f139 := f122.ext E126
  have f140 := f123.ext E126
  have f141 := f124.ext E126
  have f142 : own_Ar Z h126 b126 .int siz := own_arNew A126 (own_capx ⟨HZ.1, by omega⟩).1 rfl
  refine op T126 (mkF m 77 #[rv a0] [(.ref b126), (.ref a0)]) (fun _ k => st' _ k) ?_
  obtain ⟨T143, h143, X143, e143, W143, st'⟩ := putF X126 hx hZ hown (host := "") (Or.inl (ow hw 36 rfl)) Via.refl e126 f136 f127 (Or.inl (ow hw 37 rfl)) (ow hw 19 rfl) (ty := (.array .int)) (by decide) rfl rfl (g := (mkF m 77 #[rv a0] [(.ref b126), (.ref a0)])) rfl rfl (hb hby d18_77)
  have f144 := f136.same W143
  have f145 := f127.wr W143
  have f146 := f128.other W143 (Or.inr (sn154 hw))
  have f147 := f129.other W143 (Or.inr (sn155 hw))
  have f148 := f130.other W143 (Or.inr (sn156 hw))
  have f149 := f131.other W143 (Or.inr (sn157 hw))
  have f150 := f132.other W143 (Or.inr (sn158 hw))
  have f151 := f133.other W143 (Or.inr (sn150 hw))
  have f152 := f134.other W143 (Or.inr (sn151 hw))
  have f153 := f135.other W143 (Or.inr (sn152 hw))
  have f154 := f137.other W143 (Or.inr (sn159 hw))
  have f155 := f138.other W143 (Or.inr (sn153 hw))
  have f156 := f139.other W143 (Ne.symm Uv)
  have f157 := f140.other W143 (Ne.symm G0h)
  have f158 := f141.other W143 (Ne.symm ne_a0_b93)
  have f159 := f142.other W143 (Ne.symm ne_a0_b126)
  have NF143 := Fr.snoc X143 NF109 G0
  have SZ143 : n0 ≤ h143.size := (Nat.le_trans SZ126 (Keep.of_wr W143).1)
  have KP143 : Keep h0 h143 [a0] := KP126.wr W143 (Or.inl (List.mem_of_getElem? (i := 0) rfl))
  refine op T143 (mkF m 82 #[rv a0] [(.int 1), (.ref a0)]) (fun _ k => st' _ (XS.aloadN X143.here hx rfl (hb hby d18_80) rfl rfl (XS.iconst X143.here hx rfl (hb hby d18_81) k))) ?_
  obtain ⟨T160, h160, X160, e160, W160, st'⟩ := putFN X143 hx hZ hown (ow hw 117 rfl) Via.refl e143 f147 f145 (Or.inl (ow hw 118 rfl)) (ow hw 19 rfl) (ty := .boolean) (v' := (.int 1)) (by decide) rfl (by decide) (g := (mkF m 82 #[rv a0] [(.int 1), (.ref a0)])) rfl rfl (hb hby d18_82)
  have f161 := f147.same W160
  have f162 := f145.wr W160
  have f163 := f146.other W160 (Or.inr (sn210 hw))
  have f164 := f148.other W160 (Or.inr (sn211 hw))
  have f165 := f149.other W160 (Or.inr (sn212 hw))
  have f166 := f150.other W160 (Or.inr (sn213 hw))
  have f167 := f151.other W160 (Or.inr (sn214 hw))
  have f168 := f152.other W160 (Or.inr (sn215 hw))
  have f169 := f153.other W160 (Or.inr (sn216 hw))
  have f170 := f144.other W160 (Or.inr (sn217 hw))
  have f171 := f154.other W160 (Or.inr (sn218 hw))
  have f172 := f155.other W160 (Or.inr (sn219 hw))
  have f173 := f156.other W160 (Ne.symm Uv)
  have f174 := f157.other W160 (Ne.symm G0h)
  have f175 := f158.other W160 (Ne.symm ne_a0_b93)
  have f176 := f159.other W160 (Ne.symm ne_a0_b126)
  have NF160 := Fr.snoc X160 NF143 G0
  have SZ160 : n0 ≤ h160.size := (Nat.le_trans SZ143 (Keep.of_wr W160).1)
  have KP160 : Keep h0 h160 [a0] := KP143.wr W160 (Or.inl (List.mem_of_getElem? (i := 0) rfl))
  refine op T160 (mkF m 85 #[rv a0] []) (fun _ k => st' _ k) ?_
  exact own_retV X160 hx Bd.notSynchronized Bd.returns (hb hby d18_85) (by rw [e160]; exact ⟨b32, b62, b93, b126, NF160, KP160, sz_b32, sz_b62, sz_b93, sz_b126, ne_b32_b62, ne_b32_b93, ne_b62_b93, ne_b32_b126, ne_b62_b126, ne_b93_b126, f162, f163, f161, f164, f165, f166, f167, f168, f169, f170, f171, f172, f173, f174, f175, f176⟩) (by decide) (by decide)
theorem ef_bo (m : MethodId) (a0 : Addr) : entryFrame m #[(.ref a0)] 1 = mkF m 0 #[rv a0] [] := by first | (simp [entryFrame, mkF, argsToLocals, Value.category]; done) | rfl
set_option maxRecDepth 65536 in
set_option maxHeartbeats 40000000 in
theorem rmbo (l : Launch) (Z : State) (aw : Array Value) (hw : HW aw Z) (ws : List Jvm.Cond) (alc cnt siz dif w : Int32) (a0 bS bE bC bL sg : Addr) (h0 : Heap) (n0 : Nat) (SZ0 : n0 ≤ h0.size) (Ga : Exa Z h0 a0 cB) (Hz : Fld Z h0 a0 cB "inOrder" "Z" (.int 0)) (Ja : Fld Z h0 a0 cB "allocated" "Z" (.int alc)) (J0 : Fld Z h0 a0 cB "counted" "I" (.int cnt)) (Gc : Fld Z h0 a0 cB "size" "I" (.int siz)) (J6 : Fld Z h0 a0 cB "differs" "Z" (.int dif)) (Gk : Fld Z h0 a0 cB "starts" "[I" (.ref bS)) (J8 : Fld Z h0 a0 cB "ends" "[I" (.ref bE)) (Gg : Fld Z h0 a0 cB "countries" "[C" (.ref bC)) (J9 : Fld Z h0 a0 cB "lineNumbers" "[I" (.ref bL)) (Gb : Fld Z h0 a0 cB "width" "I" (.int w)) (J1 : Fld Z h0 a0 cB "segments" dS (.ref sg)) (HZ : 0 ≤ siz.toInt ∧ siz.toInt ≤ 3) (HD : w = 1 ∨ w = 4) (G0 : n0 ≤ a0) :
    MetFree l y14 (head1 (Jvm.Cond.code y14 Hp 1 none :: ws) Qbo) (fun a U => a = #[(.ref a0)] ∧ Z.Warmed39 U.vm ∧ U.heap = h0) (fun _ _ _ _ _ => True) (fun _ U o U' => ∃ v L, o = .returned v ∧ own_Q (Rbo (fbo_0 alc cnt siz dif w)) (Kbo Z alc cnt siz dif w a0 bS bE bC bL sg h0 n0 (fbo_0 alc cnt siz dif w)) v U'.heap L ∧ FrameEnd U o U' L Qbo.cells Qbo.slots) := by
  refine MetFree.of_bodySF (plainFor_of_name own_pn3) hisR ?_
  intro p e s m args below meth c s₁ Bd hml0 hP hK
  obtain ⟨rfl, hZ, hh⟩ := hP
  have hml : c.maxLocals = 1 := hml0
  have e0 : s₁.heap = h0 := by rw [← hh, Bd.state]; rfl
  exact own_pre (fun t k => castTop (ef_bo m a0) k) (gbo_0 hw alc cnt siz dif w a0 bS bE bC bL sg HZ HD Bd hml hZ G0 s₁ (Stand.of_body Bd) e0 SZ0 (Fr.nil n0) (Keep.refl _ _) Ga Hz Ja J0 Gc J6 Gk J8 Gg J9 Gb J1)
abbrev Qka : Room := { frames := 3, cells := 0, slots := 0, locals := 64 }
theorem own_pd8 : parseMethodDescriptor "()Z" = some ⟨[], some .boolean⟩ := by decide +kernel
/-! body 19, ka -/
theorem d19_0 : De Md 0 (.aload_n 0) 1 := by decide +kernel
theorem d19_1 : De Md 1 (.getfield 60) 3 := by decide +kernel
theorem d19_4 : De Md 4 (.ifCond .ne 35) 3 := by decide +kernel
theorem d19_7 : De Md 7 (.aload_n 0) 1 := by decide +kernel
theorem d19_8 : De Md 8 (.getfield 40) 3 := by decide +kernel
theorem d19_11 : De Md 11 (.aload_n 0) 1 := by decide +kernel
theorem d19_12 : De Md 12 (.getfield 63) 3 := by decide +kernel
theorem d19_15 : De Md 15 (.if_icmp .ne 24) 3 := by decide +kernel
theorem d19_18 : De Md 18 (.aload_n 0) 1 := by decide +kernel
theorem d19_19 : De Md 19 (.getfield 7) 3 := by decide +kernel
theorem d19_22 : De Md 22 (.ifCond .eq 13) 3 := by decide +kernel
theorem d19_25 : De Md 25 (.aload_n 0) 1 := by decide +kernel
theorem d19_26 : De Md 26 (.getfield 36) 3 := by decide +kernel
theorem d19_29 : De Md 29 (.invokevirtual 69) 3 := by decide +kernel
theorem d19_32 : De Md 32 (.ifCond .eq 7) 3 := by decide +kernel
theorem d19_35 : De Md 35 (.iconst 1) 1 := by decide +kernel
theorem d19_36 : De Md 36 (.goto 4) 3 := by decide +kernel
theorem d19_39 : De Md 39 (.iconst 0) 1 := by decide +kernel
theorem d19_40 : De Md 40 (.ireturn) 1 := by decide +kernel
abbrev y15 : MethodName := ⟨cB, "keptAsCounted", "()Z"⟩
def Rka (t : Int32) : Option Value := some (.int t)
def Kka (Z : State) (ino alc cnt siz dif sz rng tsz ful nC nT w t0 t1 t2 t3 : Int32) (a0 sg sS sT sL sC sA bS bE bC bL : Addr) (h0 : Heap) (n0 : Nat) (t : Int32) (h : Heap) (L : List Loc) : Prop := Fr n0 L ∧ Keep h0 h []
def fka_39 (ino alc cnt siz dif sz rng tsz ful nC nT w t0 t1 t2 t3 : Int32) : Int32 := (0 : Int32)
set_option maxRecDepth 65536 in
set_option maxHeartbeats 40000000 in
theorem gka_39 (hw : HW aw Z) {h0 : Heap} {n0 : Nat} (ino alc cnt siz dif sz rng tsz ful nC nT w t0 t1 t2 t3 : Int32) (a0 sg sS sT sL sC sA bS bE bC bL : Addr) (HD : w = 1 ∨ w = 4)
    (Bd : BodyLoose p l y15 (head1 (Jvm.Cond.code y15 Md 1 (some .boolean) :: ws) Qka) Md 1 (some .boolean) e s m #[(.ref a0)] below meth c s₁) (hml : c.maxLocals = 1) (hZ : Z.Warmed39 s.vm) (T0 : State) {locs : List Loc} (X0 : Stand p l e Qka s m #[(.ref a0)] below meth c T0 locs 0 0) {h : Heap} (e0 : T0.heap = h) (SZ0 : n0 ≤ h.size) (NF0 : Fr n0 locs) (KP0 : Keep h0 h []) (Ga : Exa Z h a0 cB) (Hz : Fld Z h a0 cB "inOrder" "Z" (.int ino)) (Ja : Fld Z h a0 cB "allocated" "Z" (.int alc)) (J0 : Fld Z h a0 cB "counted" "I" (.int cnt)) (Gc : Fld Z h a0 cB "size" "I" (.int siz)) (J6 : Fld Z h a0 cB "differs" "Z" (.int dif)) (Gk : Fld Z h a0 cB "starts" "[I" (.ref bS)) (J8 : Fld Z h a0 cB "ends" "[I" (.ref bE)) (Gg : Fld Z h a0 cB "countries" "[C" (.ref bC)) (J9 : Fld Z h a0 cB "lineNumbers" "[I" (.ref bL)) (Gb : Fld Z h a0 cB "width" "I" (.int w)) (J1 : Fld Z h a0 cB "segments" dS (.ref sg)) (J2 : Exa Z h sg cS) (M6 : Fld Z h sg cS "starts" "[I" (.ref sS)) (M0 : Fld Z h sg cS "tailed" "[I" (.ref sT)) (M7 : Fld Z h sg cS "tails" "[I" (.ref sL)) (M1 : Fld Z h sg cS "countries" "[C" (.ref sC)) (Jt : Fld Z h sg cS "width" "I" (.int w)) (M2 : Fld Z h sg cS "head" "I" (.int (own_hd w))) (Ju : Fld Z h sg cS "after" "[I" (.ref sA)) (M3 : Fld Z h sg cS "size" "I" (.int sz)) (Jv : Fld Z h sg cS "ranges" "I" (.int rng)) (M4 : Fld Z h sg cS "tailedSize" "I" (.int tsz)) (Jw : Fld Z h sg cS "full" "Z" (.int ful)) (Gv : own_Ar Z h sC .char nC) (Gx : own_Ar Z h sT .int nT) (Gm : own_G Z h sA w t0 t1 t2 t3) :
    own_Go p e below s Qka.cells Qka.slots (Rka (fka_39 ino alc cnt siz dif sz rng tsz ful nC nT w t0 t1 t2 t3)) (Kka Z ino alc cnt siz dif sz rng tsz ful nC nT w t0 t1 t2 t3 a0 sg sS sT sL sC sA bS bE bC bL h0 n0 (fka_39 ino alc cnt siz dif sz rng tsz ful nC nT w t0 t1 t2 t3)) (T0.setTop (mkF m 39 #[rv a0] [])) := by
  have hx := Bd.exec
  have hby := Bd.bytes
  have hown : s.vm.findClass cB = some m.cls := findClass_of_methodNamed Bd.named
  have hnm := (name_of_methodNamed Bd.named Bd.method).1
  unfold fka_39
  refine op T0 (mkF m 40 #[rv a0] [(.int 0)]) (fun _ k => XS.iconst X0.here hx rfl (hb hby d19_39) k) ?_
  exact own_ret (w := (.int 0)) X0 hx Bd.notSynchronized Bd.returns rfl (Or.inl ⟨rfl, by simp, _, rfl⟩) (hb hby d19_40) (by rw [e0]; exact ⟨NF0, KP0⟩) (by decide) (by decide)
def fka_35 (ino alc cnt siz dif sz rng tsz ful nC nT w t0 t1 t2 t3 : Int32) : Int32 := (1 : Int32)
set_option maxRecDepth 65536 in
set_option maxHeartbeats 40000000 in
theorem gka_35 (hw : HW aw Z) {h0 : Heap} {n0 : Nat} (ino alc cnt siz dif sz rng tsz ful nC nT w t0 t1 t2 t3 : Int32) (a0 sg sS sT sL sC sA bS bE bC bL : Addr) (HD : w = 1 ∨ w = 4)
    (Bd : BodyLoose p l y15 (head1 (Jvm.Cond.code y15 Md 1 (some .boolean) :: ws) Qka) Md 1 (some .boolean) e s m #[(.ref a0)] below meth c s₁) (hml : c.maxLocals = 1) (hZ : Z.Warmed39 s.vm) (T0 : State) {locs : List Loc} (X0 : Stand p l e Qka s m #[(.ref a0)] below meth c T0 locs 0 0) {h : Heap} (e0 : T0.heap = h) (SZ0 : n0 ≤ h.size) (NF0 : Fr n0 locs) (KP0 : Keep h0 h []) (Ga : Exa Z h a0 cB) (Hz : Fld Z h a0 cB "inOrder" "Z" (.int ino)) (Ja : Fld Z h a0 cB "allocated" "Z" (.int alc)) (J0 : Fld Z h a0 cB "counted" "I" (.int cnt)) (Gc : Fld Z h a0 cB "size" "I" (.int siz)) (J6 : Fld Z h a0 cB "differs" "Z" (.int dif)) (Gk : Fld Z h a0 cB "starts" "[I" (.ref bS)) (J8 : Fld Z h a0 cB "ends" "[I" (.ref bE)) (Gg : Fld Z h a0 cB "countries" "[C" (.ref bC)) (J9 : Fld Z h a0 cB "lineNumbers" "[I" (.ref bL)) (Gb : Fld Z h a0 cB "width" "I" (.int w)) (J1 : Fld Z h a0 cB "segments" dS (.ref sg)) (J2 : Exa Z h sg cS) (M6 : Fld Z h sg cS "starts" "[I" (.ref sS)) (M0 : Fld Z h sg cS "tailed" "[I" (.ref sT)) (M7 : Fld Z h sg cS "tails" "[I" (.ref sL)) (M1 : Fld Z h sg cS "countries" "[C" (.ref sC)) (Jt : Fld Z h sg cS "width" "I" (.int w)) (M2 : Fld Z h sg cS "head" "I" (.int (own_hd w))) (Ju : Fld Z h sg cS "after" "[I" (.ref sA)) (M3 : Fld Z h sg cS "size" "I" (.int sz)) (Jv : Fld Z h sg cS "ranges" "I" (.int rng)) (M4 : Fld Z h sg cS "tailedSize" "I" (.int tsz)) (Jw : Fld Z h sg cS "full" "Z" (.int ful)) (Gv : own_Ar Z h sC .char nC) (Gx : own_Ar Z h sT .int nT) (Gm : own_G Z h sA w t0 t1 t2 t3) :
    own_Go p e below s Qka.cells Qka.slots (Rka (fka_35 ino alc cnt siz dif sz rng tsz ful nC nT w t0 t1 t2 t3)) (Kka Z ino alc cnt siz dif sz rng tsz ful nC nT w t0 t1 t2 t3 a0 sg sS sT sL sC sA bS bE bC bL h0 n0 (fka_35 ino alc cnt siz dif sz rng tsz ful nC nT w t0 t1 t2 t3)) (T0.setTop (mkF m 35 #[rv a0] [])) := by
  have hx := Bd.exec
  have hby := Bd.bytes
  have hown : s.vm.findClass cB = some m.cls := findClass_of_methodNamed Bd.named
  have hnm := (name_of_methodNamed Bd.named Bd.method).1
  unfold fka_35
  refine op T0 (mkF m 40 #[rv a0] [(.int 1)]) (fun _ k => XS.iconst X0.here hx rfl (hb hby d19_35) (XS.goto X0.here hx rfl (pc0 := 36) (pc' := 40) rfl (hb hby d19_36) (by decide) (by decide) k)) ?_
  exact own_ret (w := (.int 1)) X0 hx Bd.notSynchronized Bd.returns rfl (Or.inl ⟨rfl, by simp, _, rfl⟩) (hb hby d19_40) (by rw [e0]; exact ⟨NF0, KP0⟩) (by decide) (by decide)
def fka_0 (ino alc cnt siz dif sz rng tsz ful nC nT w t0 t1 t2 t3 : Int32) : Int32 := (if dif = (0 : Int32) then (if siz = cnt then (if ino = (0 : Int32) then (fka_35 ino alc cnt siz dif sz rng tsz ful nC nT w t0 t1 t2 t3) else (if (fac_0 sz rng tsz ful nC nT w t0 t1 t2 t3) = (0 : Int32) then (fka_39 ino alc cnt siz dif sz rng tsz ful nC nT w t0 t1 t2 t3) else (fka_35 ino alc cnt siz dif sz rng tsz ful nC nT w t0 t1 t2 t3))) else (fka_39 ino alc cnt siz dif sz rng tsz ful nC nT w t0 t1 t2 t3)) else (fka_39 ino alc cnt siz dif sz rng tsz ful nC nT w t0 t1 t2 t3))
set_option maxRecDepth 65536 in
set_option maxHeartbeats 40000000 in
theorem gka_0 (hw : HW aw Z) {h0 : Heap} {n0 : Nat} (ino alc cnt siz dif sz rng tsz ful nC nT w t0 t1 t2 t3 : Int32) (a0 sg sS sT sL sC sA bS bE bC bL : Addr) (HD : w = 1 ∨ w = 4)
    (Bd : BodyLoose p l y15 (head1 (Jvm.Cond.code y15 Md 1 (some .boolean) :: ws) Qka) Md 1 (some .boolean) e s m #[(.ref a0)] below meth c s₁) (hml : c.maxLocals = 1) (hZ : Z.Warmed39 s.vm) (T0 : State) {locs : List Loc} (X0 : Stand p l e Qka s m #[(.ref a0)] below meth c T0 locs 0 0) (e0 : T0.heap = h0) (SZ0 : n0 ≤ h0.size) (NF0 : Fr n0 locs) (KP0 : Keep h0 h0 []) (Ga : Exa Z h0 a0 cB) (Hz : Fld Z h0 a0 cB "inOrder" "Z" (.int ino)) (Ja : Fld Z h0 a0 cB "allocated" "Z" (.int alc)) (J0 : Fld Z h0 a0 cB "counted" "I" (.int cnt)) (Gc : Fld Z h0 a0 cB "size" "I" (.int siz)) (J6 : Fld Z h0 a0 cB "differs" "Z" (.int dif)) (Gk : Fld Z h0 a0 cB "starts" "[I" (.ref bS)) (J8 : Fld Z h0 a0 cB "ends" "[I" (.ref bE)) (Gg : Fld Z h0 a0 cB "countries" "[C" (.ref bC)) (J9 : Fld Z h0 a0 cB "lineNumbers" "[I" (.ref bL)) (Gb : Fld Z h0 a0 cB "width" "I" (.int w)) (J1 : Fld Z h0 a0 cB "segments" dS (.ref sg)) (J2 : Exa Z h0 sg cS) (M6 : Fld Z h0 sg cS "starts" "[I" (.ref sS)) (M0 : Fld Z h0 sg cS "tailed" "[I" (.ref sT)) (M7 : Fld Z h0 sg cS "tails" "[I" (.ref sL)) (M1 : Fld Z h0 sg cS "countries" "[C" (.ref sC)) (Jt : Fld Z h0 sg cS "width" "I" (.int w)) (M2 : Fld Z h0 sg cS "head" "I" (.int (own_hd w))) (Ju : Fld Z h0 sg cS "after" "[I" (.ref sA)) (M3 : Fld Z h0 sg cS "size" "I" (.int sz)) (Jv : Fld Z h0 sg cS "ranges" "I" (.int rng)) (M4 : Fld Z h0 sg cS "tailedSize" "I" (.int tsz)) (Jw : Fld Z h0 sg cS "full" "Z" (.int ful)) (Gv : own_Ar Z h0 sC .char nC) (Gx : own_Ar Z h0 sT .int nT) (Gm : own_G Z h0 sA w t0 t1 t2 t3) :
    own_Go p e below s Qka.cells Qka.slots (Rka (fka_0 ino alc cnt siz dif sz rng tsz ful nC nT w t0 t1 t2 t3)) (Kka Z ino alc cnt siz dif sz rng tsz ful nC nT w t0 t1 t2 t3 a0 sg sS sT sL sC sA bS bE bC bL h0 n0 (fka_0 ino alc cnt siz dif sz rng tsz ful nC nT w t0 t1 t2 t3)) (T0.setTop (mkF m 0 #[rv a0] [])) := by
  have hx := Bd.exec
  have hby := Bd.bytes
  have hown : s.vm.findClass cB = some m.cls := findClass_of_methodNamed Bd.named
  have hnm := (name_of_methodNamed Bd.named Bd.method).1
  unfold fka_0
  refine op T0 (mkF m 1 #[rv a0] [(.ref a0)]) (fun _ k => XS.aloadN X0.here hx rfl (hb hby d19_0) rfl rfl k) ?_
  obtain ⟨T1, X1, e1, st'⟩ := getF X0 hx hZ hown (host := "") (Or.inl (ow hw 131 rfl)) Via.refl e0 J6 (g := (mkF m 1 #[rv a0] [(.ref a0)])) rfl rfl (hb hby d19_1)
  refine op T1 (mkF m 4 #[rv a0] [(.int dif)]) (fun _ k => st' _ k) ?_
  refine own_iteT Rka (Kka Z ino alc cnt siz dif sz rng tsz ful nC nT w t0 t1 t2 t3 a0 sg sS sT sL sC sA bS bE bC bL h0 n0) (fun hc4 => ?_) (fun hc4 => ?_)
  · skip
    refine op T1 (mkF m 8 #[rv a0] [(.ref a0)]) (fun _ k => XS.ifNo X1.here hx rfl (hb hby d19_4) rfl ((if0 _ _).trans (teq hc4).2) (XS.aloadN X1.here hx rfl (hb hby d19_7) rfl rfl k)) ?_
    obtain ⟨T2, X2, e2, st'⟩ := getF X1 hx hZ hown (host := "") (Or.inl (ow hw 103 rfl)) Via.refl e1 Gc (g := (mkF m 8 #[rv a0] [(.ref a0)])) rfl rfl (hb hby d19_8)
    refine op T2 (mkF m 12 #[rv a0] [(.ref a0), (.int siz)]) (fun _ k => st' _ (XS.aloadN X2.here hx rfl (hb hby d19_11) rfl rfl k)) ?_
    obtain ⟨T3, X3, e3, st'⟩ := getF X2 hx hZ hown (host := "") (Or.inl (ow hw 124 rfl)) Via.refl e2 J0 (g := (mkF m 12 #[rv a0] [(.ref a0), (.int siz)])) rfl rfl (hb hby d19_12)
    refine op T3 (mkF m 15 #[rv a0] [(.int cnt), (.int siz)]) (fun _ k => st' _ k) ?_
    refine own_iteT Rka (Kka Z ino alc cnt siz dif sz rng tsz ful nC nT w t0 t1 t2 t3 a0 sg sS sT sL sC sA bS bE bC bL h0 n0) (fun hc15 => ?_) (fun hc15 => ?_)
    · skip
      refine op T3 (mkF m 19 #[rv a0] [(.ref a0)]) (fun _ k => XS.icmpNo X3.here hx rfl (hb hby d19_15) rfl (teq hc15).2 (XS.aloadN X3.here hx rfl (hb hby d19_18) rfl rfl k)) ?_
      obtain ⟨T4, X4, e4, st'⟩ := getF X3 hx hZ hown (host := "") (Or.inl (ow hw 27 rfl)) Via.refl e3 Hz (g := (mkF m 19 #[rv a0] [(.ref a0)])) rfl rfl (hb hby d19_19)
      refine op T4 (mkF m 22 #[rv a0] [(.int ino)]) (fun _ k => st' _ k) ?_
      refine own_iteT Rka (Kka Z ino alc cnt siz dif sz rng tsz ful nC nT w t0 t1 t2 t3 a0 sg sS sT sL sC sA bS bE bC bL h0 n0) (fun hc22 => ?_) (fun hc22 => ?_)
      · skip
        refine op T4 (mkF m 35 #[rv a0] []) (fun _ k => XS.ifYes X4.here hx rfl (pc0 := 22) (pc' := 35) rfl (hb hby d19_22) rfl ((if0 _ _).trans (teq hc22).1) (by decide) (by decide) k) ?_
        exact gka_35 hw ino alc cnt siz dif sz rng tsz ful nC nT w t0 t1 t2 t3 a0 sg sS sT sL sC sA bS bE bC bL HD Bd hml hZ T4 X4 e4 SZ0 NF0 KP0 Ga Hz Ja J0 Gc J6 Gk J8 Gg J9 Gb J1 J2 M6 M0 M7 M1 Jt M2 Ju M3 Jv M4 Jw Gv Gx Gm
      · skip
        refine op T4 (mkF m 26 #[rv a0] [(.ref a0)]) (fun _ k => XS.ifNo X4.here hx rfl (hb hby d19_22) rfl ((if0 _ _).trans (feq hc22).1) (XS.aloadN X4.here hx rfl (hb hby d19_25) rfl rfl k)) ?_
        obtain ⟨T5, X5, e5, st'⟩ := getF X4 hx hZ hown (host := "") (Or.inl (ow hw 65 rfl)) Via.refl e4 J1 (g := (mkF m 26 #[rv a0] [(.ref a0)])) rfl rfl (hb hby d19_26)
        refine op T5 (mkF m 29 #[rv a0] [(.ref sg)]) (fun _ k => st' _ k) ?_
        obtain ⟨cq6, kq6, qa6, qb6, qc6⟩ := isOf hZ e5 J2
        obtain ⟨_, _, ⟨T6, L6, k6, n6⟩, -, X6', ⟨Lc6, hQ6, l6, y6, z6⟩, st'⟩ := X5.virtualBack hx (y := y8) (z := y8) hown (mvT hZ (ow hw 148 rfl)) (mvT hZ (ow hw 149 rfl)) (notFace_of_selects (args := #[]) (mvT hZ (ow hw 151 rfl))) (mvT hZ (ow hw 151 rfl)) (mvT hZ (ow hw 150 rfl)) (by decide) (backOf (W := 0) (rmac l Z aw hw [] sz rng tsz ful nC nT w t0 t1 t2 t3 sg sC sT sA h0 n0 SZ0 J2 Jv Jw Ju Jt M2 Gm M3 M1 M4 M0 Gv Gx HD) hZ (ow hw 152 rfl) (ow hw 42 rfl) (by decide) (by decide)) qa6 qc6 (g := (mkF m 29 #[rv a0] [(.ref sg)])) rfl (by rw [hml]; rfl) (Steps.refl _) (argsL := []) (rest := []) (lenOf own_pd8 rfl) rfl (by show 2 * 0 + _ ≤ _; exact Nat.le_of_eq rfl) (hb hby d19_29) (fun _ _ => ⟨rfl, e5, (by decide : 0 + 0 ≤ _), (by decide : 0 + 0 ≤ _)⟩)
        dsimp only [Pt.U, Pt.locs, Pt.cells, Pt.slots] at X6' l6 y6 z6 st' hQ6
        subst l6 y6 z6
        obtain ⟨rfl, NFq6, KPq6⟩ := hQ6
        have X6 : Stand p l e Qka s m #[(.ref a0)] below meth c T6 _ 0 0 := X6'
        have NF6 := Fr.app NF0 NFq6
        have SZ6 : n0 ≤ T6.heap.size := Nat.le_trans SZ0 KPq6.1
        have KP6 : Keep h0 T6.heap [] := KP0.trans KPq6 all0
        have f7 := Ga.keep KPq6
        have f8 := Hz.keep KPq6 nin0
        have f9 := Ja.keep KPq6 nin0
        have f10 := J0.keep KPq6 nin0
        have f11 := Gc.keep KPq6 nin0
        have f12 := J6.keep KPq6 nin0
        have f13 := Gk.keep KPq6 nin0
        have f14 := J8.keep KPq6 nin0
        have f15 := Gg.keep KPq6 nin0
        have f16 := J9.keep KPq6 nin0
        have f17 := Gb.keep KPq6 nin0
        have f18 := J1.keep KPq6 nin0
        have f19 := J2.keep KPq6
        have f20 := M6.keep KPq6 nin0
        have f21 := M0.keep KPq6 nin0
        have f22 := M7.keep KPq6 nin0
        have f23 := M1.keep KPq6 nin0
        have f24 := Jt.keep KPq6 nin0
        have f25 := M2.keep KPq6 nin0
        have f26 := Ju.keep KPq6 nin0
        have f27 := M3.keep KPq6 nin0
        have f28 := Jv.keep KPq6 nin0
        have f29 := M4.keep KPq6 nin0
        have f30 := Jw.keep KPq6 nin0
        have f31 := Gv.keep KPq6 nin0
        have f32 := Gx.keep KPq6 nin0
        have f33 := Gm.keep KPq6 nin0
        refine op T6 (mkF m 32 #[rv a0] [(.int (fac_0 sz rng tsz ful nC nT w t0 t1 t2 t3))]) (fun _ k => st'.trans k) ?_
        refine own_iteT Rka (Kka Z ino alc cnt siz dif sz rng tsz ful nC nT w t0 t1 t2 t3 a0 sg sS sT sL sC sA bS bE bC bL h0 n0) (fun hc32 => ?_) (fun hc32 => ?_)
        · skip
          refine op T6 (mkF m 39 #[rv a0] []) (fun _ k => XS.ifYes X6.here hx rfl (pc0 := 32) (pc' := 39) rfl (hb hby d19_32) rfl ((if0 _ _).trans (teq hc32).1) (by decide) (by decide) k) ?_
          exact gka_39 hw ino alc cnt siz dif sz rng tsz ful nC nT w t0 t1 t2 t3 a0 sg sS sT sL sC sA bS bE bC bL HD Bd hml hZ T6 X6 (rfl : T6.heap = T6.heap) SZ6 NF6 KP6 f7 f8 f9 f10 f11 f12 f13 f14 f15 f16 f17 f18 f19 f20 f21 f22 f23 f24 f25 f26 f27 f28 f29 f30 f31 f32 f33
        · skip
          refine op T6 (mkF m 35 #[rv a0] []) (fun _ k => XS.ifNo X6.here hx rfl (hb hby d19_32) rfl ((if0 _ _).trans (feq hc32).1) k) ?_
          exact gka_35 hw ino alc cnt siz dif sz rng tsz ful nC nT w t0 t1 t2 t3 a0 sg sS sT sL sC sA bS bE bC bL HD Bd hml hZ T6 X6 (rfl : T6.heap = T6.heap) SZ6 NF6 KP6 f7 f8 f9 f10 f11 f12 f13 f14 f15 f16 f17 f18 f19 f20 f21 f22 f23 f24 f25 f26 f27 f28 f29 f30 f31 f32 f33
    · skip
      refine op T3 (mkF m 39 #[rv a0] []) (fun _ k => XS.icmpYes X3.here hx rfl (pc0 := 15) (pc' := 39) rfl (hb hby d19_15) rfl (feq hc15).2 (by decide) (by decide) k) ?_
      exact gka_39 hw ino alc cnt siz dif sz rng tsz ful nC nT w t0 t1 t2 t3 a0 sg sS sT sL sC sA bS bE bC bL HD Bd hml hZ T3 X3 e3 SZ0 NF0 KP0 Ga Hz Ja J0 Gc J6 Gk J8 Gg J9 Gb J1 J2 M6 M0 M7 M1 Jt M2 Ju M3 Jv M4 Jw Gv Gx Gm
  · skip
    refine op T1 (mkF m 39 #[rv a0] []) (fun _ k => XS.ifYes X1.here hx rfl (pc0 := 4) (pc' := 39) rfl (hb hby d19_4) rfl ((if0 _ _).trans (feq hc4).2) (by decide) (by decide) k) ?_
    exact gka_39 hw ino alc cnt siz dif sz rng tsz ful nC nT w t0 t1 t2 t3 a0 sg sS sT sL sC sA bS bE bC bL HD Bd hml hZ T1 X1 e1 SZ0 NF0 KP0 Ga Hz Ja J0 Gc J6 Gk J8 Gg J9 Gb J1 J2 M6 M0 M7 M1 Jt M2 Ju M3 Jv M4 Jw Gv Gx Gm
theorem ef_ka (m : MethodId) (a0 : Addr) : entryFrame m #[(.ref a0)] 1 = mkF m 0 #[rv a0] [] := by first | (simp [entryFrame, mkF, argsToLocals, Value.category]; done) | rfl
set_option maxRecDepth 65536 in
set_option maxHeartbeats 40000000 in
theorem rmka (l : Launch) (Z : State) (aw : Array Value) (hw : HW aw Z) (ws : List Jvm.Cond) (ino alc cnt siz dif sz rng tsz ful nC nT w t0 t1 t2 t3 : Int32) (a0 sg sS sT sL sC sA bS bE bC bL : Addr) (h0 : Heap) (n0 : Nat) (SZ0 : n0 ≤ h0.size) (Ga : Exa Z h0 a0 cB) (Hz : Fld Z h0 a0 cB "inOrder" "Z" (.int ino)) (Ja : Fld Z h0 a0 cB "allocated" "Z" (.int alc)) (J0 : Fld Z h0 a0 cB "counted" "I" (.int cnt)) (Gc : Fld Z h0 a0 cB "size" "I" (.int siz)) (J6 : Fld Z h0 a0 cB "differs" "Z" (.int dif)) (Gk : Fld Z h0 a0 cB "starts" "[I" (.ref bS)) (J8 : Fld Z h0 a0 cB "ends" "[I" (.ref bE)) (Gg : Fld Z h0 a0 cB "countries" "[C" (.ref bC)) (J9 : Fld Z h0 a0 cB "lineNumbers" "[I" (.ref bL)) (Gb : Fld Z h0 a0 cB "width" "I" (.int w)) (J1 : Fld Z h0 a0 cB "segments" dS (.ref sg)) (J2 : Exa Z h0 sg cS) (M6 : Fld Z h0 sg cS "starts" "[I" (.ref sS)) (M0 : Fld Z h0 sg cS "tailed" "[I" (.ref sT)) (M7 : Fld Z h0 sg cS "tails" "[I" (.ref sL)) (M1 : Fld Z h0 sg cS "countries" "[C" (.ref sC)) (Jt : Fld Z h0 sg cS "width" "I" (.int w)) (M2 : Fld Z h0 sg cS "head" "I" (.int (own_hd w))) (Ju : Fld Z h0 sg cS "after" "[I" (.ref sA)) (M3 : Fld Z h0 sg cS "size" "I" (.int sz)) (Jv : Fld Z h0 sg cS "ranges" "I" (.int rng)) (M4 : Fld Z h0 sg cS "tailedSize" "I" (.int tsz)) (Jw : Fld Z h0 sg cS "full" "Z" (.int ful)) (Gv : own_Ar Z h0 sC .char nC) (Gx : own_Ar Z h0 sT .int nT) (Gm : own_G Z h0 sA w t0 t1 t2 t3) (HD : w = 1 ∨ w = 4) :
    MetFree l y15 (head1 (Jvm.Cond.code y15 Md 1 (some .boolean) :: ws) Qka) (fun a U => a = #[(.ref a0)] ∧ Z.Warmed39 U.vm ∧ U.heap = h0) (fun _ _ _ _ _ => True) (fun _ U o U' => ∃ v L, o = .returned v ∧ own_Q (Rka (fka_0 ino alc cnt siz dif sz rng tsz ful nC nT w t0 t1 t2 t3)) (Kka Z ino alc cnt siz dif sz rng tsz ful nC nT w t0 t1 t2 t3 a0 sg sS sT sL sC sA bS bE bC bL h0 n0 (fka_0 ino alc cnt siz dif sz rng tsz ful nC nT w t0 t1 t2 t3)) v U'.heap L ∧ FrameEnd U o U' L Qka.cells Qka.slots) := by
  refine MetFree.of_bodySF (plainFor_of_name own_pn3) hisR ?_
  intro p e s m args below meth c s₁ Bd hml0 hP hK
  obtain ⟨rfl, hZ, hh⟩ := hP
  have hml : c.maxLocals = 1 := hml0
  have e0 : s₁.heap = h0 := by rw [← hh, Bd.state]; rfl
  exact own_pre (fun t k => castTop (ef_ka m a0) k) (gka_0 hw ino alc cnt siz dif sz rng tsz ful nC nT w t0 t1 t2 t3 a0 sg sS sT sL sC sA bS bE bC bL HD Bd hml hZ s₁ (Stand.of_body Bd) e0 SZ0 (Fr.nil n0) (Keep.refl _ _) Ga Hz Ja J0 Gc J6 Gk J8 Gg J9 Gb J1 J2 M6 M0 M7 M1 Jt M2 Ju M3 Jv M4 Jw Gv Gx Gm)
/-- the bounds that the calls ask -/
def own_B (k : Int) (ino siz sz tsz nC nT nB : Int32) : Prop := (ino = 0 ∨ ino = 1) ∧ (0 ≤ siz.toInt ∧ siz.toInt ≤ k) ∧ (0 ≤ sz.toInt ∧ sz.toInt ≤ 2 * k) ∧ (0 ≤ tsz.toInt ∧ tsz.toInt ≤ 2 * k) ∧ (0 ≤ nC.toInt ∧ nC.toInt ≤ 20) ∧ (0 ≤ nT.toInt ∧ nT.toInt ≤ 20) ∧ (0 ≤ nB.toInt ∧ nB.toInt ≤ 20)
theorem own_B0 : own_B 0 1 0 0 0 0 0 0 := by unfold own_B; decide
theorem own_B.mono {k : Int} {ino siz sz tsz nC nT nB : Int32} (h : own_B k ino siz sz tsz nC nT nB) : own_B (k + 1) ino siz sz tsz nC nT nB := by
  obtain ⟨a, b, c, d, e, f, g⟩ := h; exact ⟨a, by omega, by omega, by omega, e, f, g⟩
theorem own_inc {x : Int32} {k : Int} (h : 0 ≤ x.toInt ∧ x.toInt ≤ k) (hk : k ≤ 100) : 0 ≤ (x + 1).toInt ∧ (x + 1).toInt ≤ k + 1 := by
  have a := c_iadd x 1; have r := rng32 (x + 1); rw [show (1 : Int32).toInt = 1 from rfl] at a; omega
theorem own_BH {k : Int} {ino siz sz tsz nC nT nB : Int32} (h : own_B k ino siz sz tsz nC nT nB) (hk : k ≤ 20) : 0 ≤ sz.toInt ∧ sz.toInt ≤ 1000 ∧ nC.toInt ≤ 100 ∧ 0 ≤ tsz.toInt ∧ tsz.toInt ≤ 1000 ∧ nT.toInt ≤ 100 ∧ 0 ≤ siz.toInt ∧ nB.toInt ≤ 100 := by
  obtain ⟨a, b, c, d, e, f, g⟩ := h
  refine ⟨c.1, ?_, ?_, d.1, ?_, ?_, b.1, ?_⟩ <;> omega
theorem own_BA {k : Int} {ino siz sz tsz nC nT nB : Int32} (h : own_B k ino siz sz tsz nC nT nB) (hk : k ≤ 3) : (ino = 0 ∨ ino = 1) ∧ (0 ≤ siz.toInt ∧ siz.toInt ≤ 3) ∧ 0 ≤ sz.toInt ∧ sz.toInt ≤ 6 ∧ 0 ≤ tsz.toInt ∧ tsz.toInt ≤ 6 := by
  obtain ⟨a, b, c, d, e, f, g⟩ := h
  refine ⟨a, ⟨b.1, ?_⟩, c.1, ?_, d.1, ?_⟩ <;> omega
theorem own_puk1 {p3 sz rng tsz ful nC nT l0 : Int32} {k j : Int} (h1 : 0 ≤ sz.toInt ∧ sz.toInt ≤ k) (h3 : 0 ≤ tsz.toInt ∧ tsz.toInt ≤ j) (hk : k ≤ 100) (hj : j ≤ 100) : (0 ≤ (fpu1a_0 p3 sz rng tsz ful nC nT l0).1.toInt ∧ (fpu1a_0 p3 sz rng tsz ful nC nT l0).1.toInt ≤ k + 1) ∧ (0 ≤ (fpu1a_0 p3 sz rng tsz ful nC nT l0).2.toInt ∧ (fpu1a_0 p3 sz rng tsz ful nC nT l0).2.toInt ≤ j + 1) := by
  rw [own_pu1a]
  refine ⟨own_inc h1 hk, ?_⟩
  show 0 ≤ tsz.toInt ∧ tsz.toInt ≤ j + 1; omega
theorem own_apk1 {p5 sz rng tsz ful nC nT l0 r0 t0 : Int32} {k : Int} (h1 : 0 ≤ sz.toInt ∧ sz.toInt ≤ k) (h3 : 0 ≤ tsz.toInt ∧ tsz.toInt ≤ k) (hk : k ≤ 90) : (0 ≤ (fap1_0 p5 sz rng tsz ful nC nT l0 r0 t0).1.toInt ∧ (fap1_0 p5 sz rng tsz ful nC nT l0 r0 t0).1.toInt ≤ k + 2) ∧ (0 ≤ (fap1_0 p5 sz rng tsz ful nC nT l0 r0 t0).2.2.1.toInt ∧ (fap1_0 p5 sz rng tsz ful nC nT l0 r0 t0).2.2.1.toInt ≤ k + 2) := by
  have q : ∀ x y : Int32, (0 ≤ x.toInt ∧ x.toInt ≤ k + 1) → (0 ≤ y.toInt ∧ y.toInt ≤ k + 1) → (0 ≤ (fap1_35 p5 sz rng tsz ful nC nT l0 r0 t0 x y).1.toInt ∧ (fap1_35 p5 sz rng tsz ful nC nT l0 r0 t0 x y).1.toInt ≤ k + 2) ∧ (0 ≤ (fap1_35 p5 sz rng tsz ful nC nT l0 r0 t0 x y).2.2.1.toInt ∧ (fap1_35 p5 sz rng tsz ful nC nT l0 r0 t0 x y).2.2.1.toInt ≤ k + 2) := by
    intro x y hx hy
    have z := own_puk1 (p3 := p5) (rng := rng) (ful := ful) (nC := nC) (nT := nT) (l0 := l0) hx hy (by omega) (by omega)
    have e1 : (fap1_35 p5 sz rng tsz ful nC nT l0 r0 t0 x y).1 = (fpu1a_0 p5 x rng y ful nC nT l0).1 := by unfold fap1_35 fap1_43; (repeat' split) <;> rfl
    have e2 : (fap1_35 p5 sz rng tsz ful nC nT l0 r0 t0 x y).2.2.1 = (fpu1a_0 p5 x rng y ful nC nT l0).2 := by unfold fap1_35 fap1_43; (repeat' split) <;> rfl
    rw [e1, e2]; omega
  have z := own_puk1 (p3 := 65535) (rng := rng) (ful := ful) (nC := nC) (nT := nT) (l0 := t0) h1 h3 (by omega) (by omega)
  unfold fap1_0
  split
  · split
    · exact q _ _ (by omega) (by omega)
    · exact q _ _ z.1 z.2
  · exact q _ _ (by omega) (by omega)
theorem own_puk4 {p3 sz rng tsz ful nC nT l0 l1 l2 l3 : Int32} {k j : Int} (h1 : 0 ≤ sz.toInt ∧ sz.toInt ≤ k) (h3 : 0 ≤ tsz.toInt ∧ tsz.toInt ≤ j) (hk : k ≤ 100) (hj : j ≤ 100) : (0 ≤ (fpu4a_0 p3 sz rng tsz ful nC nT l0 l1 l2 l3).1.toInt ∧ (fpu4a_0 p3 sz rng tsz ful nC nT l0 l1 l2 l3).1.toInt ≤ k + 1) ∧ (0 ≤ (fpu4a_0 p3 sz rng tsz ful nC nT l0 l1 l2 l3).2.toInt ∧ (fpu4a_0 p3 sz rng tsz ful nC nT l0 l1 l2 l3).2.toInt ≤ j + 1) := by
  rw [own_pu4a]
  refine ⟨own_inc h1 hk, ?_⟩
  show 0 ≤ (if _ then tsz else tsz + 1).toInt ∧ (if _ then tsz else tsz + 1).toInt ≤ j + 1; have := own_inc h3 hj; split <;> omega
theorem own_apk4 {p5 sz rng tsz ful nC nT l0 l1 l2 l3 r0 r1 r2 r3 t0 t1 t2 t3 : Int32} {k : Int} (h1 : 0 ≤ sz.toInt ∧ sz.toInt ≤ k) (h3 : 0 ≤ tsz.toInt ∧ tsz.toInt ≤ k) (hk : k ≤ 90) : (0 ≤ (fap4_0 p5 sz rng tsz ful nC nT l0 l1 l2 l3 r0 r1 r2 r3 t0 t1 t2 t3).1.toInt ∧ (fap4_0 p5 sz rng tsz ful nC nT l0 l1 l2 l3 r0 r1 r2 r3 t0 t1 t2 t3).1.toInt ≤ k + 2) ∧ (0 ≤ (fap4_0 p5 sz rng tsz ful nC nT l0 l1 l2 l3 r0 r1 r2 r3 t0 t1 t2 t3).2.2.1.toInt ∧ (fap4_0 p5 sz rng tsz ful nC nT l0 l1 l2 l3 r0 r1 r2 r3 t0 t1 t2 t3).2.2.1.toInt ≤ k + 2) := by
  have q : ∀ x y : Int32, (0 ≤ x.toInt ∧ x.toInt ≤ k + 1) → (0 ≤ y.toInt ∧ y.toInt ≤ k + 1) → (0 ≤ (fap4_35 p5 sz rng tsz ful nC nT l0 l1 l2 l3 r0 r1 r2 r3 t0 t1 t2 t3 x y).1.toInt ∧ (fap4_35 p5 sz rng tsz ful nC nT l0 l1 l2 l3 r0 r1 r2 r3 t0 t1 t2 t3 x y).1.toInt ≤ k + 2) ∧ (0 ≤ (fap4_35 p5 sz rng tsz ful nC nT l0 l1 l2 l3 r0 r1 r2 r3 t0 t1 t2 t3 x y).2.2.1.toInt ∧ (fap4_35 p5 sz rng tsz ful nC nT l0 l1 l2 l3 r0 r1 r2 r3 t0 t1 t2 t3 x y).2.2.1.toInt ≤ k + 2) := by
    intro x y hx hy
    have z := own_puk4 (p3 := p5) (rng := rng) (ful := ful) (nC := nC) (nT := nT) (l0 := l0) (l1 := l1) (l2 := l2) (l3 := l3) hx hy (by omega) (by omega)
    have e1 : (fap4_35 p5 sz rng tsz ful nC nT l0 l1 l2 l3 r0 r1 r2 r3 t0 t1 t2 t3 x y).1 = (fpu4a_0 p5 x rng y ful nC nT l0 l1 l2 l3).1 := by unfold fap4_35 fap4_43; (repeat' split) <;> rfl
    have e2 : (fap4_35 p5 sz rng tsz ful nC nT l0 l1 l2 l3 r0 r1 r2 r3 t0 t1 t2 t3 x y).2.2.1 = (fpu4a_0 p5 x rng y ful nC nT l0 l1 l2 l3).2 := by unfold fap4_35 fap4_43; (repeat' split) <;> rfl
    rw [e1, e2]; omega
  have z := own_puk4 (p3 := 65535) (rng := rng) (ful := ful) (nC := nC) (nT := nT) (l0 := t0) (l1 := t1) (l2 := t2) (l3 := t3) h1 h3 (by omega) (by omega)
  unfold fap4_0
  split
  · split
    · exact q _ _ (by omega) (by omega)
    · exact q _ _ z.1 z.2
  · exact q _ _ (by omega) (by omega)
theorem own_gapk {p5 sz rng tsz ful nC nT w l0 l1 l2 l3 r0 r1 r2 r3 t0 t1 t2 t3 : Int32} {k : Int} (h1 : 0 ≤ sz.toInt ∧ sz.toInt ≤ k) (h3 : 0 ≤ tsz.toInt ∧ tsz.toInt ≤ k) (hk : k ≤ 90) : (0 ≤ (fgap_0 p5 sz rng tsz ful nC nT w l0 l1 l2 l3 r0 r1 r2 r3 t0 t1 t2 t3).1.toInt ∧ (fgap_0 p5 sz rng tsz ful nC nT w l0 l1 l2 l3 r0 r1 r2 r3 t0 t1 t2 t3).1.toInt ≤ k + 2) ∧ (0 ≤ (fgap_0 p5 sz rng tsz ful nC nT w l0 l1 l2 l3 r0 r1 r2 r3 t0 t1 t2 t3).2.2.1.toInt ∧ (fgap_0 p5 sz rng tsz ful nC nT w l0 l1 l2 l3 r0 r1 r2 r3 t0 t1 t2 t3).2.2.1.toInt ≤ k + 2) := by
  unfold fgap_0
  split
  · exact own_apk1 h1 h3 hk
  · exact own_apk4 h1 h3 hk
theorem own_Badd {p3 p4 ino alc cnt siz dif sz rng tsz ful nC nT w l0 l1 l2 l3 r0 r1 r2 r3 t0 t1 t2 t3 nB : Int32} {k : Int} (h : own_B k ino siz sz tsz nC nT nB) (hk : k ≤ 20) : own_B (k + 1) (fad_0 p3 p4 ino alc cnt siz dif sz rng tsz ful nC nT w l0 l1 l2 l3 r0 r1 r2 r3 t0 t1 t2 t3 nB).1 (fad_0 p3 p4 ino alc cnt siz dif sz rng tsz ful nC nT w l0 l1 l2 l3 r0 r1 r2 r3 t0 t1 t2 t3 nB).2.1 (fad_0 p3 p4 ino alc cnt siz dif sz rng tsz ful nC nT w l0 l1 l2 l3 r0 r1 r2 r3 t0 t1 t2 t3 nB).2.2.2.1 (fad_0 p3 p4 ino alc cnt siz dif sz rng tsz ful nC nT w l0 l1 l2 l3 r0 r1 r2 r3 t0 t1 t2 t3 nB).2.2.2.2.2.1 nC nT nB := by
  obtain ⟨ha, hb, hc, hd, he, hf, hg⟩ := h
  have i1 := own_inc hb (by omega)
  have i2 := own_gapk (p5 := p3) (rng := rng) (ful := ful) (nC := nC) (nT := nT) (w := w) (l0 := l0) (r0 := r0) (t0 := t0) (l1 := l1) (r1 := r1) (t1 := t1) (l2 := l2) (r2 := r2) (t2 := t2) (l3 := l3) (r3 := r3) (t3 := t3) hc hd (by omega)
  simp only [fad_0, fad_134]
  (repeat' split) <;> (refine ⟨?_, ?_, ?_, ?_, he, hf, hg⟩ <;> dsimp only <;> first | exact ha | exact Or.inl rfl | exact i1 | omega)
def own_W (Z : State) (h : Heap) (n0 : Nat) (b : Addr) (w ino alc cnt siz dif sz rng tsz ful nC nT nB t0 t1 t2 t3 : Int32) : Prop := ∃ sg sS sT sL sC sA bS bE bC bL : Addr, b < sg ∧ b < sS ∧ b < sT ∧ b < sL ∧ b < sC ∧ b < sA ∧ b < bS ∧ b < bE ∧ b < bC ∧ b < bL ∧ sg ≠ sS ∧ sg ≠ sT ∧ sS ≠ sT ∧ sg ≠ sL ∧ sS ≠ sL ∧ sT ≠ sL ∧ sg ≠ sC ∧ sS ≠ sC ∧ sT ≠ sC ∧ sL ≠ sC ∧ sg ≠ sA ∧ sS ≠ sA ∧ sT ≠ sA ∧ sL ≠ sA ∧ sC ≠ sA ∧ sg ≠ bS ∧ sS ≠ bS ∧ sT ≠ bS ∧ sL ≠ bS ∧ sC ≠ bS ∧ sA ≠ bS ∧ sg ≠ bE ∧ sS ≠ bE ∧ sT ≠ bE ∧ sL ≠ bE ∧ sC ≠ bE ∧ sA ≠ bE ∧ bS ≠ bE ∧ sg ≠ bC ∧ sS ≠ bC ∧ sT ≠ bC ∧ sL ≠ bC ∧ sC ≠ bC ∧ sA ≠ bC ∧ bS ≠ bC ∧ bE ≠ bC ∧ sg ≠ bL ∧ sS ≠ bL ∧ sT ≠ bL ∧ sL ≠ bL ∧ sC ≠ bL ∧ sA ≠ bL ∧ bS ≠ bL ∧ bE ≠ bL ∧ bC ≠ bL ∧ Exa Z h b cB ∧ Fld Z h b cB "inOrder" "Z" (.int ino) ∧ Fld Z h b cB "allocated" "Z" (.int alc) ∧ Fld Z h b cB "counted" "I" (.int cnt) ∧ Fld Z h b cB "size" "I" (.int siz) ∧ Fld Z h b cB "differs" "Z" (.int dif) ∧ Fld Z h b cB "starts" "[I" (.ref bS) ∧ Fld Z h b cB "ends" "[I" (.ref bE) ∧ Fld Z h b cB "countries" "[C" (.ref bC) ∧ Fld Z h b cB "lineNumbers" "[I" (.ref bL) ∧ Fld Z h b cB "width" "I" (.int w) ∧ Fld Z h b cB "segments" dS (.ref sg) ∧ Exa Z h sg cS ∧ Fld Z h sg cS "starts" "[I" (.ref sS) ∧ Fld Z h sg cS "tailed" "[I" (.ref sT) ∧ Fld Z h sg cS "tails" "[I" (.ref sL) ∧ Fld Z h sg cS "countries" "[C" (.ref sC) ∧ Fld Z h sg cS "width" "I" (.int w) ∧ Fld Z h sg cS "head" "I" (.int (own_hd w)) ∧ Fld Z h sg cS "after" "[I" (.ref sA) ∧ Fld Z h sg cS "size" "I" (.int sz) ∧ Fld Z h sg cS "ranges" "I" (.int rng) ∧ Fld Z h sg cS "tailedSize" "I" (.int tsz) ∧ Fld Z h sg cS "full" "Z" (.int ful) ∧ own_Ar Z h sS .int (nC * (own_hd w)) ∧ own_Ar Z h sT .int nT ∧ own_Ar Z h sL .int (nT * (w - (own_hd w))) ∧ own_Ar Z h sC .char nC ∧ own_Ar Z h bS .int (nB * w) ∧ own_Ar Z h bE .int (nB * w) ∧ own_Ar Z h bC .char nB ∧ own_Ar Z h bL .int nB ∧ own_G Z h sA w t0 t1 t2 t3
theorem own_W.exa {Z : State} {h : Heap} {n0 : Nat} {b : Addr} {w ino alc cnt siz dif sz rng tsz ful nC nT nB t0 t1 t2 t3 : Int32} (H : own_W Z h n0 b w ino alc cnt siz dif sz rng tsz ful nC nT nB t0 t1 t2 t3) : Exa Z h b cB := by
  obtain ⟨_, _, _, _, _, _, _, _, _, _, _, _, _, _, _, _, _, _, _, _, _, _, _, _, _, _, _, _, _, _, _, _, _, _, _, _, _, _, _, _, _, _, _, _, _, _, _, _, _, _, _, _, _, _, _, _, _, _, _, _, _, _, _, _, _, E, -⟩ := H; exact E
abbrev St : Type := Int32 × Int32 × Int32 × Int32 × Int32 × Int32 × Int32 × Int32 × Int32 × Int32 × Int32 × Int32 × Int32 × Int32 × Int32 × Int32 × Int32
def own_V (Z : State) (h : Heap) (n0 : Nat) (b : Addr) (S : St) : Prop := own_W Z h n0 b S.1 S.2.1 S.2.2.1 S.2.2.2.1 S.2.2.2.2.1 S.2.2.2.2.2.1 S.2.2.2.2.2.2.1 S.2.2.2.2.2.2.2.1 S.2.2.2.2.2.2.2.2.1 S.2.2.2.2.2.2.2.2.2.1 S.2.2.2.2.2.2.2.2.2.2.1 S.2.2.2.2.2.2.2.2.2.2.2.1 S.2.2.2.2.2.2.2.2.2.2.2.2.1 S.2.2.2.2.2.2.2.2.2.2.2.2.2.1 S.2.2.2.2.2.2.2.2.2.2.2.2.2.2.1 S.2.2.2.2.2.2.2.2.2.2.2.2.2.2.2.1 S.2.2.2.2.2.2.2.2.2.2.2.2.2.2.2.2
theorem own_V.exa {Z : State} {h : Heap} {n0 : Nat} {b : Addr} {S : St} (H : own_V Z h n0 b S) : Exa Z h b cB := own_W.exa H
theorem own_V.keep {Z : State} {h h' : Heap} {n0 : Nat} {b : Addr} {S : St} {ws : List Addr} (_ : own_V Z h n0 b S) (_ : Keep h h' ws) (_ : b ∉ ws) : True := trivial
def own_BS (k : Int) (w : Int32) (S : St) : Prop := (w = 1 ∨ w = 4) ∧ S.1 = w ∧ own_B k S.2.1 S.2.2.2.2.1 S.2.2.2.2.2.2.1 S.2.2.2.2.2.2.2.2.1 S.2.2.2.2.2.2.2.2.2.2.1 S.2.2.2.2.2.2.2.2.2.2.2.1 S.2.2.2.2.2.2.2.2.2.2.2.2.1
def zS (w : Int32) : St := (w, 1, 0, 0, 0, 0, 0, 0, 0, 0, 0, 0, 0, 0, 0, 0, 0)
theorem own_BS0 {w : Int32} (h : w = 1 ∨ w = 4) : own_BS 0 w (zS w) := ⟨h, rfl, own_B0⟩
theorem own_BS.mono {k : Int} {w : Int32} {S : St} (h : own_BS k w S) : own_BS (k + 1) w S := ⟨h.1, h.2.1, h.2.2.mono⟩
set_option maxRecDepth 65536 in
set_option maxHeartbeats 40000000 in
theorem rmvbin (l : Launch) (Z : State) (aw : Array Value) (hw : HW aw Z) (ws : List Jvm.Cond) (p1 : Int32) (a0 : Addr) (h0 : Heap) (n0 : Nat) (SZ0 : n0 ≤ h0.size) (Ga : Exa Z h0 a0 cB) (Gk : Fld Z h0 a0 cB "starts" "[I" .null) (J8 : Fld Z h0 a0 cB "ends" "[I" .null) (Gg : Fld Z h0 a0 cB "countries" "[C" .null) (J9 : Fld Z h0 a0 cB "lineNumbers" "[I" .null) (J1 : Fld Z h0 a0 cB "segments" dS .null) (Hz : Fld Z h0 a0 cB "inOrder" "Z" (.int 0)) (Ja : Fld Z h0 a0 cB "allocated" "Z" (.int 0)) (J0 : Fld Z h0 a0 cB "counted" "I" (.int 0)) (Gc : Fld Z h0 a0 cB "size" "I" (.int 0)) (J6 : Fld Z h0 a0 cB "differs" "Z" (.int 0)) (Gb : Fld Z h0 a0 cB "width" "I" (.int 0)) (HD : p1 = 1 ∨ p1 = 4) (G0 : n0 ≤ a0) :
    MetFree l y12 (head1 (Jvm.Cond.code y12 Jc 2 none :: ws) Qbin) (fun a U => a = #[(.ref a0), (.int p1)] ∧ Z.Warmed39 U.vm ∧ U.heap = h0) (fun _ _ _ _ _ => True) (fun _ U o U' => ∃ v L, o = .returned v ∧ own_Q (Rbin ()) (fun h L => Fr n0 L ∧ Keep h0 h [a0] ∧ own_V Z h n0 a0 (zS p1)) v U'.heap L ∧ FrameEnd U o U' L Qbin.cells Qbin.slots) := by
  refine own_met (rmbin l Z aw hw ws p1 a0 h0 n0 SZ0 Ga Gk J8 Gg J9 J1 Hz Ja J0 Gc J6 Gb HD G0) ?_
  intro h L hk
  obtain ⟨bS, bE, bC, bL, sg, sS, sT, sL, sC, sA, NF, KP, sz_bS, sz_bE, sz_bC, sz_bL, sz_sg, sz_sS, sz_sT, sz_sL, sz_sC, sz_sA, nf_bS_bE, nf_bS_bC, nf_bE_bC, nf_bS_bL, nf_bE_bL, nf_bC_bL, nf_bS_sg, nf_bE_sg, nf_bC_sg, nf_bL_sg, nf_bS_sS, nf_bE_sS, nf_bC_sS, nf_bL_sS, nf_sg_sS, nf_bS_sT, nf_bE_sT, nf_bC_sT, nf_bL_sT, nf_sg_sT, nf_sS_sT, nf_bS_sL, nf_bE_sL, nf_bC_sL, nf_bL_sL, nf_sg_sL, nf_sS_sL, nf_sT_sL, nf_bS_sC, nf_bE_sC, nf_bC_sC, nf_bL_sC, nf_sg_sC, nf_sS_sC, nf_sT_sC, nf_sL_sC, nf_bS_sA, nf_bE_sA, nf_bC_sA, nf_bL_sA, nf_sg_sA, nf_sS_sA, nf_sT_sA, nf_sL_sA, nf_sC_sA, r0, r1, r2, r3, r4, r5, r6, r7, r8, r9, r10, r11, r12, r13, r14, r15, r16, r17, r18, r19, r20, r21, r22, r23, r24, r25, r26, r27, r28, r29, r30, r31, r32⟩ := hk
  refine ⟨NF, KP, sg, sS, sT, sL, sC, sA, bS, bE, bC, bL, Nat.lt_of_lt_of_le Ga.lt sz_sg, Nat.lt_of_lt_of_le Ga.lt sz_sS, Nat.lt_of_lt_of_le Ga.lt sz_sT, Nat.lt_of_lt_of_le Ga.lt sz_sL, Nat.lt_of_lt_of_le Ga.lt sz_sC, Nat.lt_of_lt_of_le Ga.lt sz_sA, Nat.lt_of_lt_of_le Ga.lt sz_bS, Nat.lt_of_lt_of_le Ga.lt sz_bE, Nat.lt_of_lt_of_le Ga.lt sz_bC, Nat.lt_of_lt_of_le Ga.lt sz_bL, nf_sg_sS, nf_sg_sT, nf_sS_sT, nf_sg_sL, nf_sS_sL, nf_sT_sL, nf_sg_sC, nf_sS_sC, nf_sT_sC, nf_sL_sC, nf_sg_sA, nf_sS_sA, nf_sT_sA, nf_sL_sA, nf_sC_sA, (Ne.symm nf_bS_sg), (Ne.symm nf_bS_sS), (Ne.symm nf_bS_sT), (Ne.symm nf_bS_sL), (Ne.symm nf_bS_sC), (Ne.symm nf_bS_sA), (Ne.symm nf_bE_sg), (Ne.symm nf_bE_sS), (Ne.symm nf_bE_sT), (Ne.symm nf_bE_sL), (Ne.symm nf_bE_sC), (Ne.symm nf_bE_sA), nf_bS_bE, (Ne.symm nf_bC_sg), (Ne.symm nf_bC_sS), (Ne.symm nf_bC_sT), (Ne.symm nf_bC_sL), (Ne.symm nf_bC_sC), (Ne.symm nf_bC_sA), nf_bS_bC, nf_bE_bC, (Ne.symm nf_bL_sg), (Ne.symm nf_bL_sS), (Ne.symm nf_bL_sT), (Ne.symm nf_bL_sL), (Ne.symm nf_bL_sC), (Ne.symm nf_bL_sA), nf_bS_bL, nf_bE_bL, nf_bC_bL, r0, r1, r2, r3, r4, r5, r6, r7, r8, r9, r10, r11, r12, r13, r14, r15, r16, r17, r18, r19, r20, r21, r22, r23, own_ArZ r24, r25, own_ArZ r26, r27, own_ArZ r29, own_ArZ r30, r32, r31, r28⟩
set_option maxRecDepth 65536 in
set_option maxHeartbeats 40000000 in
theorem rmwad (l : Launch) (Z : State) (aw : Array Value) (hw : HW aw Z) (ws : List Jvm.Cond) (p3 p4 w ino alc cnt siz dif sz rng tsz ful nC nT nB t0 t1 t2 t3 l0 l1 l2 l3 r0 r1 r2 r3 : Int32) (a0 a1 a2 : Addr) (h0 : Heap) (n0 : Nat) (SZ0 : n0 ≤ h0.size) (W_a0 : own_W Z h0 n0 a0 w ino alc cnt siz dif sz rng tsz ful nC nT nB t0 t1 t2 t3) (Gp : own_G Z h0 a1 w l0 l1 l2 l3) (Hi : own_G Z h0 a2 w r0 r1 r2 r3) (Ur : a1 < a0) (Us : a2 < a0) (HS : 0 ≤ sz.toInt) (HS2 : sz.toInt ≤ 1000) (HC : nC.toInt ≤ 100) (HT : 0 ≤ tsz.toInt) (HT2 : tsz.toInt ≤ 1000) (HN : nT.toInt ≤ 100) (HZ : 0 ≤ siz.toInt) (HB : nB.toInt ≤ 100) (HD : w = 1 ∨ w = 4) (G0 : n0 ≤ a0) :
    MetFree l y13 (head1 (Jvm.Cond.code y13 Go 5 none :: ws) Qad) (fun a U => a = #[(.ref a0), (.ref a1), (.ref a2), (.int p3), (.int p4)] ∧ Z.Warmed39 U.vm ∧ U.heap = h0) (fun _ _ _ _ _ => True) (fun _ U o U' => ∃ v L, o = .returned v ∧ own_Q none (fun h L => Fr n0 L ∧ own_Low a0 h0 h ∧ own_W Z h n0 a0 w (fad_0 p3 p4 ino alc cnt siz dif sz rng tsz ful nC nT w l0 l1 l2 l3 r0 r1 r2 r3 t0 t1 t2 t3 nB).1 alc cnt (fad_0 p3 p4 ino alc cnt siz dif sz rng tsz ful nC nT w l0 l1 l2 l3 r0 r1 r2 r3 t0 t1 t2 t3 nB).2.1 (fad_0 p3 p4 ino alc cnt siz dif sz rng tsz ful nC nT w l0 l1 l2 l3 r0 r1 r2 r3 t0 t1 t2 t3 nB).2.2.1 (fad_0 p3 p4 ino alc cnt siz dif sz rng tsz ful nC nT w l0 l1 l2 l3 r0 r1 r2 r3 t0 t1 t2 t3 nB).2.2.2.1 (fad_0 p3 p4 ino alc cnt siz dif sz rng tsz ful nC nT w l0 l1 l2 l3 r0 r1 r2 r3 t0 t1 t2 t3 nB).2.2.2.2.1 (fad_0 p3 p4 ino alc cnt siz dif sz rng tsz ful nC nT w l0 l1 l2 l3 r0 r1 r2 r3 t0 t1 t2 t3 nB).2.2.2.2.2.1 (fad_0 p3 p4 ino alc cnt siz dif sz rng tsz ful nC nT w l0 l1 l2 l3 r0 r1 r2 r3 t0 t1 t2 t3 nB).2.2.2.2.2.2.1 nC nT nB (fad_0 p3 p4 ino alc cnt siz dif sz rng tsz ful nC nT w l0 l1 l2 l3 r0 r1 r2 r3 t0 t1 t2 t3 nB).2.2.2.2.2.2.2.1 (fad_0 p3 p4 ino alc cnt siz dif sz rng tsz ful nC nT w l0 l1 l2 l3 r0 r1 r2 r3 t0 t1 t2 t3 nB).2.2.2.2.2.2.2.2.1 (fad_0 p3 p4 ino alc cnt siz dif sz rng tsz ful nC nT w l0 l1 l2 l3 r0 r1 r2 r3 t0 t1 t2 t3 nB).2.2.2.2.2.2.2.2.2.1 (fad_0 p3 p4 ino alc cnt siz dif sz rng tsz ful nC nT w l0 l1 l2 l3 r0 r1 r2 r3 t0 t1 t2 t3 nB).2.2.2.2.2.2.2.2.2.2) v U'.heap L ∧ FrameEnd U o U' L Qad.cells Qad.slots) := by
  obtain ⟨sg, sS, sT, sL, sC, sA, bS, bE, bC, bL, Mq, Vz, W0, W1, W3, Ut, W6, W8, W9, Wa, Yq, Yr, Ys, Yt, Yu, Yv, Yw, Yx, Yy, Yz, Wt, G00, G01, G02, G03, Y3, G0i, G0j, G0k, G0m, G04, Y4, G0n, G0o, G0p, G0q, G05, G06, Y5, G0r, G0s, G0t, G0u, G07, G08, G09, Y6, G0v, G0w, G0x, G0y, G0a, G0b, G0c, G0d, Ga, Hz, Ja, J0, Gc, J6, Gk, J8, Gg, J9, Gb, J1, J2, M6, M0, M7, M1, Jt, M2, Ju, M3, Jv, M4, Jw, H6, Gx, Gy, Gv, Uf, Ug, Ud, Ue, Gm⟩ := W_a0
  refine own_met (rmad l Z aw hw ws p3 p4 ino alc cnt siz dif sz rng tsz ful nC nT w l0 l1 l2 l3 r0 r1 r2 r3 t0 t1 t2 t3 nB a0 a1 a2 sg sS sT sL sC sA bS bE bC bL h0 n0 SZ0 Ga Hz Ja J0 Gc J6 Gk J8 Gg J9 Gb J1 J2 M6 M0 M7 M1 Jt M2 Ju M3 Jv M4 Jw H6 Gx Gy Gv Uf Ug Ud Ue Gp Hi Gm (Nat.ne_of_lt W6) Y3 G0i G0j G0k G0m G06 G08 G0b (own_neL Ur W6) (own_neL Us W6) G04 (Nat.ne_of_lt W8) Y4 G0n G0o G0p G0q G09 G0c (own_neL Ur W8) (own_neL Us W8) G05 (Nat.ne_of_lt W9) Y5 G0r G0s G0t G0u G0d (own_neL Ur W9) (own_neL Us W9) G07 (Nat.ne_of_lt Wa) Y6 G0v G0w G0x G0y (own_neL Ur Wa) (own_neL Us Wa) G0a (Nat.ne_of_lt Mq) (Nat.ne_of_lt Vz) (Nat.ne_of_lt W0) (Nat.ne_of_lt W1) (Nat.ne_of_lt W3) (Ne.symm (Nat.ne_of_lt Ur)) (Ne.symm (Nat.ne_of_lt Us)) (Nat.ne_of_lt Ut) Yq Ys Yu Yx G00 Yw Yy Yz G03 Yr Yv G01 Yt G02 Wt (own_neL Ur W3) (own_neL Ur W1) (own_neL Ur W0) (own_neL Ur Vz) (own_neL Ur Mq) (own_neL Us W3) (own_neL Us W1) (own_neL Us W0) (own_neL Us Vz) (own_neL Us Mq) (own_neL Ur Ut) (own_neL Us Ut) HS HS2 HC HT HT2 HN HZ HB HD G0 (Nat.le_trans G0 (Nat.le_of_lt Mq)) (Nat.le_trans G0 (Nat.le_of_lt Vz)) (Nat.le_trans G0 (Nat.le_of_lt W0)) (Nat.le_trans G0 (Nat.le_of_lt W1)) (Nat.le_trans G0 (Nat.le_of_lt W3)) (Nat.le_trans G0 (Nat.le_of_lt Ut)) (Nat.le_trans G0 (Nat.le_of_lt W6)) (Nat.le_trans G0 (Nat.le_of_lt W8)) (Nat.le_trans G0 (Nat.le_of_lt W9)) (Nat.le_trans G0 (Nat.le_of_lt Wa))) ?_
  intro h L hk
  obtain ⟨NF, KP, r0, r1, r2, r3, r4, r5, r6, r7, r8, r9, r10, r11, r12, r13, r14, r15, r16, r17, r18, r19, r20, r21, r22, r23, r24, r25, r26, r27, r28, r29, r30, r31, r32⟩ := hk
  exact ⟨NF, ⟨_, KP, allS (Nat.le_refl _) (allS (Nat.le_of_lt Mq) (allS (Nat.le_of_lt Vz) (allS (Nat.le_of_lt W0) (allS (Nat.le_of_lt W1) (allS (Nat.le_of_lt W3) (allS (Nat.le_of_lt Ut) (allS (Nat.le_of_lt W6) (allS (Nat.le_of_lt W8) (allS (Nat.le_of_lt W9) (allS (Nat.le_of_lt Wa) (all0)))))))))))⟩, sg, sS, sT, sL, sC, sA, bS, bE, bC, bL, Mq, Vz, W0, W1, W3, Ut, W6, W8, W9, Wa, Yq, Yr, Ys, Yt, Yu, Yv, Yw, Yx, Yy, Yz, Wt, G00, G01, G02, G03, Y3, G0i, G0j, G0k, G0m, G04, Y4, G0n, G0o, G0p, G0q, G05, G06, Y5, G0r, G0s, G0t, G0u, G07, G08, G09, Y6, G0v, G0w, G0x, G0y, G0a, G0b, G0c, G0d, r0, r1, r2, r3, r4, r5, r6, r7, r8, r9, r10, r11, r12, r13, r14, r15, r16, r17, r18, r19, r20, r21, r22, r23, r24, r25, r26, r27, r28, r29, r30, r31, r32⟩
def sad (p3 p4 : Int32) (S : St) (l0 l1 l2 l3 r0 r1 r2 r3 : Int32) : St := (S.1, (fad_0 p3 p4 S.2.1 S.2.2.1 S.2.2.2.1 S.2.2.2.2.1 S.2.2.2.2.2.1 S.2.2.2.2.2.2.1 S.2.2.2.2.2.2.2.1 S.2.2.2.2.2.2.2.2.1 S.2.2.2.2.2.2.2.2.2.1 S.2.2.2.2.2.2.2.2.2.2.1 S.2.2.2.2.2.2.2.2.2.2.2.1 S.1 l0 l1 l2 l3 r0 r1 r2 r3 S.2.2.2.2.2.2.2.2.2.2.2.2.2.1 S.2.2.2.2.2.2.2.2.2.2.2.2.2.2.1 S.2.2.2.2.2.2.2.2.2.2.2.2.2.2.2.1 S.2.2.2.2.2.2.2.2.2.2.2.2.2.2.2.2 S.2.2.2.2.2.2.2.2.2.2.2.2.1).1, S.2.2.1, S.2.2.2.1, (fad_0 p3 p4 S.2.1 S.2.2.1 S.2.2.2.1 S.2.2.2.2.1 S.2.2.2.2.2.1 S.2.2.2.2.2.2.1 S.2.2.2.2.2.2.2.1 S.2.2.2.2.2.2.2.2.1 S.2.2.2.2.2.2.2.2.2.1 S.2.2.2.2.2.2.2.2.2.2.1 S.2.2.2.2.2.2.2.2.2.2.2.1 S.1 l0 l1 l2 l3 r0 r1 r2 r3 S.2.2.2.2.2.2.2.2.2.2.2.2.2.1 S.2.2.2.2.2.2.2.2.2.2.2.2.2.2.1 S.2.2.2.2.2.2.2.2.2.2.2.2.2.2.2.1 S.2.2.2.2.2.2.2.2.2.2.2.2.2.2.2.2 S.2.2.2.2.2.2.2.2.2.2.2.2.1).2.1, (fad_0 p3 p4 S.2.1 S.2.2.1 S.2.2.2.1 S.2.2.2.2.1 S.2.2.2.2.2.1 S.2.2.2.2.2.2.1 S.2.2.2.2.2.2.2.1 S.2.2.2.2.2.2.2.2.1 S.2.2.2.2.2.2.2.2.2.1 S.2.2.2.2.2.2.2.2.2.2.1 S.2.2.2.2.2.2.2.2.2.2.2.1 S.1 l0 l1 l2 l3 r0 r1 r2 r3 S.2.2.2.2.2.2.2.2.2.2.2.2.2.1 S.2.2.2.2.2.2.2.2.2.2.2.2.2.2.1 S.2.2.2.2.2.2.2.2.2.2.2.2.2.2.2.1 S.2.2.2.2.2.2.2.2.2.2.2.2.2.2.2.2 S.2.2.2.2.2.2.2.2.2.2.2.2.1).2.2.1, (fad_0 p3 p4 S.2.1 S.2.2.1 S.2.2.2.1 S.2.2.2.2.1 S.2.2.2.2.2.1 S.2.2.2.2.2.2.1 S.2.2.2.2.2.2.2.1 S.2.2.2.2.2.2.2.2.1 S.2.2.2.2.2.2.2.2.2.1 S.2.2.2.2.2.2.2.2.2.2.1 S.2.2.2.2.2.2.2.2.2.2.2.1 S.1 l0 l1 l2 l3 r0 r1 r2 r3 S.2.2.2.2.2.2.2.2.2.2.2.2.2.1 S.2.2.2.2.2.2.2.2.2.2.2.2.2.2.1 S.2.2.2.2.2.2.2.2.2.2.2.2.2.2.2.1 S.2.2.2.2.2.2.2.2.2.2.2.2.2.2.2.2 S.2.2.2.2.2.2.2.2.2.2.2.2.1).2.2.2.1, (fad_0 p3 p4 S.2.1 S.2.2.1 S.2.2.2.1 S.2.2.2.2.1 S.2.2.2.2.2.1 S.2.2.2.2.2.2.1 S.2.2.2.2.2.2.2.1 S.2.2.2.2.2.2.2.2.1 S.2.2.2.2.2.2.2.2.2.1 S.2.2.2.2.2.2.2.2.2.2.1 S.2.2.2.2.2.2.2.2.2.2.2.1 S.1 l0 l1 l2 l3 r0 r1 r2 r3 S.2.2.2.2.2.2.2.2.2.2.2.2.2.1 S.2.2.2.2.2.2.2.2.2.2.2.2.2.2.1 S.2.2.2.2.2.2.2.2.2.2.2.2.2.2.2.1 S.2.2.2.2.2.2.2.2.2.2.2.2.2.2.2.2 S.2.2.2.2.2.2.2.2.2.2.2.2.1).2.2.2.2.1, (fad_0 p3 p4 S.2.1 S.2.2.1 S.2.2.2.1 S.2.2.2.2.1 S.2.2.2.2.2.1 S.2.2.2.2.2.2.1 S.2.2.2.2.2.2.2.1 S.2.2.2.2.2.2.2.2.1 S.2.2.2.2.2.2.2.2.2.1 S.2.2.2.2.2.2.2.2.2.2.1 S.2.2.2.2.2.2.2.2.2.2.2.1 S.1 l0 l1 l2 l3 r0 r1 r2 r3 S.2.2.2.2.2.2.2.2.2.2.2.2.2.1 S.2.2.2.2.2.2.2.2.2.2.2.2.2.2.1 S.2.2.2.2.2.2.2.2.2.2.2.2.2.2.2.1 S.2.2.2.2.2.2.2.2.2.2.2.2.2.2.2.2 S.2.2.2.2.2.2.2.2.2.2.2.2.1).2.2.2.2.2.1, (fad_0 p3 p4 S.2.1 S.2.2.1 S.2.2.2.1 S.2.2.2.2.1 S.2.2.2.2.2.1 S.2.2.2.2.2.2.1 S.2.2.2.2.2.2.2.1 S.2.2.2.2.2.2.2.2.1 S.2.2.2.2.2.2.2.2.2.1 S.2.2.2.2.2.2.2.2.2.2.1 S.2.2.2.2.2.2.2.2.2.2.2.1 S.1 l0 l1 l2 l3 r0 r1 r2 r3 S.2.2.2.2.2.2.2.2.2.2.2.2.2.1 S.2.2.2.2.2.2.2.2.2.2.2.2.2.2.1 S.2.2.2.2.2.2.2.2.2.2.2.2.2.2.2.1 S.2.2.2.2.2.2.2.2.2.2.2.2.2.2.2.2 S.2.2.2.2.2.2.2.2.2.2.2.2.1).2.2.2.2.2.2.1, S.2.2.2.2.2.2.2.2.2.2.1, S.2.2.2.2.2.2.2.2.2.2.2.1, S.2.2.2.2.2.2.2.2.2.2.2.2.1, (fad_0 p3 p4 S.2.1 S.2.2.1 S.2.2.2.1 S.2.2.2.2.1 S.2.2.2.2.2.1 S.2.2.2.2.2.2.1 S.2.2.2.2.2.2.2.1 S.2.2.2.2.2.2.2.2.1 S.2.2.2.2.2.2.2.2.2.1 S.2.2.2.2.2.2.2.2.2.2.1 S.2.2.2.2.2.2.2.2.2.2.2.1 S.1 l0 l1 l2 l3 r0 r1 r2 r3 S.2.2.2.2.2.2.2.2.2.2.2.2.2.1 S.2.2.2.2.2.2.2.2.2.2.2.2.2.2.1 S.2.2.2.2.2.2.2.2.2.2.2.2.2.2.2.1 S.2.2.2.2.2.2.2.2.2.2.2.2.2.2.2.2 S.2.2.2.2.2.2.2.2.2.2.2.2.1).2.2.2.2.2.2.2.1, (fad_0 p3 p4 S.2.1 S.2.2.1 S.2.2.2.1 S.2.2.2.2.1 S.2.2.2.2.2.1 S.2.2.2.2.2.2.1 S.2.2.2.2.2.2.2.1 S.2.2.2.2.2.2.2.2.1 S.2.2.2.2.2.2.2.2.2.1 S.2.2.2.2.2.2.2.2.2.2.1 S.2.2.2.2.2.2.2.2.2.2.2.1 S.1 l0 l1 l2 l3 r0 r1 r2 r3 S.2.2.2.2.2.2.2.2.2.2.2.2.2.1 S.2.2.2.2.2.2.2.2.2.2.2.2.2.2.1 S.2.2.2.2.2.2.2.2.2.2.2.2.2.2.2.1 S.2.2.2.2.2.2.2.2.2.2.2.2.2.2.2.2 S.2.2.2.2.2.2.2.2.2.2.2.2.1).2.2.2.2.2.2.2.2.1, (fad_0 p3 p4 S.2.1 S.2.2.1 S.2.2.2.1 S.2.2.2.2.1 S.2.2.2.2.2.1 S.2.2.2.2.2.2.1 S.2.2.2.2.2.2.2.1 S.2.2.2.2.2.2.2.2.1 S.2.2.2.2.2.2.2.2.2.1 S.2.2.2.2.2.2.2.2.2.2.1 S.2.2.2.2.2.2.2.2.2.2.2.1 S.1 l0 l1 l2 l3 r0 r1 r2 r3 S.2.2.2.2.2.2.2.2.2.2.2.2.2.1 S.2.2.2.2.2.2.2.2.2.2.2.2.2.2.1 S.2.2.2.2.2.2.2.2.2.2.2.2.2.2.2.1 S.2.2.2.2.2.2.2.2.2.2.2.2.2.2.2.2 S.2.2.2.2.2.2.2.2.2.2.2.2.1).2.2.2.2.2.2.2.2.2.1, (fad_0 p3 p4 S.2.1 S.2.2.1 S.2.2.2.1 S.2.2.2.2.1 S.2.2.2.2.2.1 S.2.2.2.2.2.2.1 S.2.2.2.2.2.2.2.1 S.2.2.2.2.2.2.2.2.1 S.2.2.2.2.2.2.2.2.2.1 S.2.2.2.2.2.2.2.2.2.2.1 S.2.2.2.2.2.2.2.2.2.2.2.1 S.1 l0 l1 l2 l3 r0 r1 r2 r3 S.2.2.2.2.2.2.2.2.2.2.2.2.2.1 S.2.2.2.2.2.2.2.2.2.2.2.2.2.2.1 S.2.2.2.2.2.2.2.2.2.2.2.2.2.2.2.1 S.2.2.2.2.2.2.2.2.2.2.2.2.2.2.2.2 S.2.2.2.2.2.2.2.2.2.2.2.2.1).2.2.2.2.2.2.2.2.2.2)
theorem own_Sad {p3 p4 wl : Int32} {S : St} {l0 l1 l2 l3 r0 r1 r2 r3 : Int32} {k : Int} (h : own_BS k wl S) (hk : k ≤ 20) : own_BS (k + 1) wl (sad p3 p4 S l0 l1 l2 l3 r0 r1 r2 r3) := ⟨h.1, h.2.1, own_Badd h.2.2 hk⟩
set_option maxRecDepth 65536 in
set_option maxHeartbeats 40000000 in
theorem rmvad (l : Launch) (Z : State) (aw : Array Value) (hw : HW aw Z) (ws : List Jvm.Cond) (p3 p4 : Int32) (S : St) (wl l0 l1 l2 l3 r0 r1 r2 r3 : Int32) (a0 a1 a2 : Addr) (h0 : Heap) (n0 : Nat) (SZ0 : n0 ≤ h0.size) (W_a0 : own_V Z h0 n0 a0 S) (Gp : own_G Z h0 a1 wl l0 l1 l2 l3) (Hi : own_G Z h0 a2 wl r0 r1 r2 r3) (Ur : a1 < a0) (Us : a2 < a0) (k : Int) (IB : own_BS k wl S) (hk : k ≤ 20) (G0 : n0 ≤ a0) :
    MetFree l y13 (head1 (Jvm.Cond.code y13 Go 5 none :: ws) Qad) (fun a U => a = #[(.ref a0), (.ref a1), (.ref a2), (.int p3), (.int p4)] ∧ Z.Warmed39 U.vm ∧ U.heap = h0) (fun _ _ _ _ _ => True) (fun _ U o U' => ∃ v L, o = .returned v ∧ own_Q none (fun h L => Fr n0 L ∧ own_Low a0 h0 h ∧ own_V Z h n0 a0 (sad p3 p4 S l0 l1 l2 l3 r0 r1 r2 r3)) v U'.heap L ∧ FrameEnd U o U' L Qad.cells Qad.slots) := by
  obtain ⟨HD, rfl, IB⟩ := IB
  obtain ⟨B1, B2, B3, B4, B5, B6, B7, B8⟩ := own_BH IB hk
  exact rmwad l Z aw hw ws p3 p4 S.1 S.2.1 S.2.2.1 S.2.2.2.1 S.2.2.2.2.1 S.2.2.2.2.2.1 S.2.2.2.2.2.2.1 S.2.2.2.2.2.2.2.1 S.2.2.2.2.2.2.2.2.1 S.2.2.2.2.2.2.2.2.2.1 S.2.2.2.2.2.2.2.2.2.2.1 S.2.2.2.2.2.2.2.2.2.2.2.1 S.2.2.2.2.2.2.2.2.2.2.2.2.1 S.2.2.2.2.2.2.2.2.2.2.2.2.2.1 S.2.2.2.2.2.2.2.2.2.2.2.2.2.2.1 S.2.2.2.2.2.2.2.2.2.2.2.2.2.2.2.1 S.2.2.2.2.2.2.2.2.2.2.2.2.2.2.2.2 l0 l1 l2 l3 r0 r1 r2 r3 a0 a1 a2 h0 n0 SZ0 W_a0 Gp Hi Ur Us B1 B2 B3 B4 B5 B6 B7 B8 HD G0
def fwal (w ino alc cnt siz dif sz rng tsz ful nC nT nB t0 t1 t2 t3 : Int32) : Int32 × Int32 × Int32 × Int32 × Int32 × Int32 × Int32 × Int32 × Int32 := if ino = (0 : Int32) then ((1 : Int32), siz, (0 : Int32), sz, rng, tsz, nC, nT, siz) else ((1 : Int32), siz, (0 : Int32), (0 : Int32), (0 : Int32), (0 : Int32), (fbi_0 alc cnt siz dif sz rng tsz ful w t0 t1 t2 t3).1, (fbi_0 alc cnt siz dif sz rng tsz ful w t0 t1 t2 t3).2, nB)
set_option maxRecDepth 65536 in
set_option maxHeartbeats 40000000 in
theorem rmwal (l : Launch) (Z : State) (aw : Array Value) (hw : HW aw Z) (ws : List Jvm.Cond) (w ino alc cnt siz dif sz rng tsz ful nC nT nB t0 t1 t2 t3 : Int32) (a0 : Addr) (h0 : Heap) (n0 : Nat) (SZ0 : n0 ≤ h0.size) (W_a0 : own_W Z h0 n0 a0 w ino alc cnt siz dif sz rng tsz ful nC nT nB t0 t1 t2 t3) (HI : ino = 0 ∨ ino = 1) (HZ : 0 ≤ siz.toInt ∧ siz.toInt ≤ 3) (HS : 0 ≤ sz.toInt) (HS6 : sz.toInt ≤ 6) (HT : 0 ≤ tsz.toInt) (HT6 : tsz.toInt ≤ 6) (HD : w = 1 ∨ w = 4) (G0 : n0 ≤ a0) :
    MetFree l y14 (head1 (Jvm.Cond.code y14 Hp 1 none :: ws) Qbi) (fun a U => a = #[(.ref a0)] ∧ Z.Warmed39 U.vm ∧ U.heap = h0) (fun _ _ _ _ _ => True) (fun _ U o U' => ∃ v L, o = .returned v ∧ own_Q none (fun h L => Fr n0 L ∧ own_Low a0 h0 h ∧ own_W Z h n0 a0 w ino (fwal w ino alc cnt siz dif sz rng tsz ful nC nT nB t0 t1 t2 t3).1 (fwal w ino alc cnt siz dif sz rng tsz ful nC nT nB t0 t1 t2 t3).2.1 (fwal w ino alc cnt siz dif sz rng tsz ful nC nT nB t0 t1 t2 t3).2.2.1 dif (fwal w ino alc cnt siz dif sz rng tsz ful nC nT nB t0 t1 t2 t3).2.2.2.1 (fwal w ino alc cnt siz dif sz rng tsz ful nC nT nB t0 t1 t2 t3).2.2.2.2.1 (fwal w ino alc cnt siz dif sz rng tsz ful nC nT nB t0 t1 t2 t3).2.2.2.2.2.1 ful (fwal w ino alc cnt siz dif sz rng tsz ful nC nT nB t0 t1 t2 t3).2.2.2.2.2.2.1 (fwal w ino alc cnt siz dif sz rng tsz ful nC nT nB t0 t1 t2 t3).2.2.2.2.2.2.2.1 (fwal w ino alc cnt siz dif sz rng tsz ful nC nT nB t0 t1 t2 t3).2.2.2.2.2.2.2.2 t0 t1 t2 t3) v U'.heap L ∧ FrameEnd U o U' L Qbi.cells Qbi.slots) := by
  obtain ⟨sg, sS, sT, sL, sC, sA, bS, bE, bC, bL, Mq, Vz, W0, W1, W3, Ut, W6, W8, W9, Wa, Yq, Yr, Ys, Yt, Yu, Yv, Yw, Yx, Yy, Yz, Wt, G00, G01, G02, G03, Y3, G0i, G0j, G0k, G0m, G04, Y4, G0n, G0o, G0p, G0q, G05, G06, Y5, G0r, G0s, G0t, G0u, G07, G08, G09, Y6, G0v, G0w, G0x, G0y, G0a, G0b, G0c, G0d, Ga, Hz, Ja, J0, Gc, J6, Gk, J8, Gg, J9, Gb, J1, J2, M6, M0, M7, M1, Jt, M2, Ju, M3, Jv, M4, Jw, H6, Gx, Gy, Gv, Uf, Ug, Ud, Ue, Gm⟩ := W_a0
  have hsz := Ga.lt
  rcases HI with rfl | rfl
  · refine own_met (rmbo l Z aw hw ws alc cnt siz dif w a0 bS bE bC bL sg h0 n0 SZ0 Ga Hz Ja J0 Gc J6 Gk J8 Gg J9 Gb J1  HZ HD G0) ?_
    intro h L hk
    obtain ⟨qS, qE, qC, qL, NF, KP, Ui, Wv, Uj, Uk, nf_qS_qE, nf_qS_qC, nf_qE_qC, nf_qS_qL, nf_qE_qL, nf_qC_qL, r0, r1, r2, r3, r4, r5, r6, r7, r8, r9, r10, r11, r12, r13, r14, r15⟩ := hk
    exact ⟨NF, ⟨_, KP, allS (Nat.le_refl _) (all0)⟩, sg, sS, sT, sL, sC, sA, qS, qE, qC, qL, Mq, Vz, W0, W1, W3, Ut, Nat.lt_of_lt_of_le hsz Ui, Nat.lt_of_lt_of_le hsz Wv, Nat.lt_of_lt_of_le hsz Uj, Nat.lt_of_lt_of_le hsz Uk, Yq, Yr, Ys, Yt, Yu, Yv, Yw, Yx, Yy, Yz, Wt, G00, G01, G02, G03, (Nat.ne_of_lt (Nat.lt_of_lt_of_le J2.lt Ui)), (Nat.ne_of_lt (Nat.lt_of_lt_of_le H6.lt Ui)), (Nat.ne_of_lt (Nat.lt_of_lt_of_le Gx.lt Ui)), (Nat.ne_of_lt (Nat.lt_of_lt_of_le Gy.lt Ui)), (Nat.ne_of_lt (Nat.lt_of_lt_of_le Gv.lt Ui)), (Nat.ne_of_lt (Nat.lt_of_lt_of_le Gm.lt Ui)), (Nat.ne_of_lt (Nat.lt_of_lt_of_le J2.lt Wv)), (Nat.ne_of_lt (Nat.lt_of_lt_of_le H6.lt Wv)), (Nat.ne_of_lt (Nat.lt_of_lt_of_le Gx.lt Wv)), (Nat.ne_of_lt (Nat.lt_of_lt_of_le Gy.lt Wv)), (Nat.ne_of_lt (Nat.lt_of_lt_of_le Gv.lt Wv)), (Nat.ne_of_lt (Nat.lt_of_lt_of_le Gm.lt Wv)), nf_qS_qE, (Nat.ne_of_lt (Nat.lt_of_lt_of_le J2.lt Uj)), (Nat.ne_of_lt (Nat.lt_of_lt_of_le H6.lt Uj)), (Nat.ne_of_lt (Nat.lt_of_lt_of_le Gx.lt Uj)), (Nat.ne_of_lt (Nat.lt_of_lt_of_le Gy.lt Uj)), (Nat.ne_of_lt (Nat.lt_of_lt_of_le Gv.lt Uj)), (Nat.ne_of_lt (Nat.lt_of_lt_of_le Gm.lt Uj)), nf_qS_qC, nf_qE_qC, (Nat.ne_of_lt (Nat.lt_of_lt_of_le J2.lt Uk)), (Nat.ne_of_lt (Nat.lt_of_lt_of_le H6.lt Uk)), (Nat.ne_of_lt (Nat.lt_of_lt_of_le Gx.lt Uk)), (Nat.ne_of_lt (Nat.lt_of_lt_of_le Gy.lt Uk)), (Nat.ne_of_lt (Nat.lt_of_lt_of_le Gv.lt Uk)), (Nat.ne_of_lt (Nat.lt_of_lt_of_le Gm.lt Uk)), nf_qS_qL, nf_qE_qL, nf_qC_qL, r0, r1, r2, r3, r4, r5, r6, r7, r8, r9, r10, r11, (J2.keep KP), (M6.keep KP (ninS (Ne.symm (Nat.ne_of_lt Mq)) nin0)), (M0.keep KP (ninS (Ne.symm (Nat.ne_of_lt Mq)) nin0)), (M7.keep KP (ninS (Ne.symm (Nat.ne_of_lt Mq)) nin0)), (M1.keep KP (ninS (Ne.symm (Nat.ne_of_lt Mq)) nin0)), (Jt.keep KP (ninS (Ne.symm (Nat.ne_of_lt Mq)) nin0)), (M2.keep KP (ninS (Ne.symm (Nat.ne_of_lt Mq)) nin0)), (Ju.keep KP (ninS (Ne.symm (Nat.ne_of_lt Mq)) nin0)), (M3.keep KP (ninS (Ne.symm (Nat.ne_of_lt Mq)) nin0)), (Jv.keep KP (ninS (Ne.symm (Nat.ne_of_lt Mq)) nin0)), (M4.keep KP (ninS (Ne.symm (Nat.ne_of_lt Mq)) nin0)), (Jw.keep KP (ninS (Ne.symm (Nat.ne_of_lt Mq)) nin0)), (H6.keep KP (ninS (Ne.symm (Nat.ne_of_lt Vz)) nin0)), (Gx.keep KP (ninS (Ne.symm (Nat.ne_of_lt W0)) nin0)), (Gy.keep KP (ninS (Ne.symm (Nat.ne_of_lt W1)) nin0)), (Gv.keep KP (ninS (Ne.symm (Nat.ne_of_lt W3)) nin0)), r12, r13, r14, r15, (Gm.keep KP (ninS (Ne.symm (Nat.ne_of_lt Ut)) nin0))⟩
  · refine own_met (rmbi l Z aw hw ws alc cnt siz dif sz rng tsz ful w t0 t1 t2 t3 a0 sg sS sT sL sC sA bS bE bC bL h0 n0 SZ0 Ga Hz Ja J0 Gc J6 Gk J8 Gg J9 Gb J1 J2 M6 M0 M7 M1 Jt M2 Ju M3 Jv M4 Jw Gm (Nat.ne_of_lt Mq) (Nat.ne_of_lt Ut) Wt HS HS6 HT HT6 HD G0 (Nat.le_trans G0 (Nat.le_of_lt Mq))) ?_
    intro h L hk
    obtain ⟨qS, qT, qL, qC, NF, KP, Ui, Ww, Uk, Uj, nf_qS_qT, nf_qS_qL, nf_qT_qL, nf_qS_qC, nf_qT_qC, nf_qL_qC, r0, r1, r2, r3, r4, r5, r6, r7, r8, r9, r10, r11, r12, r13, r14, r15, r16, r17, r18, r19, r20, r21, r22, r23, r24, r25, r26, r27⟩ := hk
    exact ⟨NF, ⟨_, KP, allS (Nat.le_refl _) (allS (Nat.le_of_lt Mq) (all0))⟩, sg, qS, qT, qL, qC, sA, bS, bE, bC, bL, Mq, Nat.lt_of_lt_of_le hsz Ui, Nat.lt_of_lt_of_le hsz Ww, Nat.lt_of_lt_of_le hsz Uk, Nat.lt_of_lt_of_le hsz Uj, Ut, W6, W8, W9, Wa, (Nat.ne_of_lt (Nat.lt_of_lt_of_le J2.lt Ui)), (Nat.ne_of_lt (Nat.lt_of_lt_of_le J2.lt Ww)), nf_qS_qT, (Nat.ne_of_lt (Nat.lt_of_lt_of_le J2.lt Uk)), nf_qS_qL, nf_qT_qL, (Nat.ne_of_lt (Nat.lt_of_lt_of_le J2.lt Uj)), nf_qS_qC, nf_qT_qC, nf_qL_qC, Wt, (Ne.symm (Nat.ne_of_lt (Nat.lt_of_lt_of_le Gm.lt Ui))), (Ne.symm (Nat.ne_of_lt (Nat.lt_of_lt_of_le Gm.lt Ww))), (Ne.symm (Nat.ne_of_lt (Nat.lt_of_lt_of_le Gm.lt Uk))), (Ne.symm (Nat.ne_of_lt (Nat.lt_of_lt_of_le Gm.lt Uj))), Y3, (Ne.symm (Nat.ne_of_lt (Nat.lt_of_lt_of_le Uf.lt Ui))), (Ne.symm (Nat.ne_of_lt (Nat.lt_of_lt_of_le Uf.lt Ww))), (Ne.symm (Nat.ne_of_lt (Nat.lt_of_lt_of_le Uf.lt Uk))), (Ne.symm (Nat.ne_of_lt (Nat.lt_of_lt_of_le Uf.lt Uj))), G04, Y4, (Ne.symm (Nat.ne_of_lt (Nat.lt_of_lt_of_le Ug.lt Ui))), (Ne.symm (Nat.ne_of_lt (Nat.lt_of_lt_of_le Ug.lt Ww))), (Ne.symm (Nat.ne_of_lt (Nat.lt_of_lt_of_le Ug.lt Uk))), (Ne.symm (Nat.ne_of_lt (Nat.lt_of_lt_of_le Ug.lt Uj))), G05, G06, Y5, (Ne.symm (Nat.ne_of_lt (Nat.lt_of_lt_of_le Ud.lt Ui))), (Ne.symm (Nat.ne_of_lt (Nat.lt_of_lt_of_le Ud.lt Ww))), (Ne.symm (Nat.ne_of_lt (Nat.lt_of_lt_of_le Ud.lt Uk))), (Ne.symm (Nat.ne_of_lt (Nat.lt_of_lt_of_le Ud.lt Uj))), G07, G08, G09, Y6, (Ne.symm (Nat.ne_of_lt (Nat.lt_of_lt_of_le Ue.lt Ui))), (Ne.symm (Nat.ne_of_lt (Nat.lt_of_lt_of_le Ue.lt Ww))), (Ne.symm (Nat.ne_of_lt (Nat.lt_of_lt_of_le Ue.lt Uk))), (Ne.symm (Nat.ne_of_lt (Nat.lt_of_lt_of_le Ue.lt Uj))), G0a, G0b, G0c, G0d, r0, r1, r2, r3, r4, r5, r6, r7, r8, r9, r10, r11, r12, r13, r14, r15, r16, r17, r18, r19, r20, r21, r22, r23, r24, r25, r26, r27, (Uf.keep KP (ninS (Ne.symm (Nat.ne_of_lt W6)) (ninS (Ne.symm Y3) nin0))), (Ug.keep KP (ninS (Ne.symm (Nat.ne_of_lt W8)) (ninS (Ne.symm Y4) nin0))), (Ud.keep KP (ninS (Ne.symm (Nat.ne_of_lt W9)) (ninS (Ne.symm Y5) nin0))), (Ue.keep KP (ninS (Ne.symm (Nat.ne_of_lt Wa)) (ninS (Ne.symm Y6) nin0))), (Gm.keep KP (ninS (Ne.symm (Nat.ne_of_lt Ut)) (ninS (Ne.symm Wt) nin0)))⟩
theorem own_Bal {w ino alc cnt siz dif sz rng tsz ful nC nT nB t0 t1 t2 t3 : Int32} {k : Int} (h : own_B k ino siz sz tsz nC nT nB) (hk : k ≤ 3) : own_B k ino (fwal w ino alc cnt siz dif sz rng tsz ful nC nT nB t0 t1 t2 t3).2.2.1 (fwal w ino alc cnt siz dif sz rng tsz ful nC nT nB t0 t1 t2 t3).2.2.2.1 (fwal w ino alc cnt siz dif sz rng tsz ful nC nT nB t0 t1 t2 t3).2.2.2.2.2.1 (fwal w ino alc cnt siz dif sz rng tsz ful nC nT nB t0 t1 t2 t3).2.2.2.2.2.2.1 (fwal w ino alc cnt siz dif sz rng tsz ful nC nT nB t0 t1 t2 t3).2.2.2.2.2.2.2.1 (fwal w ino alc cnt siz dif sz rng tsz ful nC nT nB t0 t1 t2 t3).2.2.2.2.2.2.2.2 := by
  obtain ⟨ha, hb, hc, hd, he, hf, hg⟩ := h
  have i1 := own_tot hc.1 (by omega) (own_ga rng ful)
  have i2 := own_tot hd.1 (by omega) (own_tl rng ful w t0 t1 t2 t3)
  have z0 : (0 : Int32).toInt = 0 := rfl
  unfold fwal
  split
  · exact ⟨ha, by show 0 ≤ (0 : Int32).toInt ∧ (0 : Int32).toInt ≤ k; omega, hc, hd, he, hf, by show 0 ≤ siz.toInt ∧ siz.toInt ≤ 20; omega⟩
  · exact ⟨ha, by show 0 ≤ (0 : Int32).toInt ∧ (0 : Int32).toInt ≤ k; omega, by show 0 ≤ (0 : Int32).toInt ∧ (0 : Int32).toInt ≤ 2 * k; omega, by show 0 ≤ (0 : Int32).toInt ∧ (0 : Int32).toInt ≤ 2 * k; omega, by show 0 ≤ (sz + fga_0 rng ful).toInt ∧ (sz + fga_0 rng ful).toInt ≤ 20; omega, by show 0 ≤ (tsz + ftl_0 rng ful w t0 t1 t2 t3).toInt ∧ (tsz + ftl_0 rng ful w t0 t1 t2 t3).toInt ≤ 20; omega, hg⟩
def sal (S : St) : St := (S.1, S.2.1, (fwal S.1 S.2.1 S.2.2.1 S.2.2.2.1 S.2.2.2.2.1 S.2.2.2.2.2.1 S.2.2.2.2.2.2.1 S.2.2.2.2.2.2.2.1 S.2.2.2.2.2.2.2.2.1 S.2.2.2.2.2.2.2.2.2.1 S.2.2.2.2.2.2.2.2.2.2.1 S.2.2.2.2.2.2.2.2.2.2.2.1 S.2.2.2.2.2.2.2.2.2.2.2.2.1 S.2.2.2.2.2.2.2.2.2.2.2.2.2.1 S.2.2.2.2.2.2.2.2.2.2.2.2.2.2.1 S.2.2.2.2.2.2.2.2.2.2.2.2.2.2.2.1 S.2.2.2.2.2.2.2.2.2.2.2.2.2.2.2.2).1, (fwal S.1 S.2.1 S.2.2.1 S.2.2.2.1 S.2.2.2.2.1 S.2.2.2.2.2.1 S.2.2.2.2.2.2.1 S.2.2.2.2.2.2.2.1 S.2.2.2.2.2.2.2.2.1 S.2.2.2.2.2.2.2.2.2.1 S.2.2.2.2.2.2.2.2.2.2.1 S.2.2.2.2.2.2.2.2.2.2.2.1 S.2.2.2.2.2.2.2.2.2.2.2.2.1 S.2.2.2.2.2.2.2.2.2.2.2.2.2.1 S.2.2.2.2.2.2.2.2.2.2.2.2.2.2.1 S.2.2.2.2.2.2.2.2.2.2.2.2.2.2.2.1 S.2.2.2.2.2.2.2.2.2.2.2.2.2.2.2.2).2.1, (fwal S.1 S.2.1 S.2.2.1 S.2.2.2.1 S.2.2.2.2.1 S.2.2.2.2.2.1 S.2.2.2.2.2.2.1 S.2.2.2.2.2.2.2.1 S.2.2.2.2.2.2.2.2.1 S.2.2.2.2.2.2.2.2.2.1 S.2.2.2.2.2.2.2.2.2.2.1 S.2.2.2.2.2.2.2.2.2.2.2.1 S.2.2.2.2.2.2.2.2.2.2.2.2.1 S.2.2.2.2.2.2.2.2.2.2.2.2.2.1 S.2.2.2.2.2.2.2.2.2.2.2.2.2.2.1 S.2.2.2.2.2.2.2.2.2.2.2.2.2.2.2.1 S.2.2.2.2.2.2.2.2.2.2.2.2.2.2.2.2).2.2.1, S.2.2.2.2.2.1, (fwal S.1 S.2.1 S.2.2.1 S.2.2.2.1 S.2.2.2.2.1 S.2.2.2.2.2.1 S.2.2.2.2.2.2.1 S.2.2.2.2.2.2.2.1 S.2.2.2.2.2.2.2.2.1 S.2.2.2.2.2.2.2.2.2.1 S.2.2.2.2.2.2.2.2.2.2.1 S.2.2.2.2.2.2.2.2.2.2.2.1 S.2.2.2.2.2.2.2.2.2.2.2.2.1 S.2.2.2.2.2.2.2.2.2.2.2.2.2.1 S.2.2.2.2.2.2.2.2.2.2.2.2.2.2.1 S.2.2.2.2.2.2.2.2.2.2.2.2.2.2.2.1 S.2.2.2.2.2.2.2.2.2.2.2.2.2.2.2.2).2.2.2.1, (fwal S.1 S.2.1 S.2.2.1 S.2.2.2.1 S.2.2.2.2.1 S.2.2.2.2.2.1 S.2.2.2.2.2.2.1 S.2.2.2.2.2.2.2.1 S.2.2.2.2.2.2.2.2.1 S.2.2.2.2.2.2.2.2.2.1 S.2.2.2.2.2.2.2.2.2.2.1 S.2.2.2.2.2.2.2.2.2.2.2.1 S.2.2.2.2.2.2.2.2.2.2.2.2.1 S.2.2.2.2.2.2.2.2.2.2.2.2.2.1 S.2.2.2.2.2.2.2.2.2.2.2.2.2.2.1 S.2.2.2.2.2.2.2.2.2.2.2.2.2.2.2.1 S.2.2.2.2.2.2.2.2.2.2.2.2.2.2.2.2).2.2.2.2.1, (fwal S.1 S.2.1 S.2.2.1 S.2.2.2.1 S.2.2.2.2.1 S.2.2.2.2.2.1 S.2.2.2.2.2.2.1 S.2.2.2.2.2.2.2.1 S.2.2.2.2.2.2.2.2.1 S.2.2.2.2.2.2.2.2.2.1 S.2.2.2.2.2.2.2.2.2.2.1 S.2.2.2.2.2.2.2.2.2.2.2.1 S.2.2.2.2.2.2.2.2.2.2.2.2.1 S.2.2.2.2.2.2.2.2.2.2.2.2.2.1 S.2.2.2.2.2.2.2.2.2.2.2.2.2.2.1 S.2.2.2.2.2.2.2.2.2.2.2.2.2.2.2.1 S.2.2.2.2.2.2.2.2.2.2.2.2.2.2.2.2).2.2.2.2.2.1, S.2.2.2.2.2.2.2.2.2.1, (fwal S.1 S.2.1 S.2.2.1 S.2.2.2.1 S.2.2.2.2.1 S.2.2.2.2.2.1 S.2.2.2.2.2.2.1 S.2.2.2.2.2.2.2.1 S.2.2.2.2.2.2.2.2.1 S.2.2.2.2.2.2.2.2.2.1 S.2.2.2.2.2.2.2.2.2.2.1 S.2.2.2.2.2.2.2.2.2.2.2.1 S.2.2.2.2.2.2.2.2.2.2.2.2.1 S.2.2.2.2.2.2.2.2.2.2.2.2.2.1 S.2.2.2.2.2.2.2.2.2.2.2.2.2.2.1 S.2.2.2.2.2.2.2.2.2.2.2.2.2.2.2.1 S.2.2.2.2.2.2.2.2.2.2.2.2.2.2.2.2).2.2.2.2.2.2.1, (fwal S.1 S.2.1 S.2.2.1 S.2.2.2.1 S.2.2.2.2.1 S.2.2.2.2.2.1 S.2.2.2.2.2.2.1 S.2.2.2.2.2.2.2.1 S.2.2.2.2.2.2.2.2.1 S.2.2.2.2.2.2.2.2.2.1 S.2.2.2.2.2.2.2.2.2.2.1 S.2.2.2.2.2.2.2.2.2.2.2.1 S.2.2.2.2.2.2.2.2.2.2.2.2.1 S.2.2.2.2.2.2.2.2.2.2.2.2.2.1 S.2.2.2.2.2.2.2.2.2.2.2.2.2.2.1 S.2.2.2.2.2.2.2.2.2.2.2.2.2.2.2.1 S.2.2.2.2.2.2.2.2.2.2.2.2.2.2.2.2).2.2.2.2.2.2.2.1, (fwal S.1 S.2.1 S.2.2.1 S.2.2.2.1 S.2.2.2.2.1 S.2.2.2.2.2.1 S.2.2.2.2.2.2.1 S.2.2.2.2.2.2.2.1 S.2.2.2.2.2.2.2.2.1 S.2.2.2.2.2.2.2.2.2.1 S.2.2.2.2.2.2.2.2.2.2.1 S.2.2.2.2.2.2.2.2.2.2.2.1 S.2.2.2.2.2.2.2.2.2.2.2.2.1 S.2.2.2.2.2.2.2.2.2.2.2.2.2.1 S.2.2.2.2.2.2.2.2.2.2.2.2.2.2.1 S.2.2.2.2.2.2.2.2.2.2.2.2.2.2.2.1 S.2.2.2.2.2.2.2.2.2.2.2.2.2.2.2.2).2.2.2.2.2.2.2.2, S.2.2.2.2.2.2.2.2.2.2.2.2.2.1, S.2.2.2.2.2.2.2.2.2.2.2.2.2.2.1, S.2.2.2.2.2.2.2.2.2.2.2.2.2.2.2.1, S.2.2.2.2.2.2.2.2.2.2.2.2.2.2.2.2)
theorem own_Sal {S : St} {k : Int} {w : Int32} (h : own_BS k w S) (hk : k ≤ 3) : own_BS k w (sal S) := ⟨h.1, h.2.1, own_Bal h.2.2 hk⟩
set_option maxRecDepth 65536 in
set_option maxHeartbeats 40000000 in
theorem rmval (l : Launch) (Z : State) (aw : Array Value) (hw : HW aw Z) (ws : List Jvm.Cond) (S : St) (a0 : Addr) (h0 : Heap) (n0 : Nat) (SZ0 : n0 ≤ h0.size) (W_a0 : own_V Z h0 n0 a0 S) (k : Int) (w : Int32) (IB : own_BS k w S) (hk : k ≤ 3) (G0 : n0 ≤ a0) :
    MetFree l y14 (head1 (Jvm.Cond.code y14 Hp 1 none :: ws) Qbi) (fun a U => a = #[(.ref a0)] ∧ Z.Warmed39 U.vm ∧ U.heap = h0) (fun _ _ _ _ _ => True) (fun _ U o U' => ∃ v L, o = .returned v ∧ own_Q none (fun h L => Fr n0 L ∧ own_Low a0 h0 h ∧ own_V Z h n0 a0 (sal S)) v U'.heap L ∧ FrameEnd U o U' L Qbi.cells Qbi.slots) := by
  obtain ⟨HD, rfl, IB⟩ := IB
  obtain ⟨B1, B2, B3, B4, B5, B6⟩ := own_BA IB hk
  exact rmwal l Z aw hw ws S.1 S.2.1 S.2.2.1 S.2.2.2.1 S.2.2.2.2.1 S.2.2.2.2.2.1 S.2.2.2.2.2.2.1 S.2.2.2.2.2.2.2.1 S.2.2.2.2.2.2.2.2.1 S.2.2.2.2.2.2.2.2.2.1 S.2.2.2.2.2.2.2.2.2.2.1 S.2.2.2.2.2.2.2.2.2.2.2.1 S.2.2.2.2.2.2.2.2.2.2.2.2.1 S.2.2.2.2.2.2.2.2.2.2.2.2.2.1 S.2.2.2.2.2.2.2.2.2.2.2.2.2.2.1 S.2.2.2.2.2.2.2.2.2.2.2.2.2.2.2.1 S.2.2.2.2.2.2.2.2.2.2.2.2.2.2.2.2 a0 h0 n0 SZ0 W_a0 B1 B2 B3 B4 B5 B6 HD G0
def ska (S : St) : Int32 := fka_0 S.2.1 S.2.2.1 S.2.2.2.1 S.2.2.2.2.1 S.2.2.2.2.2.1 S.2.2.2.2.2.2.1 S.2.2.2.2.2.2.2.1 S.2.2.2.2.2.2.2.2.1 S.2.2.2.2.2.2.2.2.2.1 S.2.2.2.2.2.2.2.2.2.2.1 S.2.2.2.2.2.2.2.2.2.2.2.1 S.1 S.2.2.2.2.2.2.2.2.2.2.2.2.2.1 S.2.2.2.2.2.2.2.2.2.2.2.2.2.2.1 S.2.2.2.2.2.2.2.2.2.2.2.2.2.2.2.1 S.2.2.2.2.2.2.2.2.2.2.2.2.2.2.2.2
set_option maxRecDepth 65536 in
set_option maxHeartbeats 40000000 in
theorem rmvka (l : Launch) (Z : State) (aw : Array Value) (hw : HW aw Z) (ws : List Jvm.Cond) (S : St) (a0 : Addr) (h0 : Heap) (n0 : Nat) (SZ0 : n0 ≤ h0.size) (W_a0 : own_V Z h0 n0 a0 S) (k : Int) (w : Int32) (IB : own_BS k w S) (G0 : n0 ≤ a0) :
    MetFree l y15 (head1 (Jvm.Cond.code y15 Md 1 (some .boolean) :: ws) Qka) (fun a U => a = #[(.ref a0)] ∧ Z.Warmed39 U.vm ∧ U.heap = h0) (fun _ _ _ _ _ => True) (fun _ U o U' => ∃ v L, o = .returned v ∧ own_Q (some (.int (ska S))) (fun h L => Fr n0 L ∧ Keep h0 h []) v U'.heap L ∧ FrameEnd U o U' L Qka.cells Qka.slots) := by
  obtain ⟨HD, rfl, -⟩ := IB
  obtain ⟨sg, sS, sT, sL, sC, sA, bS, bE, bC, bL, Mq, Vz, W0, W1, W3, Ut, W6, W8, W9, Wa, Yq, Yr, Ys, Yt, Yu, Yv, Yw, Yx, Yy, Yz, Wt, G00, G01, G02, G03, Y3, G0i, G0j, G0k, G0m, G04, Y4, G0n, G0o, G0p, G0q, G05, G06, Y5, G0r, G0s, G0t, G0u, G07, G08, G09, Y6, G0v, G0w, G0x, G0y, G0a, G0b, G0c, G0d, Ga, Hz, Ja, J0, Gc, J6, Gk, J8, Gg, J9, Gb, J1, J2, M6, M0, M7, M1, Jt, M2, Ju, M3, Jv, M4, Jw, H6, Gx, Gy, Gv, Uf, Ug, Ud, Ue, Gm⟩ := W_a0
  exact own_met (rmka l Z aw hw ws S.2.1 S.2.2.1 S.2.2.2.1 S.2.2.2.2.1 S.2.2.2.2.2.1 S.2.2.2.2.2.2.1 S.2.2.2.2.2.2.2.1 S.2.2.2.2.2.2.2.2.1 S.2.2.2.2.2.2.2.2.2.1 S.2.2.2.2.2.2.2.2.2.2.1 S.2.2.2.2.2.2.2.2.2.2.2.1 S.1 S.2.2.2.2.2.2.2.2.2.2.2.2.2.1 S.2.2.2.2.2.2.2.2.2.2.2.2.2.2.1 S.2.2.2.2.2.2.2.2.2.2.2.2.2.2.2.1 S.2.2.2.2.2.2.2.2.2.2.2.2.2.2.2.2 a0 sg sS sT sL sC sA bS bE bC bL h0 n0 SZ0 Ga Hz Ja J0 Gc J6 Gk J8 Gg J9 Gb J1 J2 M6 M0 M7 M1 Jt M2 Ju M3 Jv M4 Jw Gv Gx Gm  HD) (fun _ _ hk => hk)
/-! body 2 -/
theorem d2_0 : De Uu 0 (.iload_n 0) 1 := by decide +kernel
theorem d2_1 : De Uu 1 (.ldc 9) 2 := by decide +kernel
theorem d2_3 : De Uu 3 (.ixor) 1 := by decide +kernel
theorem d2_4 : De Uu 4 (.iload_n 1) 1 := by decide +kernel
theorem d2_5 : De Uu 5 (.ldc 9) 2 := by decide +kernel
theorem d2_7 : De Uu 7 (.ixor) 1 := by decide +kernel
theorem d2_8 : De Uu 8 (.if_icmp .ge 7) 3 := by decide +kernel
theorem d2_11 : De Uu 11 (.iconst 1) 1 := by decide +kernel
theorem d2_12 : De Uu 12 (.goto 4) 3 := by decide +kernel
theorem d2_15 : De Uu 15 (.iconst 0) 1 := by decide +kernel
theorem d2_16 : De Uu 16 (.ireturn) 1 := by decide +kernel
theorem own_pn4 : plainName cL = true := by first | (simp [plainName, overriddenIn]; done) | decide +kernel
def f2_0 (p0 p1 : Int32) : Int32 := (if (p0 ^^^ (-2147483648 : Int32)) < (p1 ^^^ (-2147483648 : Int32)) then (1 : Int32) else (0 : Int32))
set_option maxRecDepth 65536 in
set_option maxHeartbeats 40000000 in
theorem g2_0 (hw : HW aw Z) {h0 : Heap} (p0 p1 : Int32)
    (Bd : BodyLoose p l (⟨cL, "ult", "(II)Z"⟩ : MethodName) (head1 (Jvm.Cond.code (⟨cL, "ult", "(II)Z"⟩ : MethodName) Uu 2 (some .boolean) :: ws) Qz) Uu 2 (some .boolean) e s m #[(.int p0), (.int p1)] below meth c s₁) (hml : c.maxLocals = 2) (hZ : Z.Warmed39 s.vm) (T0 : State) (X0 : Stand p l e Qz s m #[(.int p0), (.int p1)] below meth c T0 [] 0 0) (e0 : T0.heap = h0) :
    own_Go p e below s Qz.cells Qz.slots (some (.int (f2_0 p0 p1))) (own_K0 h0) (T0.setTop (mkF m 0 #[iv p0, iv p1] [])) := by
  have hx := Bd.exec
  have hby := Bd.bytes
  have hown : s.vm.findClass cL = some m.cls := findClass_of_methodNamed Bd.named
  unfold f2_0
  refine op T0 (mkF m 1 #[iv p0, iv p1] [(.int p0)]) (fun _ k => XS.iloadN X0.here hx rfl (hb hby d2_0) rfl k) ?_
  refine op T0 (mkF m 3 #[iv p0, iv p1] [(.int (-2147483648 : Int32)), (.int p0)]) (fun _ k => X0.ldcInt hx hown (mvT hZ (ow hw 7 rfl)) (g := (mkF m 1 #[iv p0, iv p1] [(.int p0)])) rfl (hb hby d2_1) _ k) ?_
  refine op T0 (mkF m 5 #[iv p0, iv p1] [(.int p1), (.int (p0 ^^^ (-2147483648 : Int32)))]) (fun _ k => XS.ixor X0.here hx rfl (hb hby d2_3) rfl (XS.iloadN X0.here hx rfl (hb hby d2_4) rfl k)) ?_
  refine op T0 (mkF m 7 #[iv p0, iv p1] [(.int (-2147483648 : Int32)), (.int p1), (.int (p0 ^^^ (-2147483648 : Int32)))]) (fun _ k => X0.ldcInt hx hown (mvT hZ (ow hw 7 rfl)) (g := (mkF m 5 #[iv p0, iv p1] [(.int p1), (.int (p0 ^^^ (-2147483648 : Int32)))])) rfl (hb hby d2_5) _ k) ?_
  refine op T0 (mkF m 8 #[iv p0, iv p1] [(.int (p1 ^^^ (-2147483648 : Int32))), (.int (p0 ^^^ (-2147483648 : Int32)))]) (fun _ k => XS.ixor X0.here hx rfl (hb hby d2_7) rfl k) ?_
  refine own_iteI (fun hc8 => ?_) (fun hc8 => ?_)
  · skip
    refine op T0 (mkF m 16 #[iv p0, iv p1] [(.int 1)]) (fun _ k => XS.icmpNo X0.here hx rfl (hb hby d2_8) rfl (tlt hc8).2.1 (XS.iconst X0.here hx rfl (hb hby d2_11) (XS.goto X0.here hx rfl (pc0 := 12) (pc' := 16) rfl (hb hby d2_12) (by decide) (by decide) k))) ?_
    exact own_ret X0 hx Bd.notSynchronized Bd.returns rfl (Or.inl ⟨rfl, by simp, _, rfl⟩) (hb hby d2_16) ⟨rfl, e0⟩ (by decide) (by decide)
  · skip
    refine op T0 (mkF m 16 #[iv p0, iv p1] [(.int 0)]) (fun _ k => XS.icmpYes X0.here hx rfl (pc0 := 8) (pc' := 15) rfl (hb hby d2_8) rfl (flt hc8).2.1 (by decide) (by decide) (XS.iconst X0.here hx rfl (hb hby d2_15) k)) ?_
    exact own_ret X0 hx Bd.notSynchronized Bd.returns rfl (Or.inl ⟨rfl, by simp, _, rfl⟩) (hb hby d2_16) ⟨rfl, e0⟩ (by decide) (by decide)
theorem ef_2 (m : MethodId) (p0 p1 : Int32) : entryFrame m #[(.int p0), (.int p1)] 2 = mkF m 0 #[iv p0, iv p1] [] := by first | (simp [entryFrame, mkF, argsToLocals, Value.category]; done) | rfl
set_option maxRecDepth 65536 in
set_option maxHeartbeats 40000000 in
theorem rm2 (l : Launch) (Z : State) (aw : Array Value) (hw : HW aw Z) (ws : List Jvm.Cond) (p0 p1 : Int32) (h0 : Heap) :
    MetFree l (⟨cL, "ult", "(II)Z"⟩ : MethodName) (head1 (Jvm.Cond.code (⟨cL, "ult", "(II)Z"⟩ : MethodName) Uu 2 (some .boolean) :: ws) Qz) (fun a U => a = #[(.int p0), (.int p1)] ∧ Z.Warmed39 U.vm ∧ U.heap = h0) (fun _ _ _ _ _ => True) (fun _ U o U' => ∃ v L, o = .returned v ∧ own_Q (some (.int (f2_0 p0 p1))) (own_K0 h0) v U'.heap L ∧ FrameEnd U o U' L Qz.cells Qz.slots) := by
  refine MetFree.of_bodySF (plainFor_of_name own_pn4) hisR ?_
  intro p e s m args below meth c s₁ Bd hml0 hP hK
  obtain ⟨rfl, hZ, hh⟩ := hP
  have hml : c.maxLocals = 2 := hml0
  have e0 : s₁.heap = h0 := by rw [← hh, Bd.state]; rfl
  exact own_pre (fun t k => castTop (ef_2 m p0 p1) k) (g2_0 hw p0 p1 Bd hml hZ s₁ (Stand.of_body Bd) e0)
theorem own_pd9 : parseMethodDescriptor "(II)Z" = some ⟨[.int, .int], some .boolean⟩ := by decide +kernel
/-! body 1 -/
theorem d1_0 : De U8 0 (.lload_n 0) 1 := by decide +kernel
theorem d1_1 : De U8 1 (.l2i) 1 := by decide +kernel
theorem d1_2 : De U8 2 (.istore_n 2) 1 := by decide +kernel
theorem d1_3 : De U8 3 (.lload_n 0) 1 := by decide +kernel
theorem d1_4 : De U8 4 (.bipush 32) 2 := by decide +kernel
theorem d1_6 : De U8 6 (.lushr) 1 := by decide +kernel
theorem d1_7 : De U8 7 (.l2i) 1 := by decide +kernel
theorem d1_8 : De U8 8 (.istore_n 3) 1 := by decide +kernel
theorem d1_9 : De U8 9 (.iload_n 3) 1 := by decide +kernel
theorem d1_10 : De U8 10 (.iload_n 2) 1 := by decide +kernel
theorem d1_11 : De U8 11 (.invokestatic 10) 3 := by decide +kernel
theorem d1_14 : De U8 14 (.ifCond .eq 7) 3 := by decide +kernel
theorem d1_17 : De U8 17 (.iload_n 3) 1 := by decide +kernel
theorem d1_18 : De U8 18 (.goto 4) 3 := by decide +kernel
theorem d1_21 : De U8 21 (.iload_n 2) 1 := by decide +kernel
theorem d1_22 : De U8 22 (.ireturn) 1 := by decide +kernel
def f1_0 (q0 : Int64) : Int32 := (if (f2_0 (((q0.toUInt64 >>> ((32 : Int32) &&& 0x3f).toInt64.toUInt64).toInt64).toInt32) (q0.toInt32)) = (0 : Int32) then (q0.toInt32) else (((q0.toUInt64 >>> ((32 : Int32) &&& 0x3f).toInt64.toUInt64).toInt64).toInt32))
set_option maxRecDepth 65536 in
set_option maxHeartbeats 40000000 in
theorem g1_0 (hw : HW aw Z) {h0 : Heap} (q0 : Int64)
    (Bd : BodyLoose p l (⟨cL, "lo", "(J)I"⟩ : MethodName) (head1 (Jvm.Cond.code (⟨cL, "lo", "(J)I"⟩ : MethodName) U8 4 (some .int) :: ws) ({ frames := 1, cells := 0, slots := 0, locals := 21 } : Room)) U8 4 (some .int) e s m #[(.long q0)] below meth c s₁) (hml : c.maxLocals = 4) (hZ : Z.Warmed39 s.vm) (T0 : State) (X0 : Stand p l e ({ frames := 1, cells := 0, slots := 0, locals := 21 } : Room) s m #[(.long q0)] below meth c T0 [] 0 0) (e0 : T0.heap = h0) :
    own_Go p e below s ({ frames := 1, cells := 0, slots := 0, locals := 21 } : Room).cells ({ frames := 1, cells := 0, slots := 0, locals := 21 } : Room).slots (some (.int (f1_0 q0))) (own_K0 h0) (T0.setTop (mkF m 0 #[lv q0, se, uu, uu] [])) := by
  have hx := Bd.exec
  have hby := Bd.bytes
  have hown : s.vm.findClass cL = some m.cls := findClass_of_methodNamed Bd.named
  unfold f1_0
  refine op T0 (mkF m 9 #[lv q0, se, .val (.int (q0.toInt32)), .val (.int (((q0.toUInt64 >>> ((32 : Int32) &&& 0x3f).toInt64.toUInt64).toInt64).toInt32))] []) (fun _ k => XS.lloadN X0.here hx rfl (hb hby d1_0) rfl (XS.l2i X0.here hx rfl (hb hby d1_1) rfl (XS.istoreN X0.here hx rfl (hb hby d1_2) rfl (l' := #[lv q0, se, .val (.int (q0.toInt32)), uu]) rfl (XS.lloadN X0.here hx rfl (hb hby d1_3) rfl (XS.bipush X0.here hx rfl (hb hby d1_4) (XS.lushr X0.here hx rfl (hb hby d1_6) rfl (XS.l2i X0.here hx rfl (hb hby d1_7) rfl (XS.istoreN X0.here hx rfl (hb hby d1_8) rfl (l' := #[lv q0, se, .val (.int (q0.toInt32)), .val (.int (((q0.toUInt64 >>> ((32 : Int32) &&& 0x3f).toInt64.toUInt64).toInt64).toInt32))]) rfl k)))))))) ?_
  refine op T0 (mkF m 11 #[lv q0, se, .val (.int (q0.toInt32)), .val (.int (((q0.toUInt64 >>> ((32 : Int32) &&& 0x3f).toInt64.toUInt64).toInt64).toInt32))] [(.int (q0.toInt32)), (.int (((q0.toUInt64 >>> ((32 : Int32) &&& 0x3f).toInt64.toUInt64).toInt64).toInt32))]) (fun _ k => XS.iloadN X0.here hx rfl (hb hby d1_9) rfl (XS.iloadN X0.here hx rfl (hb hby d1_10) rfl k)) ?_
  obtain ⟨_, _, ⟨T1, L', k', n'⟩, -, X'', ⟨Lc', hQ', l', y', z'⟩, st'⟩ := Jvm.LawKit.callS X0 hx (y := (⟨cL, "ult", "(II)Z"⟩ : MethodName)) hown (mvT hZ (ow hw 4 rfl)) (mvT hZ (ow hw 5 rfl)) (mvT hZ (ow hw 2 rfl)) (mvT hZ (ow hw 6 rfl)) (by decide) (backOf (W := 0) (rm2 l Z aw hw [] (((q0.toUInt64 >>> ((32 : Int32) &&& 0x3f).toInt64.toUInt64).toInt64).toInt32) (q0.toInt32) h0) hZ (ow hw 6 rfl) (ow hw 2 rfl) (by decide) (by decide)) (g := (mkF m 11 #[lv q0, se, .val (.int (q0.toInt32)), .val (.int (((q0.toUInt64 >>> ((32 : Int32) &&& 0x3f).toInt64.toUInt64).toInt64).toInt32))] [(.int (q0.toInt32)), (.int (((q0.toUInt64 >>> ((32 : Int32) &&& 0x3f).toInt64.toUInt64).toInt64).toInt32))])) rfl (by rw [hml]; rfl) (argsL := [(.int (((q0.toUInt64 >>> ((32 : Int32) &&& 0x3f).toInt64.toUInt64).toInt64).toInt32)), (.int (q0.toInt32))]) (rest := []) (lenOf own_pd9 rfl) rfl (by show 2 * 0 + _ ≤ _; exact Nat.le_of_eq rfl) (hb hby d1_11) (fun _ _ => ⟨rfl, e0, (by decide : 0 + 0 ≤ _), (by decide : 0 + 0 ≤ _)⟩)
  dsimp only [Pt.U, Pt.locs, Pt.cells, Pt.slots] at X'' l' y' z' st' hQ'
  subst l' y' z'
  obtain ⟨rfl, rfl, e1⟩ := hQ'
  have X1 : Stand p l e ({ frames := 1, cells := 0, slots := 0, locals := 21 } : Room) s m #[(.long q0)] below meth c T1 [] 0 0 := X''
  refine op T1 (mkF m 14 #[lv q0, se, .val (.int (q0.toInt32)), .val (.int (((q0.toUInt64 >>> ((32 : Int32) &&& 0x3f).toInt64.toUInt64).toInt64).toInt32))] [(.int (f2_0 (((q0.toUInt64 >>> ((32 : Int32) &&& 0x3f).toInt64.toUInt64).toInt64).toInt32) (q0.toInt32)))]) (fun _ k => st' _ k) ?_
  refine own_iteI (fun hc14 => ?_) (fun hc14 => ?_)
  · skip
    refine op T1 (mkF m 22 #[lv q0, se, .val (.int (q0.toInt32)), .val (.int (((q0.toUInt64 >>> ((32 : Int32) &&& 0x3f).toInt64.toUInt64).toInt64).toInt32))] [(.int (q0.toInt32))]) (fun _ k => XS.ifYes X1.here hx rfl (pc0 := 14) (pc' := 21) rfl (hb hby d1_14) rfl ((if0 _ _).trans (teq hc14).1) (by decide) (by decide) (XS.iloadN X1.here hx rfl (hb hby d1_21) rfl k)) ?_
    exact own_ret X1 hx Bd.notSynchronized Bd.returns rfl (Or.inl ⟨rfl, by simp, _, rfl⟩) (hb hby d1_22) ⟨rfl, e1⟩ (by decide) (by decide)
  · skip
    refine op T1 (mkF m 22 #[lv q0, se, .val (.int (q0.toInt32)), .val (.int (((q0.toUInt64 >>> ((32 : Int32) &&& 0x3f).toInt64.toUInt64).toInt64).toInt32))] [(.int (((q0.toUInt64 >>> ((32 : Int32) &&& 0x3f).toInt64.toUInt64).toInt64).toInt32))]) (fun _ k => XS.ifNo X1.here hx rfl (hb hby d1_14) rfl ((if0 _ _).trans (feq hc14).1) (XS.iloadN X1.here hx rfl (hb hby d1_17) rfl (XS.goto X1.here hx rfl (pc0 := 18) (pc' := 22) rfl (hb hby d1_18) (by decide) (by decide) k))) ?_
    exact own_ret X1 hx Bd.notSynchronized Bd.returns rfl (Or.inl ⟨rfl, by simp, _, rfl⟩) (hb hby d1_22) ⟨rfl, e1⟩ (by decide) (by decide)
theorem ef_1 (m : MethodId) (q0 : Int64) : entryFrame m #[(.long q0)] 4 = mkF m 0 #[lv q0, se, uu, uu] [] := by first | (simp [entryFrame, mkF, argsToLocals, Value.category]; done) | rfl
set_option maxRecDepth 65536 in
set_option maxHeartbeats 40000000 in
theorem rm1 (l : Launch) (Z : State) (aw : Array Value) (hw : HW aw Z) (ws : List Jvm.Cond) (q0 : Int64) (h0 : Heap) :
    MetFree l (⟨cL, "lo", "(J)I"⟩ : MethodName) (head1 (Jvm.Cond.code (⟨cL, "lo", "(J)I"⟩ : MethodName) U8 4 (some .int) :: ws) ({ frames := 1, cells := 0, slots := 0, locals := 21 } : Room)) (fun a U => a = #[(.long q0)] ∧ Z.Warmed39 U.vm ∧ U.heap = h0) (fun _ _ _ _ _ => True) (fun _ U o U' => ∃ v L, o = .returned v ∧ own_Q (some (.int (f1_0 q0))) (own_K0 h0) v U'.heap L ∧ FrameEnd U o U' L ({ frames := 1, cells := 0, slots := 0, locals := 21 } : Room).cells ({ frames := 1, cells := 0, slots := 0, locals := 21 } : Room).slots) := by
  refine MetFree.of_bodySF (plainFor_of_name own_pn4) hisR ?_
  intro p e s m args below meth c s₁ Bd hml0 hP hK
  obtain ⟨rfl, hZ, hh⟩ := hP
  have hml : c.maxLocals = 4 := hml0
  have e0 : s₁.heap = h0 := by rw [← hh, Bd.state]; rfl
  exact own_pre (fun t k => castTop (ef_1 m q0) k) (g1_0 hw q0 Bd hml hZ s₁ (Stand.of_body Bd) e0)
/-! body 3 -/
theorem d3_0 : De U9 0 (.lload_n 0) 1 := by decide +kernel
theorem d3_1 : De U9 1 (.l2i) 1 := by decide +kernel
theorem d3_2 : De U9 2 (.istore_n 2) 1 := by decide +kernel
theorem d3_3 : De U9 3 (.lload_n 0) 1 := by decide +kernel
theorem d3_4 : De U9 4 (.bipush 32) 2 := by decide +kernel
theorem d3_6 : De U9 6 (.lushr) 1 := by decide +kernel
theorem d3_7 : De U9 7 (.l2i) 1 := by decide +kernel
theorem d3_8 : De U9 8 (.istore_n 3) 1 := by decide +kernel
theorem d3_9 : De U9 9 (.iload_n 3) 1 := by decide +kernel
theorem d3_10 : De U9 10 (.iload_n 2) 1 := by decide +kernel
theorem d3_11 : De U9 11 (.invokestatic 10) 3 := by decide +kernel
theorem d3_14 : De U9 14 (.ifCond .eq 7) 3 := by decide +kernel
theorem d3_17 : De U9 17 (.iload_n 2) 1 := by decide +kernel
theorem d3_18 : De U9 18 (.goto 4) 3 := by decide +kernel
theorem d3_21 : De U9 21 (.iload_n 3) 1 := by decide +kernel
theorem d3_22 : De U9 22 (.ireturn) 1 := by decide +kernel
def f3_0 (q0 : Int64) : Int32 := (if (f2_0 (((q0.toUInt64 >>> ((32 : Int32) &&& 0x3f).toInt64.toUInt64).toInt64).toInt32) (q0.toInt32)) = (0 : Int32) then (((q0.toUInt64 >>> ((32 : Int32) &&& 0x3f).toInt64.toUInt64).toInt64).toInt32) else (q0.toInt32))
set_option maxRecDepth 65536 in
set_option maxHeartbeats 40000000 in
theorem g3_0 (hw : HW aw Z) {h0 : Heap} (q0 : Int64)
    (Bd : BodyLoose p l (⟨cL, "hi", "(J)I"⟩ : MethodName) (head1 (Jvm.Cond.code (⟨cL, "hi", "(J)I"⟩ : MethodName) U9 4 (some .int) :: ws) ({ frames := 1, cells := 0, slots := 0, locals := 21 } : Room)) U9 4 (some .int) e s m #[(.long q0)] below meth c s₁) (hml : c.maxLocals = 4) (hZ : Z.Warmed39 s.vm) (T0 : State) (X0 : Stand p l e ({ frames := 1, cells := 0, slots := 0, locals := 21 } : Room) s m #[(.long q0)] below meth c T0 [] 0 0) (e0 : T0.heap = h0) :
    own_Go p e below s ({ frames := 1, cells := 0, slots := 0, locals := 21 } : Room).cells ({ frames := 1, cells := 0, slots := 0, locals := 21 } : Room).slots (some (.int (f3_0 q0))) (own_K0 h0) (T0.setTop (mkF m 0 #[lv q0, se, uu, uu] [])) := by
  have hx := Bd.exec
  have hby := Bd.bytes
  have hown : s.vm.findClass cL = some m.cls := findClass_of_methodNamed Bd.named
  unfold f3_0
  refine op T0 (mkF m 9 #[lv q0, se, .val (.int (q0.toInt32)), .val (.int (((q0.toUInt64 >>> ((32 : Int32) &&& 0x3f).toInt64.toUInt64).toInt64).toInt32))] []) (fun _ k => XS.lloadN X0.here hx rfl (hb hby d3_0) rfl (XS.l2i X0.here hx rfl (hb hby d3_1) rfl (XS.istoreN X0.here hx rfl (hb hby d3_2) rfl (l' := #[lv q0, se, .val (.int (q0.toInt32)), uu]) rfl (XS.lloadN X0.here hx rfl (hb hby d3_3) rfl (XS.bipush X0.here hx rfl (hb hby d3_4) (XS.lushr X0.here hx rfl (hb hby d3_6) rfl (XS.l2i X0.here hx rfl (hb hby d3_7) rfl (XS.istoreN X0.here hx rfl (hb hby d3_8) rfl (l' := #[lv q0, se, .val (.int (q0.toInt32)), .val (.int (((q0.toUInt64 >>> ((32 : Int32) &&& 0x3f).toInt64.toUInt64).toInt64).toInt32))]) rfl k)))))))) ?_
  refine op T0 (mkF m 11 #[lv q0, se, .val (.int (q0.toInt32)), .val (.int (((q0.toUInt64 >>> ((32 : Int32) &&& 0x3f).toInt64.toUInt64).toInt64).toInt32))] [(.int (q0.toInt32)), (.int (((q0.toUInt64 >>> ((32 : Int32) &&& 0x3f).toInt64.toUInt64).toInt64).toInt32))]) (fun _ k => XS.iloadN X0.here hx rfl (hb hby d3_9) rfl (XS.iloadN X0.here hx rfl (hb hby d3_10) rfl k)) ?_
  obtain ⟨_, _, ⟨T1, L', k', n'⟩, -, X'', ⟨Lc', hQ', l', y', z'⟩, st'⟩ := Jvm.LawKit.callS X0 hx (y := (⟨cL, "ult", "(II)Z"⟩ : MethodName)) hown (mvT hZ (ow hw 4 rfl)) (mvT hZ (ow hw 5 rfl)) (mvT hZ (ow hw 2 rfl)) (mvT hZ (ow hw 6 rfl)) (by decide) (backOf (W := 0) (rm2 l Z aw hw [] (((q0.toUInt64 >>> ((32 : Int32) &&& 0x3f).toInt64.toUInt64).toInt64).toInt32) (q0.toInt32) h0) hZ (ow hw 6 rfl) (ow hw 2 rfl) (by decide) (by decide)) (g := (mkF m 11 #[lv q0, se, .val (.int (q0.toInt32)), .val (.int (((q0.toUInt64 >>> ((32 : Int32) &&& 0x3f).toInt64.toUInt64).toInt64).toInt32))] [(.int (q0.toInt32)), (.int (((q0.toUInt64 >>> ((32 : Int32) &&& 0x3f).toInt64.toUInt64).toInt64).toInt32))])) rfl (by rw [hml]; rfl) (argsL := [(.int (((q0.toUInt64 >>> ((32 : Int32) &&& 0x3f).toInt64.toUInt64).toInt64).toInt32)), (.int (q0.toInt32))]) (rest := []) (lenOf own_pd9 rfl) rfl (by show 2 * 0 + _ ≤ _; exact Nat.le_of_eq rfl) (hb hby d3_11) (fun _ _ => ⟨rfl, e0, (by decide : 0 + 0 ≤ _), (by decide : 0 + 0 ≤ _)⟩)
  dsimp only [Pt.U, Pt.locs, Pt.cells, Pt.slots] at X'' l' y' z' st' hQ'
  subst l' y' z'
  obtain ⟨rfl, rfl, e1⟩ := hQ'
  have X1 : Stand p l e ({ frames := 1, cells := 0, slots := 0, locals := 21 } : Room) s m #[(.long q0)] below meth c T1 [] 0 0 := X''
  refine op T1 (mkF m 14 #[lv q0, se, .val (.int (q0.toInt32)), .val (.int (((q0.toUInt64 >>> ((32 : Int32) &&& 0x3f).toInt64.toUInt64).toInt64).toInt32))] [(.int (f2_0 (((q0.toUInt64 >>> ((32 : Int32) &&& 0x3f).toInt64.toUInt64).toInt64).toInt32) (q0.toInt32)))]) (fun _ k => st' _ k) ?_
  refine own_iteI (fun hc14 => ?_) (fun hc14 => ?_)
  · skip
    refine op T1 (mkF m 22 #[lv q0, se, .val (.int (q0.toInt32)), .val (.int (((q0.toUInt64 >>> ((32 : Int32) &&& 0x3f).toInt64.toUInt64).toInt64).toInt32))] [(.int (((q0.toUInt64 >>> ((32 : Int32) &&& 0x3f).toInt64.toUInt64).toInt64).toInt32))]) (fun _ k => XS.ifYes X1.here hx rfl (pc0 := 14) (pc' := 21) rfl (hb hby d3_14) rfl ((if0 _ _).trans (teq hc14).1) (by decide) (by decide) (XS.iloadN X1.here hx rfl (hb hby d3_21) rfl k)) ?_
    exact own_ret X1 hx Bd.notSynchronized Bd.returns rfl (Or.inl ⟨rfl, by simp, _, rfl⟩) (hb hby d3_22) ⟨rfl, e1⟩ (by decide) (by decide)
  · skip
    refine op T1 (mkF m 22 #[lv q0, se, .val (.int (q0.toInt32)), .val (.int (((q0.toUInt64 >>> ((32 : Int32) &&& 0x3f).toInt64.toUInt64).toInt64).toInt32))] [(.int (q0.toInt32))]) (fun _ k => XS.ifNo X1.here hx rfl (hb hby d3_14) rfl ((if0 _ _).trans (feq hc14).1) (XS.iloadN X1.here hx rfl (hb hby d3_17) rfl (XS.goto X1.here hx rfl (pc0 := 18) (pc' := 22) rfl (hb hby d3_18) (by decide) (by decide) k))) ?_
    exact own_ret X1 hx Bd.notSynchronized Bd.returns rfl (Or.inl ⟨rfl, by simp, _, rfl⟩) (hb hby d3_22) ⟨rfl, e1⟩ (by decide) (by decide)
theorem ef_3 (m : MethodId) (q0 : Int64) : entryFrame m #[(.long q0)] 4 = mkF m 0 #[lv q0, se, uu, uu] [] := by first | (simp [entryFrame, mkF, argsToLocals, Value.category]; done) | rfl
set_option maxRecDepth 65536 in
set_option maxHeartbeats 40000000 in
theorem rm3 (l : Launch) (Z : State) (aw : Array Value) (hw : HW aw Z) (ws : List Jvm.Cond) (q0 : Int64) (h0 : Heap) :
    MetFree l (⟨cL, "hi", "(J)I"⟩ : MethodName) (head1 (Jvm.Cond.code (⟨cL, "hi", "(J)I"⟩ : MethodName) U9 4 (some .int) :: ws) ({ frames := 1, cells := 0, slots := 0, locals := 21 } : Room)) (fun a U => a = #[(.long q0)] ∧ Z.Warmed39 U.vm ∧ U.heap = h0) (fun _ _ _ _ _ => True) (fun _ U o U' => ∃ v L, o = .returned v ∧ own_Q (some (.int (f3_0 q0))) (own_K0 h0) v U'.heap L ∧ FrameEnd U o U' L ({ frames := 1, cells := 0, slots := 0, locals := 21 } : Room).cells ({ frames := 1, cells := 0, slots := 0, locals := 21 } : Room).slots) := by
  refine MetFree.of_bodySF (plainFor_of_name own_pn4) hisR ?_
  intro p e s m args below meth c s₁ Bd hml0 hP hK
  obtain ⟨rfl, hZ, hh⟩ := hP
  have hml : c.maxLocals = 4 := hml0
  have e0 : s₁.heap = h0 := by rw [← hh, Bd.state]; rfl
  exact own_pre (fun t k => castTop (ef_3 m q0) k) (g3_0 hw q0 Bd hml hZ s₁ (Stand.of_body Bd) e0)
abbrev Qdr1 : Room := { frames := 0, cells := 1, slots := 4, locals := 0 }
/-! body 4, dr1 -/
theorem d4_0 : De Jd 0 (.iload_n 1) 1 := by decide +kernel
theorem d4_1 : De Jd 1 (.ifCond .eq 23) 3 := by decide +kernel
theorem d4_4 : De Jd 4 (.iconst 4) 1 := by decide +kernel
theorem d4_5 : De Jd 5 (.newarray .int) 2 := by decide +kernel
theorem d4_7 : De Jd 7 (.dup) 1 := by decide +kernel
theorem d4_8 : De Jd 8 (.iconst 0) 1 := by decide +kernel
theorem d4_9 : De Jd 9 (.iload_n 0) 1 := by decide +kernel
theorem d4_10 : De Jd 10 (.iastore) 1 := by decide +kernel
theorem d4_11 : De Jd 11 (.dup) 1 := by decide +kernel
theorem d4_12 : De Jd 12 (.iconst 1) 1 := by decide +kernel
theorem d4_13 : De Jd 13 (.iconst 0) 1 := by decide +kernel
theorem d4_14 : De Jd 14 (.iastore) 1 := by decide +kernel
theorem d4_15 : De Jd 15 (.dup) 1 := by decide +kernel
theorem d4_16 : De Jd 16 (.iconst 2) 1 := by decide +kernel
theorem d4_17 : De Jd 17 (.iload_n 0) 1 := by decide +kernel
theorem d4_18 : De Jd 18 (.iastore) 1 := by decide +kernel
theorem d4_19 : De Jd 19 (.dup) 1 := by decide +kernel
theorem d4_20 : De Jd 20 (.iconst 3) 1 := by decide +kernel
theorem d4_21 : De Jd 21 (.iconst 0) 1 := by decide +kernel
theorem d4_22 : De Jd 22 (.iastore) 1 := by decide +kernel
theorem d4_23 : De Jd 23 (.areturn) 1 := by decide +kernel
theorem d4_24 : De Jd 24 (.iconst 1) 1 := by decide +kernel
theorem d4_25 : De Jd 25 (.newarray .int) 2 := by decide +kernel
theorem d4_27 : De Jd 27 (.dup) 1 := by decide +kernel
theorem d4_28 : De Jd 28 (.iconst 0) 1 := by decide +kernel
theorem d4_29 : De Jd 29 (.iload_n 0) 1 := by decide +kernel
theorem d4_30 : De Jd 30 (.iastore) 1 := by decide +kernel
theorem d4_31 : De Jd 31 (.areturn) 1 := by decide +kernel
abbrev y16 : MethodName := ⟨cL, "addr", "(IZ)[I"⟩
def Rdr1 (h0 : Heap) (t : Unit) : Option Value := some (.ref h0.size)
def Kdr1 (Z : State) (p0 : Int32)  (h0 : Heap) (n0 : Nat) (t : Unit) (h : Heap) (L : List Loc) : Prop := Fr n0 L ∧ Keep h0 h [] ∧ own_Iv Z h h0.size (1 : Int32) [p0] ∧ Exa Z h h0.size "[I"
def fdr1_0 (p0 : Int32) : Unit := ()
set_option maxRecDepth 65536 in
set_option maxHeartbeats 40000000 in
theorem gdr1_0 (hw : HW aw Z) {h0 : Heap} {n0 : Nat} (p0 : Int32) 
    (Bd : BodyLoose p l y16 (head1 (Jvm.Cond.code y16 Jd 2 (some (.array .int)) :: ws) Qdr1) Jd 2 (some (.array .int)) e s m #[(.int p0), (.int 0)] below meth c s₁) (hml : c.maxLocals = 2) (hZ : Z.Warmed39 s.vm) (T0 : State) {locs : List Loc} (X0 : Stand p l e Qdr1 s m #[(.int p0), (.int 0)] below meth c T0 locs 0 0) (e0 : T0.heap = h0) (SZ0 : n0 ≤ h0.size) (NF0 : Fr n0 locs) (KP0 : Keep h0 h0 []) :
    own_Go p e below s Qdr1.cells Qdr1.slots (Rdr1 h0 (fdr1_0 p0)) (Kdr1 Z p0  h0 n0 (fdr1_0 p0)) (T0.setTop (mkF m 0 #[iv p0, iv 0] [])) := by
  have hx := Bd.exec
  have hby := Bd.bytes
  have hown : s.vm.findClass cL = some m.cls := findClass_of_methodNamed Bd.named
  have hnm := (name_of_methodNamed Bd.named Bd.method).1
  unfold fdr1_0
  refine op T0 (mkF m 1 #[iv p0, iv 0] [(.int 0)]) (fun _ k => XS.iloadN X0.here hx rfl (hb hby d4_0) rfl k) ?_
  have hd1 : (0 : Int32) = (0 : Int32) := by decide
  refine op T0 (mkF m 25 #[iv p0, iv 0] [(.int 1)]) (fun _ k => XS.ifYes X0.here hx rfl (pc0 := 1) (pc' := 24) rfl (hb hby d4_1) rfl ((if0 _ _).trans (teq hd1).1) (by decide) (by decide) (XS.iconst X0.here hx rfl (hb hby d4_24) k)) ?_
  obtain ⟨T2, h2, k2, X2, e2, E2, A2, Xa2, st'⟩ := newPE X0 hx hZ (ow hw 16 rfl) e0 (g := (mkF m 25 #[iv p0, iv 0] [(.int 1)])) rfl (hb hby d4_25) rfl (by decide) (cap := 1) (by decide) (by decide) (by decide) (by decide) (ad := "[I") rfl
  obtain ⟨b2, g2⟩ : ∃ z, z = h0.size := ⟨_, rfl⟩
  rw [← g2] at A2 Xa2 st'
  have Uc : n0 ≤ b2 := Nat.le_trans SZ0 (Nat.le_of_eq g2.symm)
  have V0 : h0.size ≤ b2 := Nat.le_trans KP0.1 (Nat.le_of_eq g2.symm)
  have KP2 := KP0.ext E2
  have SZ2 : n0 ≤ h2.size := Nat.le_trans SZ0 E2.1
  have f3 : own_Iv Z h2 b2 (1 : Int32) [(0 : Int32)] := ⟨_, (Arv.new A2 (by decide)).pad (pad_rep [] (.int 0) 1)⟩
  refine op T2 (mkF m 30 #[iv p0, iv 0] [(.int p0), (.int 0), (.ref b2), (.ref b2)]) (fun _ k => st' _ (XS.dup X2.here hx rfl (hb hby d4_27) rfl rfl (XS.iconst X2.here hx rfl (hb hby d4_28) (XS.iloadN X2.here hx rfl (hb hby d4_29) rfl k)))) ?_
  obtain ⟨k4, cl4, Ar4, q4, S4, N4, H4, G4⟩ := id f3
  have hin4 : ¬ ((0 : Int32) < 0 ∨ cl4.slots.size ≤ ((0 : Int32)).toNatClampNeg) := inb_of S4 ⟨by decide, by decide⟩
  obtain ⟨T4, h4, X4, e4, W4, st'⟩ := stI X2 hx hZ e2 Ar4 (j := (0 : Int32)) hin4 (g := (mkF m 30 #[iv p0, iv 0] [(.int p0), (.int 0), (.ref b2), (.ref b2)])) rfl rfl (hb hby d4_30)
  have f5 : own_Iv Z h4 b2 (1 : Int32) [p0] := ⟨_, Arv.set Ar4 q4 S4 N4 H4 G4 rfl W4 0 rfl (Nat.le_of_ble_eq_true rfl)⟩
  have f6 := Xa2.wr W4
  have NF4 := Fr.snoc X4 NF0 Uc
  have SZ4 : n0 ≤ h4.size := (Nat.le_trans SZ2 (Keep.of_wr W4).1)
  have KP4 : Keep h0 h4 [] := KP2.wr W4 (Or.inr V0)
  refine op T4 (mkF m 31 #[iv p0, iv 0] [(.ref b2)]) (fun _ k => st' _ k) ?_
  subst g2
  exact own_ret (w := (.ref h0.size)) X4 hx Bd.notSynchronized Bd.returns rfl (Or.inr (Or.inr ⟨rfl, rfl, rfl⟩)) (hb hby d4_31) (by rw [e4]; exact ⟨NF4, KP4, f5, f6⟩) (by decide) (by decide)
theorem ef_dr1 (m : MethodId) (p0 : Int32) : entryFrame m #[(.int p0), (.int 0)] 2 = mkF m 0 #[iv p0, iv 0] [] := by first | (simp [entryFrame, mkF, argsToLocals, Value.category]; done) | rfl
set_option maxRecDepth 65536 in
set_option maxHeartbeats 40000000 in
theorem rmdr1 (l : Launch) (Z : State) (aw : Array Value) (hw : HW aw Z) (ws : List Jvm.Cond) (p0 : Int32)  (h0 : Heap) (n0 : Nat) (SZ0 : n0 ≤ h0.size) :
    MetFree l y16 (head1 (Jvm.Cond.code y16 Jd 2 (some (.array .int)) :: ws) Qdr1) (fun a U => a = #[(.int p0), (.int 0)] ∧ Z.Warmed39 U.vm ∧ U.heap = h0) (fun _ _ _ _ _ => True) (fun _ U o U' => ∃ v L, o = .returned v ∧ own_Q (Rdr1 h0 (fdr1_0 p0)) (Kdr1 Z p0  h0 n0 (fdr1_0 p0)) v U'.heap L ∧ FrameEnd U o U' L Qdr1.cells Qdr1.slots) := by
  refine MetFree.of_bodySF (plainFor_of_name own_pn4) hisR ?_
  intro p e s m args below meth c s₁ Bd hml0 hP hK
  obtain ⟨rfl, hZ, hh⟩ := hP
  have hml : c.maxLocals = 2 := hml0
  have e0 : s₁.heap = h0 := by rw [← hh, Bd.state]; rfl
  exact own_pre (fun t k => castTop (ef_dr1 m p0) k) (gdr1_0 hw p0  Bd hml hZ s₁ (Stand.of_body Bd) e0 SZ0 (Fr.nil n0) (Keep.refl _ _))
abbrev Qdr4 : Room := { frames := 0, cells := 1, slots := 4, locals := 0 }
/-! body 4, dr4 -/
def Rdr4 (h0 : Heap) (t : Unit) : Option Value := some (.ref h0.size)
def Kdr4 (Z : State) (p0 : Int32)  (h0 : Heap) (n0 : Nat) (t : Unit) (h : Heap) (L : List Loc) : Prop := Fr n0 L ∧ Keep h0 h [] ∧ own_Iv Z h h0.size (4 : Int32) [p0, (0 : Int32), p0, (0 : Int32)] ∧ Exa Z h h0.size "[I"
def fdr4_0 (p0 : Int32) : Unit := ()
set_option maxRecDepth 65536 in
set_option maxHeartbeats 40000000 in
theorem gdr4_0 (hw : HW aw Z) {h0 : Heap} {n0 : Nat} (p0 : Int32) 
    (Bd : BodyLoose p l y16 (head1 (Jvm.Cond.code y16 Jd 2 (some (.array .int)) :: ws) Qdr4) Jd 2 (some (.array .int)) e s m #[(.int p0), (.int 1)] below meth c s₁) (hml : c.maxLocals = 2) (hZ : Z.Warmed39 s.vm) (T0 : State) {locs : List Loc} (X0 : Stand p l e Qdr4 s m #[(.int p0), (.int 1)] below meth c T0 locs 0 0) (e0 : T0.heap = h0) (SZ0 : n0 ≤ h0.size) (NF0 : Fr n0 locs) (KP0 : Keep h0 h0 []) :
    own_Go p e below s Qdr4.cells Qdr4.slots (Rdr4 h0 (fdr4_0 p0)) (Kdr4 Z p0  h0 n0 (fdr4_0 p0)) (T0.setTop (mkF m 0 #[iv p0, iv 1] [])) := by
  have hx := Bd.exec
  have hby := Bd.bytes
  have hown : s.vm.findClass cL = some m.cls := findClass_of_methodNamed Bd.named
  have hnm := (name_of_methodNamed Bd.named Bd.method).1
  unfold fdr4_0
  refine op T0 (mkF m 1 #[iv p0, iv 1] [(.int 1)]) (fun _ k => XS.iloadN X0.here hx rfl (hb hby d4_0) rfl k) ?_
  have hd1 : ¬ ((1 : Int32) = (0 : Int32)) := by decide
  refine op T0 (mkF m 5 #[iv p0, iv 1] [(.int 4)]) (fun _ k => XS.ifNo X0.here hx rfl (hb hby d4_1) rfl ((if0 _ _).trans (feq hd1).1) (XS.iconst X0.here hx rfl (hb hby d4_4) k)) ?_
  obtain ⟨T2, h2, k2, X2, e2, E2, A2, Xa2, st'⟩ := newPE X0 hx hZ (ow hw 16 rfl) e0 (g := (mkF m 5 #[iv p0, iv 1] [(.int 4)])) rfl (hb hby d4_5) rfl (by decide) (cap := 4) (by decide) (by decide) (by decide) (by decide) (ad := "[I") rfl
  obtain ⟨b2, g2⟩ : ∃ z, z = h0.size := ⟨_, rfl⟩
  rw [← g2] at A2 Xa2 st'
  have Uc : n0 ≤ b2 := Nat.le_trans SZ0 (Nat.le_of_eq g2.symm)
  have V0 : h0.size ≤ b2 := Nat.le_trans KP0.1 (Nat.le_of_eq g2.symm)
  have KP2 := KP0.ext E2
  have SZ2 : n0 ≤ h2.size := Nat.le_trans SZ0 E2.1
  have f3 : own_Iv Z h2 b2 (4 : Int32) [(0 : Int32), (0 : Int32), (0 : Int32), (0 : Int32)] := ⟨_, (Arv.new A2 (by decide)).pad (pad_rep [] (.int 0) 4)⟩
  refine op T2 (mkF m 10 #[iv p0, iv 1] [(.int p0), (.int 0), (.ref b2), (.ref b2)]) (fun _ k => st' _ (XS.dup X2.here hx rfl (hb hby d4_7) rfl rfl (XS.iconst X2.here hx rfl (hb hby d4_8) (XS.iloadN X2.here hx rfl (hb hby d4_9) rfl k)))) ?_
  obtain ⟨k4, cl4, Ar4, q4, S4, N4, H4, G4⟩ := id f3
  have hin4 : ¬ ((0 : Int32) < 0 ∨ cl4.slots.size ≤ ((0 : Int32)).toNatClampNeg) := inb_of S4 ⟨by decide, by decide⟩
  obtain ⟨T4, h4, X4, e4, W4, st'⟩ := stI X2 hx hZ e2 Ar4 (j := (0 : Int32)) hin4 (g := (mkF m 10 #[iv p0, iv 1] [(.int p0), (.int 0), (.ref b2), (.ref b2)])) rfl rfl (hb hby d4_10)
  have f5 : own_Iv Z h4 b2 (4 : Int32) [p0, (0 : Int32), (0 : Int32), (0 : Int32)] := ⟨_, Arv.set Ar4 q4 S4 N4 H4 G4 rfl W4 0 rfl (Nat.le_of_ble_eq_true rfl)⟩
  have f6 := Xa2.wr W4
  have NF4 := Fr.snoc X4 NF0 Uc
  have SZ4 : n0 ≤ h4.size := (Nat.le_trans SZ2 (Keep.of_wr W4).1)
  have KP4 : Keep h0 h4 [] := KP2.wr W4 (Or.inr V0)
  refine op T4 (mkF m 14 #[iv p0, iv 1] [(.int 0), (.int 1), (.ref b2), (.ref b2)]) (fun _ k => st' _ (XS.dup X4.here hx rfl (hb hby d4_11) rfl rfl (XS.iconst X4.here hx rfl (hb hby d4_12) (XS.iconst X4.here hx rfl (hb hby d4_13) k)))) ?_
  obtain ⟨k7, cl7, Ar7, q7, S7, N7, H7, G7⟩ := id f5
  have hin7 : ¬ ((1 : Int32) < 0 ∨ cl7.slots.size ≤ ((1 : Int32)).toNatClampNeg) := inb_of S7 ⟨by decide, by decide⟩
  obtain ⟨T7, h7, X7, e7, W7, st'⟩ := stI X4 hx hZ e4 Ar7 (j := (1 : Int32)) hin7 (g := (mkF m 14 #[iv p0, iv 1] [(.int 0), (.int 1), (.ref b2), (.ref b2)])) rfl rfl (hb hby d4_14)
  have f8 : own_Iv Z h7 b2 (4 : Int32) [p0, (0 : Int32), (0 : Int32), (0 : Int32)] := ⟨_, Arv.set Ar7 q7 S7 N7 H7 G7 rfl W7 1 rfl (Nat.le_of_ble_eq_true rfl)⟩
  have f9 := f6.wr W7
  have NF7 := Fr.snoc X7 NF4 Uc
  have SZ7 : n0 ≤ h7.size := (Nat.le_trans SZ4 (Keep.of_wr W7).1)
  have KP7 : Keep h0 h7 [] := KP4.wr W7 (Or.inr V0)
  refine op T7 (mkF m 18 #[iv p0, iv 1] [(.int p0), (.int 2), (.ref b2), (.ref b2)]) (fun _ k => st' _ (XS.dup X7.here hx rfl (hb hby d4_15) rfl rfl (XS.iconst X7.here hx rfl (hb hby d4_16) (XS.iloadN X7.here hx rfl (hb hby d4_17) rfl k)))) ?_
  obtain ⟨k10, cl10, Ar10, q10, S10, N10, H10, G10⟩ := id f8
  have hin10 : ¬ ((2 : Int32) < 0 ∨ cl10.slots.size ≤ ((2 : Int32)).toNatClampNeg) := inb_of S10 ⟨by decide, by decide⟩
  obtain ⟨T10, h10, X10, e10, W10, st'⟩ := stI X7 hx hZ e7 Ar10 (j := (2 : Int32)) hin10 (g := (mkF m 18 #[iv p0, iv 1] [(.int p0), (.int 2), (.ref b2), (.ref b2)])) rfl rfl (hb hby d4_18)
  have f11 : own_Iv Z h10 b2 (4 : Int32) [p0, (0 : Int32), p0, (0 : Int32)] := ⟨_, Arv.set Ar10 q10 S10 N10 H10 G10 rfl W10 2 rfl (Nat.le_of_ble_eq_true rfl)⟩
  have f12 := f9.wr W10
  have NF10 := Fr.snoc X10 NF7 Uc
  have SZ10 : n0 ≤ h10.size := (Nat.le_trans SZ7 (Keep.of_wr W10).1)
  have KP10 : Keep h0 h10 [] := KP7.wr W10 (Or.inr V0)
  refine op T10 (mkF m 22 #[iv p0, iv 1] [(.int 0), (.int 3), (.ref b2), (.ref b2)]) (fun _ k => st' _ (XS.dup X10.here hx rfl (hb hby d4_19) rfl rfl (XS.iconst X10.here hx rfl (hb hby d4_20) (XS.iconst X10.here hx rfl (hb hby d4_21) k)))) ?_
  obtain ⟨k13, cl13, Ar13, q13, S13, N13, H13, G13⟩ := id f11
  have hin13 : ¬ ((3 : Int32) < 0 ∨ cl13.slots.size ≤ ((3 : Int32)).toNatClampNeg) := inb_of S13 ⟨by decide, by decide⟩
  obtain ⟨T13, h13, X13, e13, W13, st'⟩ := stI X10 hx hZ e10 Ar13 (j := (3 : Int32)) hin13 (g := (mkF m 22 #[iv p0, iv 1] [(.int 0), (.int 3), (.ref b2), (.ref b2)])) rfl rfl (hb hby d4_22)
  have f14 : own_Iv Z h13 b2 (4 : Int32) [p0, (0 : Int32), p0, (0 : Int32)] := ⟨_, Arv.set Ar13 q13 S13 N13 H13 G13 rfl W13 3 rfl (Nat.le_of_ble_eq_true rfl)⟩
  have f15 := f12.wr W13
  have NF13 := Fr.snoc X13 NF10 Uc
  have SZ13 : n0 ≤ h13.size := (Nat.le_trans SZ10 (Keep.of_wr W13).1)
  have KP13 : Keep h0 h13 [] := KP10.wr W13 (Or.inr V0)
  refine op T13 (mkF m 23 #[iv p0, iv 1] [(.ref b2)]) (fun _ k => st' _ k) ?_
  subst g2
  exact own_ret (w := (.ref h0.size)) X13 hx Bd.notSynchronized Bd.returns rfl (Or.inr (Or.inr ⟨rfl, rfl, rfl⟩)) (hb hby d4_23) (by rw [e13]; exact ⟨NF13, KP13, f14, f15⟩) (by decide) (by decide)
theorem ef_dr4 (m : MethodId) (p0 : Int32) : entryFrame m #[(.int p0), (.int 1)] 2 = mkF m 0 #[iv p0, iv 1] [] := by first | (simp [entryFrame, mkF, argsToLocals, Value.category]; done) | rfl
set_option maxRecDepth 65536 in
set_option maxHeartbeats 40000000 in
theorem rmdr4 (l : Launch) (Z : State) (aw : Array Value) (hw : HW aw Z) (ws : List Jvm.Cond) (p0 : Int32)  (h0 : Heap) (n0 : Nat) (SZ0 : n0 ≤ h0.size) :
    MetFree l y16 (head1 (Jvm.Cond.code y16 Jd 2 (some (.array .int)) :: ws) Qdr4) (fun a U => a = #[(.int p0), (.int 1)] ∧ Z.Warmed39 U.vm ∧ U.heap = h0) (fun _ _ _ _ _ => True) (fun _ U o U' => ∃ v L, o = .returned v ∧ own_Q (Rdr4 h0 (fdr4_0 p0)) (Kdr4 Z p0  h0 n0 (fdr4_0 p0)) v U'.heap L ∧ FrameEnd U o U' L Qdr4.cells Qdr4.slots) := by
  refine MetFree.of_bodySF (plainFor_of_name own_pn4) hisR ?_
  intro p e s m args below meth c s₁ Bd hml0 hP hK
  obtain ⟨rfl, hZ, hh⟩ := hP
  have hml : c.maxLocals = 2 := hml0
  have e0 : s₁.heap = h0 := by rw [← hh, Bd.state]; rfl
  exact own_pre (fun t k => castTop (ef_dr4 m p0) k) (gdr4_0 hw p0  Bd hml hZ s₁ (Stand.of_body Bd) e0 SZ0 (Fr.nil n0) (Keep.refl _ _))
def own_w (p0 : Int32) : Int32 := if p0 = 0 then 1 else 4
theorem own_w0' : own_w 0 = 1 := if_pos rfl
theorem own_w1' : own_w 1 = 4 := if_neg (by decide)
theorem own_wd (x : Int32) : own_w x = 1 ∨ own_w x = 4 := by unfold own_w; split <;> simp
def Rgdr (h0 : Heap) (_ : Unit) : Option Value := some (.ref h0.size)
set_option maxRecDepth 65536 in
set_option maxHeartbeats 40000000 in
theorem rmgdr (l : Launch) (Z : State) (aw : Array Value) (hw : HW aw Z) (ws : List Jvm.Cond) (p0 p1 : Int32)  (h0 : Heap) (n0 : Nat) (SZ0 : n0 ≤ h0.size) (HX : p1 = 0 ∨ p1 = 1) :
    MetFree l y16 (head1 (Jvm.Cond.code y16 Jd 2 (some (.array .int)) :: ws) Qdr4) (fun a U => a = #[(.int p0), (.int p1)] ∧ Z.Warmed39 U.vm ∧ U.heap = h0) (fun _ _ _ _ _ => True) (fun _ U o U' => ∃ v L, o = .returned v ∧ own_Q (Rgdr h0 ()) (fun h L => Fr n0 L ∧ Keep h0 h [] ∧ own_G Z h h0.size (own_w p1) p0 0 p0 0 ∧ Exa Z h h0.size "[I") v U'.heap L ∧ FrameEnd U o U' L Qdr4.cells Qdr4.slots) := by
  rcases HX with rfl | rfl
  · rw [own_w0']
    exact own_met (rmdr1 l Z aw hw ws p0 h0 n0 SZ0) (fun _ _ hk => ⟨hk.1, hk.2.1, own_G.of1 hk.2.2.1, hk.2.2.2⟩)
  · rw [own_w1']
    exact own_met (rmdr4 l Z aw hw ws p0 h0 n0 SZ0) (fun _ _ hk => ⟨hk.1, hk.2.1, own_G.of4 hk.2.2.1, hk.2.2.2⟩)
abbrev Qfe0 : Room := { frames := 5, cells := 0, slots := 0, locals := 122 }
theorem own_pd10 : parseMethodDescriptor "([I[ICI)V" = some ⟨[(.array .int), (.array .int), .char, .int], none⟩ := by decide +kernel
/-! body 9, fe0 -/
theorem d9_0 : De Gs 0 (.iload_n 1) 1 := by decide +kernel
theorem d9_1 : De Gs 1 (.ifCond .le 27) 3 := by decide +kernel
theorem d9_4 : De Gs 4 (.aload_n 0) 1 := by decide +kernel
theorem d9_5 : De Gs 5 (.aload_n 2) 1 := by decide +kernel
theorem d9_6 : De Gs 6 (.aload 4) 2 := by decide +kernel
theorem d9_8 : De Gs 8 (.iconst 0) 1 := by decide +kernel
theorem d9_9 : De Gs 9 (.iaload) 1 := by decide +kernel
theorem d9_10 : De Gs 10 (.aaload) 1 := by decide +kernel
theorem d9_11 : De Gs 11 (.aload_n 3) 1 := by decide +kernel
theorem d9_12 : De Gs 12 (.aload 4) 2 := by decide +kernel
theorem d9_14 : De Gs 14 (.iconst 0) 1 := by decide +kernel
theorem d9_15 : De Gs 15 (.iaload) 1 := by decide +kernel
theorem d9_16 : De Gs 16 (.aaload) 1 := by decide +kernel
theorem d9_17 : De Gs 17 (.iload 5) 2 := by decide +kernel
theorem d9_19 : De Gs 19 (.aload 4) 2 := by decide +kernel
theorem d9_21 : De Gs 21 (.iconst 0) 1 := by decide +kernel
theorem d9_22 : De Gs 22 (.iaload) 1 := by decide +kernel
theorem d9_23 : De Gs 23 (.iconst 1) 1 := by decide +kernel
theorem d9_24 : De Gs 24 (.iadd) 1 := by decide +kernel
theorem d9_25 : De Gs 25 (.invokevirtual 16) 3 := by decide +kernel
theorem d9_28 : De Gs 28 (.iload_n 1) 1 := by decide +kernel
theorem d9_29 : De Gs 29 (.iconst 1) 1 := by decide +kernel
theorem d9_30 : De Gs 30 (.if_icmp .le 27) 3 := by decide +kernel
theorem d9_33 : De Gs 33 (.aload_n 0) 1 := by decide +kernel
theorem d9_34 : De Gs 34 (.aload_n 2) 1 := by decide +kernel
theorem d9_35 : De Gs 35 (.aload 4) 2 := by decide +kernel
theorem d9_37 : De Gs 37 (.iconst 1) 1 := by decide +kernel
theorem d9_38 : De Gs 38 (.iaload) 1 := by decide +kernel
theorem d9_39 : De Gs 39 (.aaload) 1 := by decide +kernel
theorem d9_40 : De Gs 40 (.aload_n 3) 1 := by decide +kernel
theorem d9_41 : De Gs 41 (.aload 4) 2 := by decide +kernel
theorem d9_43 : De Gs 43 (.iconst 1) 1 := by decide +kernel
theorem d9_44 : De Gs 44 (.iaload) 1 := by decide +kernel
theorem d9_45 : De Gs 45 (.aaload) 1 := by decide +kernel
theorem d9_46 : De Gs 46 (.iload 5) 2 := by decide +kernel
theorem d9_48 : De Gs 48 (.aload 4) 2 := by decide +kernel
theorem d9_50 : De Gs 50 (.iconst 1) 1 := by decide +kernel
theorem d9_51 : De Gs 51 (.iaload) 1 := by decide +kernel
theorem d9_52 : De Gs 52 (.iconst 1) 1 := by decide +kernel
theorem d9_53 : De Gs 53 (.iadd) 1 := by decide +kernel
theorem d9_54 : De Gs 54 (.invokevirtual 16) 3 := by decide +kernel
theorem d9_57 : De Gs 57 (.iload_n 1) 1 := by decide +kernel
theorem d9_58 : De Gs 58 (.iconst 2) 1 := by decide +kernel
theorem d9_59 : De Gs 59 (.if_icmp .le 27) 3 := by decide +kernel
theorem d9_62 : De Gs 62 (.aload_n 0) 1 := by decide +kernel
theorem d9_63 : De Gs 63 (.aload_n 2) 1 := by decide +kernel
theorem d9_64 : De Gs 64 (.aload 4) 2 := by decide +kernel
theorem d9_66 : De Gs 66 (.iconst 2) 1 := by decide +kernel
theorem d9_67 : De Gs 67 (.iaload) 1 := by decide +kernel
theorem d9_68 : De Gs 68 (.aaload) 1 := by decide +kernel
theorem d9_69 : De Gs 69 (.aload_n 3) 1 := by decide +kernel
theorem d9_70 : De Gs 70 (.aload 4) 2 := by decide +kernel
theorem d9_72 : De Gs 72 (.iconst 2) 1 := by decide +kernel
theorem d9_73 : De Gs 73 (.iaload) 1 := by decide +kernel
theorem d9_74 : De Gs 74 (.aaload) 1 := by decide +kernel
theorem d9_75 : De Gs 75 (.iload 5) 2 := by decide +kernel
theorem d9_77 : De Gs 77 (.aload 4) 2 := by decide +kernel
theorem d9_79 : De Gs 79 (.iconst 2) 1 := by decide +kernel
theorem d9_80 : De Gs 80 (.iaload) 1 := by decide +kernel
theorem d9_81 : De Gs 81 (.iconst 1) 1 := by decide +kernel
theorem d9_82 : De Gs 82 (.iadd) 1 := by decide +kernel
theorem d9_83 : De Gs 83 (.invokevirtual 16) 3 := by decide +kernel
theorem d9_86 : De Gs 86 (.return_) 1 := by decide +kernel
abbrev y17 : MethodName := ⟨cL, "feed", "(Lcom/example/gentle_endpoints/gentleendpoints/RangeTable$Builder;I[[I[[I[IC)V"⟩
def Rfe0 (t : St) : Option Value := none
def Kfe0 (Z : State) (p1 p5 : Int32) (S : St) (wl s0 s1 s2 e0_ e1_ e2_ : Int32) (a0 a2 a3 a4 c0 c1 c2 d0 d1 d2 : Addr) (h0 : Heap) (n0 : Nat) (t : St) (h : Heap) (L : List Loc) : Prop := Fr n0 L ∧ own_Low a0 h0 h ∧ own_V Z h n0 a0 t
def ffe0_86 (p1 p5 : Int32) (S : St) (wl s0 s1 s2 e0_ e1_ e2_ : Int32) (s_a0_0 : St) : St := s_a0_0
set_option maxRecDepth 65536 in
set_option maxHeartbeats 40000000 in
theorem gfe0_86 (hw : HW aw Z) {h0 : Heap} {n0 : Nat} (p1 p5 : Int32) (S : St) (wl s0 s1 s2 e0_ e1_ e2_ : Int32) (a0 a2 a3 a4 c0 c1 c2 d0 d1 d2 : Addr) (Jx : a2 < a0) (Jy : a3 < a0) (Jz : a4 < a0) (Jh : c0 < a0) (Ji : c1 < a0) (Jj : c2 < a0) (Jk : d0 < a0) (Jm : d1 < a0) (Jn : d2 < a0) (k : Int) (IB0 : own_BS k wl S) (hk : k ≤ 17) (s_a0_0 : St)
    (Bd : BodyLoose p l y17 (head1 (Jvm.Cond.code y17 Gs 6 none :: ws) Qfe0) Gs 6 none e s m #[(.ref a0), (.int p1), (.ref a2), (.ref a3), (.ref a4), (.int p5)] below meth c s₁) (hml : c.maxLocals = 6) (hZ : Z.Warmed39 s.vm) (G0 : n0 ≤ a0) (T0 : State) {locs : List Loc} (X0 : Stand p l e Qfe0 s m #[(.ref a0), (.int p1), (.ref a2), (.ref a3), (.ref a4), (.int p5)] below meth c T0 locs 0 0) {h : Heap} (e0 : T0.heap = h) (SZ0 : n0 ≤ h.size) (NF0 : Fr n0 locs) (KP0 : own_Low a0 h0 h) (Hi : own_Rv Z h a2 (3 : Int32) [.ref c0, .ref c1, .ref c2]) (Hn : own_Rv Z h a3 (3 : Int32) [.ref d0, .ref d1, .ref d2]) (Hy : own_Iv Z h a4 (3 : Int32) [(0 : Int32), (1 : Int32), (2 : Int32)]) (Mf : own_G Z h c0 wl s0 (0 : Int32) s0 (0 : Int32)) (Mg : own_G Z h c1 wl s1 (0 : Int32) s1 (0 : Int32)) (Mh : own_G Z h c2 wl s2 (0 : Int32) s2 (0 : Int32)) (Mi : own_G Z h d0 wl e0_ (0 : Int32) e0_ (0 : Int32)) (Mj : own_G Z h d1 wl e1_ (0 : Int32) e1_ (0 : Int32)) (Mk : own_G Z h d2 wl e2_ (0 : Int32) e2_ (0 : Int32)) (W_a0 : own_V Z h n0 a0 s_a0_0) :
    own_Go p e below s Qfe0.cells Qfe0.slots (Rfe0 (ffe0_86 p1 p5 S wl s0 s1 s2 e0_ e1_ e2_ s_a0_0)) (Kfe0 Z p1 p5 S wl s0 s1 s2 e0_ e1_ e2_ a0 a2 a3 a4 c0 c1 c2 d0 d1 d2 h0 n0 (ffe0_86 p1 p5 S wl s0 s1 s2 e0_ e1_ e2_ s_a0_0)) (T0.setTop (mkF m 86 #[rv a0, iv p1, rv a2, rv a3, rv a4, iv p5] [])) := by
  have hx := Bd.exec
  have hby := Bd.bytes
  have hown : s.vm.findClass cL = some m.cls := findClass_of_methodNamed Bd.named
  have hnm := (name_of_methodNamed Bd.named Bd.method).1
  unfold ffe0_86
  exact own_retV X0 hx Bd.notSynchronized Bd.returns (hb hby d9_86) (by rw [e0]; exact ⟨NF0, KP0, W_a0⟩) (by decide) (by decide)
def ffe0_57 (p1 p5 : Int32) (S : St) (wl s0 s1 s2 e0_ e1_ e2_ : Int32) (s_a0_0 : St) : St := (if (2 : Int32) < p1 then (ffe0_86 p1 p5 S wl s0 s1 s2 e0_ e1_ e2_ (sad p5 (3 : Int32) s_a0_0 s2 (0 : Int32) s2 (0 : Int32) e2_ (0 : Int32) e2_ (0 : Int32))) else (ffe0_86 p1 p5 S wl s0 s1 s2 e0_ e1_ e2_ s_a0_0))
set_option maxRecDepth 65536 in
set_option maxHeartbeats 40000000 in
theorem gfe0_57 (hw : HW aw Z) {h0 : Heap} {n0 : Nat} (p1 p5 : Int32) (S : St) (wl s0 s1 s2 e0_ e1_ e2_ : Int32) (a0 a2 a3 a4 c0 c1 c2 d0 d1 d2 : Addr) (Jx : a2 < a0) (Jy : a3 < a0) (Jz : a4 < a0) (Jh : c0 < a0) (Ji : c1 < a0) (Jj : c2 < a0) (Jk : d0 < a0) (Jm : d1 < a0) (Jn : d2 < a0) (k : Int) (IB0 : own_BS k wl S) (hk : k ≤ 17) (s_a0_0 : St) (IB : own_BS (k + 1 + 1) wl s_a0_0)
    (Bd : BodyLoose p l y17 (head1 (Jvm.Cond.code y17 Gs 6 none :: ws) Qfe0) Gs 6 none e s m #[(.ref a0), (.int p1), (.ref a2), (.ref a3), (.ref a4), (.int p5)] below meth c s₁) (hml : c.maxLocals = 6) (hZ : Z.Warmed39 s.vm) (G0 : n0 ≤ a0) (T0 : State) {locs : List Loc} (X0 : Stand p l e Qfe0 s m #[(.ref a0), (.int p1), (.ref a2), (.ref a3), (.ref a4), (.int p5)] below meth c T0 locs 0 0) {h : Heap} (e0 : T0.heap = h) (SZ0 : n0 ≤ h.size) (NF0 : Fr n0 locs) (KP0 : own_Low a0 h0 h) (Hi : own_Rv Z h a2 (3 : Int32) [.ref c0, .ref c1, .ref c2]) (Hn : own_Rv Z h a3 (3 : Int32) [.ref d0, .ref d1, .ref d2]) (Hy : own_Iv Z h a4 (3 : Int32) [(0 : Int32), (1 : Int32), (2 : Int32)]) (Mf : own_G Z h c0 wl s0 (0 : Int32) s0 (0 : Int32)) (Mg : own_G Z h c1 wl s1 (0 : Int32) s1 (0 : Int32)) (Mh : own_G Z h c2 wl s2 (0 : Int32) s2 (0 : Int32)) (Mi : own_G Z h d0 wl e0_ (0 : Int32) e0_ (0 : Int32)) (Mj : own_G Z h d1 wl e1_ (0 : Int32) e1_ (0 : Int32)) (Mk : own_G Z h d2 wl e2_ (0 : Int32) e2_ (0 : Int32)) (W_a0 : own_V Z h n0 a0 s_a0_0) :
    own_Go p e below s Qfe0.cells Qfe0.slots (Rfe0 (ffe0_57 p1 p5 S wl s0 s1 s2 e0_ e1_ e2_ s_a0_0)) (Kfe0 Z p1 p5 S wl s0 s1 s2 e0_ e1_ e2_ a0 a2 a3 a4 c0 c1 c2 d0 d1 d2 h0 n0 (ffe0_57 p1 p5 S wl s0 s1 s2 e0_ e1_ e2_ s_a0_0)) (T0.setTop (mkF m 57 #[rv a0, iv p1, rv a2, rv a3, rv a4, iv p5] [])) := by
  have hx := Bd.exec
  have hby := Bd.bytes
  have hown : s.vm.findClass cL = some m.cls := findClass_of_methodNamed Bd.named
  have hnm := (name_of_methodNamed Bd.named Bd.method).1
  unfold ffe0_57
  refine op T0 (mkF m 59 #[rv a0, iv p1, rv a2, rv a3, rv a4, iv p5] [(.int 2), (.int p1)]) (fun _ k => XS.iloadN X0.here hx rfl (hb hby d9_57) rfl (XS.iconst X0.here hx rfl (hb hby d9_58) k)) ?_
  refine own_iteT Rfe0 (Kfe0 Z p1 p5 S wl s0 s1 s2 e0_ e1_ e2_ a0 a2 a3 a4 c0 c1 c2 d0 d1 d2 h0 n0) (fun hc59 => ?_) (fun hc59 => ?_)
  · skip
    refine op T0 (mkF m 67 #[rv a0, iv p1, rv a2, rv a3, rv a4, iv p5] [(.int 2), (.ref a4), (.ref a2), (.ref a0)]) (fun _ k => XS.icmpNo X0.here hx rfl (hb hby d9_59) rfl (tlt hc59).2.2.2 (XS.aloadN X0.here hx rfl (hb hby d9_62) rfl rfl (XS.aloadN X0.here hx rfl (hb hby d9_63) rfl rfl (XS.aload X0.here hx rfl (hb hby d9_64) rfl rfl (XS.iconst X0.here hx rfl (hb hby d9_66) k))))) ?_
    obtain ⟨k1, cl1, Ar1, q1, S1, N1, H1, G1⟩ := id Hy
    have hin1 : ¬ ((2 : Int32) < 0 ∨ cl1.slots.size ≤ ((2 : Int32)).toNatClampNeg) := inb_of S1 ⟨by decide, by decide⟩
    refine op T0 (mkF m 68 #[rv a0, iv p1, rv a2, rv a3, rv a4, iv p5] [(.int 2), (.ref a2), (.ref a0)]) (fun t k => X0.iaload hx (j := (2 : Int32)) (v := (.int 2)) (by rw [e0]; exact Ar1.1) (State.isArrayOf_alike hZ.alike Ar1.2.1) Ar1.2.2 hin1 (H1.at hin1 rfl) (g := (mkF m 67 #[rv a0, iv p1, rv a2, rv a3, rv a4, iv p5] [(.int 2), (.ref a4), (.ref a2), (.ref a0)])) rfl rfl (hb hby d9_67) t k) ?_
    obtain ⟨k2, ⟨cl2, Ar2, q2, S2, N2, H2, G2⟩, -⟩ := id Hi
    have hin2 : ¬ ((2 : Int32) < 0 ∨ cl2.slots.size ≤ ((2 : Int32)).toNatClampNeg) := inb_of S2 ⟨by decide, by decide⟩
    refine op T0 (mkF m 69 #[rv a0, iv p1, rv a2, rv a3, rv a4, iv p5] [(.ref c2), (.ref a0)]) (fun t k => X0.aaload hx (j := (2 : Int32)) (v := (.ref c2)) (by rw [e0]; exact Ar2.1) (State.isArrayOf_alike hZ.alike Ar2.2.1) rfl Ar2.2.2 hin2 (H2.at hin2 rfl) (g := (mkF m 68 #[rv a0, iv p1, rv a2, rv a3, rv a4, iv p5] [(.int 2), (.ref a2), (.ref a0)])) rfl rfl (hb hby d9_68) t k) ?_
    refine op T0 (mkF m 73 #[rv a0, iv p1, rv a2, rv a3, rv a4, iv p5] [(.int 2), (.ref a4), (.ref a3), (.ref c2), (.ref a0)]) (fun _ k => XS.aloadN X0.here hx rfl (hb hby d9_69) rfl rfl (XS.aload X0.here hx rfl (hb hby d9_70) rfl rfl (XS.iconst X0.here hx rfl (hb hby d9_72) k))) ?_
    obtain ⟨k3, cl3, Ar3, q3, S3, N3, H3, G3⟩ := id Hy
    have hin3 : ¬ ((2 : Int32) < 0 ∨ cl3.slots.size ≤ ((2 : Int32)).toNatClampNeg) := inb_of S3 ⟨by decide, by decide⟩
    refine op T0 (mkF m 74 #[rv a0, iv p1, rv a2, rv a3, rv a4, iv p5] [(.int 2), (.ref a3), (.ref c2), (.ref a0)]) (fun t k => X0.iaload hx (j := (2 : Int32)) (v := (.int 2)) (by rw [e0]; exact Ar3.1) (State.isArrayOf_alike hZ.alike Ar3.2.1) Ar3.2.2 hin3 (H3.at hin3 rfl) (g := (mkF m 73 #[rv a0, iv p1, rv a2, rv a3, rv a4, iv p5] [(.int 2), (.ref a4), (.ref a3), (.ref c2), (.ref a0)])) rfl rfl (hb hby d9_73) t k) ?_
    obtain ⟨k4, ⟨cl4, Ar4, q4, S4, N4, H4, G4⟩, -⟩ := id Hn
    have hin4 : ¬ ((2 : Int32) < 0 ∨ cl4.slots.size ≤ ((2 : Int32)).toNatClampNeg) := inb_of S4 ⟨by decide, by decide⟩
    refine op T0 (mkF m 75 #[rv a0, iv p1, rv a2, rv a3, rv a4, iv p5] [(.ref d2), (.ref c2), (.ref a0)]) (fun t k => X0.aaload hx (j := (2 : Int32)) (v := (.ref d2)) (by rw [e0]; exact Ar4.1) (State.isArrayOf_alike hZ.alike Ar4.2.1) rfl Ar4.2.2 hin4 (H4.at hin4 rfl) (g := (mkF m 74 #[rv a0, iv p1, rv a2, rv a3, rv a4, iv p5] [(.int 2), (.ref a3), (.ref c2), (.ref a0)])) rfl rfl (hb hby d9_74) t k) ?_
    refine op T0 (mkF m 80 #[rv a0, iv p1, rv a2, rv a3, rv a4, iv p5] [(.int 2), (.ref a4), (.int p5), (.ref d2), (.ref c2), (.ref a0)]) (fun _ k => XS.iload X0.here hx rfl (hb hby d9_75) rfl (XS.aload X0.here hx rfl (hb hby d9_77) rfl rfl (XS.iconst X0.here hx rfl (hb hby d9_79) k))) ?_
    obtain ⟨k5, cl5, Ar5, q5, S5, N5, H5, G5⟩ := id Hy
    have hin5 : ¬ ((2 : Int32) < 0 ∨ cl5.slots.size ≤ ((2 : Int32)).toNatClampNeg) := inb_of S5 ⟨by decide, by decide⟩
    refine op T0 (mkF m 81 #[rv a0, iv p1, rv a2, rv a3, rv a4, iv p5] [(.int 2), (.int p5), (.ref d2), (.ref c2), (.ref a0)]) (fun t k => X0.iaload hx (j := (2 : Int32)) (v := (.int 2)) (by rw [e0]; exact Ar5.1) (State.isArrayOf_alike hZ.alike Ar5.2.1) Ar5.2.2 hin5 (H5.at hin5 rfl) (g := (mkF m 80 #[rv a0, iv p1, rv a2, rv a3, rv a4, iv p5] [(.int 2), (.ref a4), (.int p5), (.ref d2), (.ref c2), (.ref a0)])) rfl rfl (hb hby d9_80) t k) ?_
    refine op T0 (mkF m 83 #[rv a0, iv p1, rv a2, rv a3, rv a4, iv p5] [(.int 3), (.int p5), (.ref d2), (.ref c2), (.ref a0)]) (fun _ k => XS.iconst X0.here hx rfl (hb hby d9_81) (XS.iadd X0.here hx rfl (hb hby d9_82) rfl k)) ?_
    have ex6 := own_V.exa W_a0
    obtain ⟨cq6, kq6, qa6, qb6, qc6⟩ := isOf hZ e0 ex6
    obtain ⟨_, _, ⟨T6, L6, k6, n6⟩, -, X6', ⟨Lc6, hQ6, l6, y6, z6⟩, st'⟩ := X0.virtualBack hx (y := y13) (z := y13) hown (mvT hZ (ow hw 70 rfl)) (mvT hZ (ow hw 71 rfl)) (notFace_of_selects (args := #[]) (mvT hZ (ow hw 73 rfl))) (mvT hZ (ow hw 73 rfl)) (mvT hZ (ow hw 72 rfl)) (by decide) (backOf (W := 0) (rmvad l Z aw hw [] p5 (3 : Int32) s_a0_0 wl s2 (0 : Int32) s2 (0 : Int32) e2_ (0 : Int32) e2_ (0 : Int32) a0 c2 d2 h n0 SZ0 W_a0 Mh Mk Jj Jn _ IB (by omega) G0) hZ (ow hw 74 rfl) (ow hw 20 rfl) (by decide) (by decide)) qa6 qc6 (g := (mkF m 83 #[rv a0, iv p1, rv a2, rv a3, rv a4, iv p5] [(.int 3), (.int p5), (.ref d2), (.ref c2), (.ref a0)])) rfl (by rw [hml]; rfl) (Steps.refl _) (argsL := [(.ref c2), (.ref d2), (.int p5), (.int 3)]) (rest := []) (lenOf own_pd10 rfl) rfl (by show 2 * 0 + _ ≤ _; exact Nat.le_of_eq rfl) (hb hby d9_83) (fun _ _ => ⟨rfl, e0, (by decide : 0 + 0 ≤ _), (by decide : 0 + 0 ≤ _)⟩)
    dsimp only [Pt.U, Pt.locs, Pt.cells, Pt.slots] at X6' l6 y6 z6 st' hQ6
    subst l6 y6 z6
    obtain ⟨rfl, NFq6, KPq6, p6_0⟩ := hQ6
    have X6 : Stand p l e Qfe0 s m #[(.ref a0), (.int p1), (.ref a2), (.ref a3), (.ref a4), (.int p5)] below meth c T6 _ 0 0 := X6'
    have NF6 := Fr.app NF0 NFq6
    have SZ6 : n0 ≤ T6.heap.size := Nat.le_trans SZ0 KPq6.size
    have KP6 : own_Low a0 h0 T6.heap := own_Low.trans KP0 KPq6
    have f7 := Hi.low KPq6 Jx
    have f8 := Hn.low KPq6 Jy
    have f9 := Hy.low KPq6 Jz
    have f10 := Mf.low KPq6 Jh
    have f11 := Mg.low KPq6 Ji
    have f12 := Mh.low KPq6 Jj
    have f13 := Mi.low KPq6 Jk
    have f14 := Mj.low KPq6 Jm
    have f15 := Mk.low KPq6 Jn
    refine op T6 (mkF m 86 #[rv a0, iv p1, rv a2, rv a3, rv a4, iv p5] []) (fun _ k => st'.trans k) ?_
    exact gfe0_86 hw p1 p5 S wl s0 s1 s2 e0_ e1_ e2_ a0 a2 a3 a4 c0 c1 c2 d0 d1 d2 Jx Jy Jz Jh Ji Jj Jk Jm Jn k IB0 hk (sad p5 (3 : Int32) s_a0_0 s2 (0 : Int32) s2 (0 : Int32) e2_ (0 : Int32) e2_ (0 : Int32)) Bd hml hZ G0 T6 X6 (rfl : T6.heap = T6.heap) SZ6 NF6 KP6 f7 f8 f9 f10 f11 f12 f13 f14 f15 p6_0
  · skip
    refine op T0 (mkF m 86 #[rv a0, iv p1, rv a2, rv a3, rv a4, iv p5] []) (fun _ k => XS.icmpYes X0.here hx rfl (pc0 := 59) (pc' := 86) rfl (hb hby d9_59) rfl (flt hc59).2.2.2 (by decide) (by decide) k) ?_
    exact gfe0_86 hw p1 p5 S wl s0 s1 s2 e0_ e1_ e2_ a0 a2 a3 a4 c0 c1 c2 d0 d1 d2 Jx Jy Jz Jh Ji Jj Jk Jm Jn k IB0 hk s_a0_0 Bd hml hZ G0 T0 X0 e0 SZ0 NF0 KP0 Hi Hn Hy Mf Mg Mh Mi Mj Mk W_a0
def ffe0_28 (p1 p5 : Int32) (S : St) (wl s0 s1 s2 e0_ e1_ e2_ : Int32) (s_a0_0 : St) : St := (if (1 : Int32) < p1 then (ffe0_57 p1 p5 S wl s0 s1 s2 e0_ e1_ e2_ (sad p5 (2 : Int32) s_a0_0 s1 (0 : Int32) s1 (0 : Int32) e1_ (0 : Int32) e1_ (0 : Int32))) else (ffe0_57 p1 p5 S wl s0 s1 s2 e0_ e1_ e2_ s_a0_0))
set_option maxRecDepth 65536 in
set_option maxHeartbeats 40000000 in
theorem gfe0_28 (hw : HW aw Z) {h0 : Heap} {n0 : Nat} (p1 p5 : Int32) (S : St) (wl s0 s1 s2 e0_ e1_ e2_ : Int32) (a0 a2 a3 a4 c0 c1 c2 d0 d1 d2 : Addr) (Jx : a2 < a0) (Jy : a3 < a0) (Jz : a4 < a0) (Jh : c0 < a0) (Ji : c1 < a0) (Jj : c2 < a0) (Jk : d0 < a0) (Jm : d1 < a0) (Jn : d2 < a0) (k : Int) (IB0 : own_BS k wl S) (hk : k ≤ 17) (s_a0_0 : St) (IB : own_BS (k + 1) wl s_a0_0)
    (Bd : BodyLoose p l y17 (head1 (Jvm.Cond.code y17 Gs 6 none :: ws) Qfe0) Gs 6 none e s m #[(.ref a0), (.int p1), (.ref a2), (.ref a3), (.ref a4), (.int p5)] below meth c s₁) (hml : c.maxLocals = 6) (hZ : Z.Warmed39 s.vm) (G0 : n0 ≤ a0) (T0 : State) {locs : List Loc} (X0 : Stand p l e Qfe0 s m #[(.ref a0), (.int p1), (.ref a2), (.ref a3), (.ref a4), (.int p5)] below meth c T0 locs 0 0) {h : Heap} (e0 : T0.heap = h) (SZ0 : n0 ≤ h.size) (NF0 : Fr n0 locs) (KP0 : own_Low a0 h0 h) (Hi : own_Rv Z h a2 (3 : Int32) [.ref c0, .ref c1, .ref c2]) (Hn : own_Rv Z h a3 (3 : Int32) [.ref d0, .ref d1, .ref d2]) (Hy : own_Iv Z h a4 (3 : Int32) [(0 : Int32), (1 : Int32), (2 : Int32)]) (Mf : own_G Z h c0 wl s0 (0 : Int32) s0 (0 : Int32)) (Mg : own_G Z h c1 wl s1 (0 : Int32) s1 (0 : Int32)) (Mh : own_G Z h c2 wl s2 (0 : Int32) s2 (0 : Int32)) (Mi : own_G Z h d0 wl e0_ (0 : Int32) e0_ (0 : Int32)) (Mj : own_G Z h d1 wl e1_ (0 : Int32) e1_ (0 : Int32)) (Mk : own_G Z h d2 wl e2_ (0 : Int32) e2_ (0 : Int32)) (W_a0 : own_V Z h n0 a0 s_a0_0) :
    own_Go p e below s Qfe0.cells Qfe0.slots (Rfe0 (ffe0_28 p1 p5 S wl s0 s1 s2 e0_ e1_ e2_ s_a0_0)) (Kfe0 Z p1 p5 S wl s0 s1 s2 e0_ e1_ e2_ a0 a2 a3 a4 c0 c1 c2 d0 d1 d2 h0 n0 (ffe0_28 p1 p5 S wl s0 s1 s2 e0_ e1_ e2_ s_a0_0)) (T0.setTop (mkF m 28 #[rv a0, iv p1, rv a2, rv a3, rv a4, iv p5] [])) := by
  have hx := Bd.exec
  have hby := Bd.bytes
  have hown : s.vm.findClass cL = some m.cls := findClass_of_methodNamed Bd.named
  have hnm := (name_of_methodNamed Bd.named Bd.method).1
  unfold ffe0_28
  refine op T0 (mkF m 30 #[rv a0, iv p1, rv a2, rv a3, rv a4, iv p5] [(.int 1), (.int p1)]) (fun _ k => XS.iloadN X0.here hx rfl (hb hby d9_28) rfl (XS.iconst X0.here hx rfl (hb hby d9_29) k)) ?_
  refine own_iteT Rfe0 (Kfe0 Z p1 p5 S wl s0 s1 s2 e0_ e1_ e2_ a0 a2 a3 a4 c0 c1 c2 d0 d1 d2 h0 n0) (fun hc30 => ?_) (fun hc30 => ?_)
  · skip
    refine op T0 (mkF m 38 #[rv a0, iv p1, rv a2, rv a3, rv a4, iv p5] [(.int 1), (.ref a4), (.ref a2), (.ref a0)]) (fun _ k => XS.icmpNo X0.here hx rfl (hb hby d9_30) rfl (tlt hc30).2.2.2 (XS.aloadN X0.here hx rfl (hb hby d9_33) rfl rfl (XS.aloadN X0.here hx rfl (hb hby d9_34) rfl rfl (XS.aload X0.here hx rfl (hb hby d9_35) rfl rfl (XS.iconst X0.here hx rfl (hb hby d9_37) k))))) ?_
    obtain ⟨k1, cl1, Ar1, q1, S1, N1, H1, G1⟩ := id Hy
    have hin1 : ¬ ((1 : Int32) < 0 ∨ cl1.slots.size ≤ ((1 : Int32)).toNatClampNeg) := inb_of S1 ⟨by decide, by decide⟩
    refine op T0 (mkF m 39 #[rv a0, iv p1, rv a2, rv a3, rv a4, iv p5] [(.int 1), (.ref a2), (.ref a0)]) (fun t k => X0.iaload hx (j := (1 : Int32)) (v := (.int 1)) (by rw [e0]; exact Ar1.1) (State.isArrayOf_alike hZ.alike Ar1.2.1) Ar1.2.2 hin1 (H1.at hin1 rfl) (g := (mkF m 38 #[rv a0, iv p1, rv a2, rv a3, rv a4, iv p5] [(.int 1), (.ref a4), (.ref a2), (.ref a0)])) rfl rfl (hb hby d9_38) t k) ?_
    obtain ⟨k2, ⟨cl2, Ar2, q2, S2, N2, H2, G2⟩, -⟩ := id Hi
    have hin2 : ¬ ((1 : Int32) < 0 ∨ cl2.slots.size ≤ ((1 : Int32)).toNatClampNeg) := inb_of S2 ⟨by decide, by decide⟩
    refine op T0 (mkF m 40 #[rv a0, iv p1, rv a2, rv a3, rv a4, iv p5] [(.ref c1), (.ref a0)]) (fun t k => X0.aaload hx (j := (1 : Int32)) (v := (.ref c1)) (by rw [e0]; exact Ar2.1) (State.isArrayOf_alike hZ.alike Ar2.2.1) rfl Ar2.2.2 hin2 (H2.at hin2 rfl) (g := (mkF m 39 #[rv a0, iv p1, rv a2, rv a3, rv a4, iv p5] [(.int 1), (.ref a2), (.ref a0)])) rfl rfl (hb hby d9_39) t k) ?_
    refine op T0 (mkF m 44 #[rv a0, iv p1, rv a2, rv a3, rv a4, iv p5] [(.int 1), (.ref a4), (.ref a3), (.ref c1), (.ref a0)]) (fun _ k => XS.aloadN X0.here hx rfl (hb hby d9_40) rfl rfl (XS.aload X0.here hx rfl (hb hby d9_41) rfl rfl (XS.iconst X0.here hx rfl (hb hby d9_43) k))) ?_
    obtain ⟨k3, cl3, Ar3, q3, S3, N3, H3, G3⟩ := id Hy
    have hin3 : ¬ ((1 : Int32) < 0 ∨ cl3.slots.size ≤ ((1 : Int32)).toNatClampNeg) := inb_of S3 ⟨by decide, by decide⟩
    refine op T0 (mkF m 45 #[rv a0, iv p1, rv a2, rv a3, rv a4, iv p5] [(.int 1), (.ref a3), (.ref c1), (.ref a0)]) (fun t k => X0.iaload hx (j := (1 : Int32)) (v := (.int 1)) (by rw [e0]; exact Ar3.1) (State.isArrayOf_alike hZ.alike Ar3.2.1) Ar3.2.2 hin3 (H3.at hin3 rfl) (g := (mkF m 44 #[rv a0, iv p1, rv a2, rv a3, rv a4, iv p5] [(.int 1), (.ref a4), (.ref a3), (.ref c1), (.ref a0)])) rfl rfl (hb hby d9_44) t k) ?_
    obtain ⟨k4, ⟨cl4, Ar4, q4, S4, N4, H4, G4⟩, -⟩ := id Hn
    have hin4 : ¬ ((1 : Int32) < 0 ∨ cl4.slots.size ≤ ((1 : Int32)).toNatClampNeg) := inb_of S4 ⟨by decide, by decide⟩
    refine op T0 (mkF m 46 #[rv a0, iv p1, rv a2, rv a3, rv a4, iv p5] [(.ref d1), (.ref c1), (.ref a0)]) (fun t k => X0.aaload hx (j := (1 : Int32)) (v := (.ref d1)) (by rw [e0]; exact Ar4.1) (State.isArrayOf_alike hZ.alike Ar4.2.1) rfl Ar4.2.2 hin4 (H4.at hin4 rfl) (g := (mkF m 45 #[rv a0, iv p1, rv a2, rv a3, rv a4, iv p5] [(.int 1), (.ref a3), (.ref c1), (.ref a0)])) rfl rfl (hb hby d9_45) t k) ?_
    refine op T0 (mkF m 51 #[rv a0, iv p1, rv a2, rv a3, rv a4, iv p5] [(.int 1), (.ref a4), (.int p5), (.ref d1), (.ref c1), (.ref a0)]) (fun _ k => XS.iload X0.here hx rfl (hb hby d9_46) rfl (XS.aload X0.here hx rfl (hb hby d9_48) rfl rfl (XS.iconst X0.here hx rfl (hb hby d9_50) k))) ?_
    obtain ⟨k5, cl5, Ar5, q5, S5, N5, H5, G5⟩ := id Hy
    have hin5 : ¬ ((1 : Int32) < 0 ∨ cl5.slots.size ≤ ((1 : Int32)).toNatClampNeg) := inb_of S5 ⟨by decide, by decide⟩
    refine op T0 (mkF m 52 #[rv a0, iv p1, rv a2, rv a3, rv a4, iv p5] [(.int 1), (.int p5), (.ref d1), (.ref c1), (.ref a0)]) (fun t k => X0.iaload hx (j := (1 : Int32)) (v := (.int 1)) (by rw [e0]; exact Ar5.1) (State.isArrayOf_alike hZ.alike Ar5.2.1) Ar5.2.2 hin5 (H5.at hin5 rfl) (g := (mkF m 51 #[rv a0, iv p1, rv a2, rv a3, rv a4, iv p5] [(.int 1), (.ref a4), (.int p5), (.ref d1), (.ref c1), (.ref a0)])) rfl rfl (hb hby d9_51) t k) ?_
    refine op T0 (mkF m 54 #[rv a0, iv p1, rv a2, rv a3, rv a4, iv p5] [(.int 2), (.int p5), (.ref d1), (.ref c1), (.ref a0)]) (fun _ k => XS.iconst X0.here hx rfl (hb hby d9_52) (XS.iadd X0.here hx rfl (hb hby d9_53) rfl k)) ?_
    have ex6 := own_V.exa W_a0
    obtain ⟨cq6, kq6, qa6, qb6, qc6⟩ := isOf hZ e0 ex6
    obtain ⟨_, _, ⟨T6, L6, k6, n6⟩, -, X6', ⟨Lc6, hQ6, l6, y6, z6⟩, st'⟩ := X0.virtualBack hx (y := y13) (z := y13) hown (mvT hZ (ow hw 70 rfl)) (mvT hZ (ow hw 71 rfl)) (notFace_of_selects (args := #[]) (mvT hZ (ow hw 73 rfl))) (mvT hZ (ow hw 73 rfl)) (mvT hZ (ow hw 72 rfl)) (by decide) (backOf (W := 0) (rmvad l Z aw hw [] p5 (2 : Int32) s_a0_0 wl s1 (0 : Int32) s1 (0 : Int32) e1_ (0 : Int32) e1_ (0 : Int32) a0 c1 d1 h n0 SZ0 W_a0 Mg Mj Ji Jm _ IB (by omega) G0) hZ (ow hw 74 rfl) (ow hw 20 rfl) (by decide) (by decide)) qa6 qc6 (g := (mkF m 54 #[rv a0, iv p1, rv a2, rv a3, rv a4, iv p5] [(.int 2), (.int p5), (.ref d1), (.ref c1), (.ref a0)])) rfl (by rw [hml]; rfl) (Steps.refl _) (argsL := [(.ref c1), (.ref d1), (.int p5), (.int 2)]) (rest := []) (lenOf own_pd10 rfl) rfl (by show 2 * 0 + _ ≤ _; exact Nat.le_of_eq rfl) (hb hby d9_54) (fun _ _ => ⟨rfl, e0, (by decide : 0 + 0 ≤ _), (by decide : 0 + 0 ≤ _)⟩)
    dsimp only [Pt.U, Pt.locs, Pt.cells, Pt.slots] at X6' l6 y6 z6 st' hQ6
    subst l6 y6 z6
    obtain ⟨rfl, NFq6, KPq6, p6_0⟩ := hQ6
    have X6 : Stand p l e Qfe0 s m #[(.ref a0), (.int p1), (.ref a2), (.ref a3), (.ref a4), (.int p5)] below meth c T6 _ 0 0 := X6'
    have NF6 := Fr.app NF0 NFq6
    have SZ6 : n0 ≤ T6.heap.size := Nat.le_trans SZ0 KPq6.size
    have KP6 : own_Low a0 h0 T6.heap := own_Low.trans KP0 KPq6
    have f7 := Hi.low KPq6 Jx
    have f8 := Hn.low KPq6 Jy
    have f9 := Hy.low KPq6 Jz
    have f10 := Mf.low KPq6 Jh
    have f11 := Mg.low KPq6 Ji
    have f12 := Mh.low KPq6 Jj
    have f13 := Mi.low KPq6 Jk
    have f14 := Mj.low KPq6 Jm
    have f15 := Mk.low KPq6 Jn
    refine op T6 (mkF m 57 #[rv a0, iv p1, rv a2, rv a3, rv a4, iv p5] []) (fun _ k => st'.trans k) ?_
    exact gfe0_57 hw p1 p5 S wl s0 s1 s2 e0_ e1_ e2_ a0 a2 a3 a4 c0 c1 c2 d0 d1 d2 Jx Jy Jz Jh Ji Jj Jk Jm Jn k IB0 hk (sad p5 (2 : Int32) s_a0_0 s1 (0 : Int32) s1 (0 : Int32) e1_ (0 : Int32) e1_ (0 : Int32)) (by first | exact own_BS.mono IB | exact own_Sad IB (by omega) | exact own_BS.mono IB0 | exact own_Sad IB0 (by omega)) Bd hml hZ G0 T6 X6 (rfl : T6.heap = T6.heap) SZ6 NF6 KP6 f7 f8 f9 f10 f11 f12 f13 f14 f15 p6_0
  · skip
    refine op T0 (mkF m 57 #[rv a0, iv p1, rv a2, rv a3, rv a4, iv p5] []) (fun _ k => XS.icmpYes X0.here hx rfl (pc0 := 30) (pc' := 57) rfl (hb hby d9_30) rfl (flt hc30).2.2.2 (by decide) (by decide) k) ?_
    exact gfe0_57 hw p1 p5 S wl s0 s1 s2 e0_ e1_ e2_ a0 a2 a3 a4 c0 c1 c2 d0 d1 d2 Jx Jy Jz Jh Ji Jj Jk Jm Jn k IB0 hk s_a0_0 (by first | exact own_BS.mono IB | exact own_Sad IB (by omega) | exact own_BS.mono IB0 | exact own_Sad IB0 (by omega)) Bd hml hZ G0 T0 X0 e0 SZ0 NF0 KP0 Hi Hn Hy Mf Mg Mh Mi Mj Mk W_a0
def ffe0_0 (p1 p5 : Int32) (S : St) (wl s0 s1 s2 e0_ e1_ e2_ : Int32) : St := (if (0 : Int32) < p1 then (ffe0_28 p1 p5 S wl s0 s1 s2 e0_ e1_ e2_ (sad p5 (1 : Int32) S s0 (0 : Int32) s0 (0 : Int32) e0_ (0 : Int32) e0_ (0 : Int32))) else (ffe0_28 p1 p5 S wl s0 s1 s2 e0_ e1_ e2_ S))
set_option maxRecDepth 65536 in
set_option maxHeartbeats 40000000 in
theorem gfe0_0 (hw : HW aw Z) {h0 : Heap} {n0 : Nat} (p1 p5 : Int32) (S : St) (wl s0 s1 s2 e0_ e1_ e2_ : Int32) (a0 a2 a3 a4 c0 c1 c2 d0 d1 d2 : Addr) (Jx : a2 < a0) (Jy : a3 < a0) (Jz : a4 < a0) (Jh : c0 < a0) (Ji : c1 < a0) (Jj : c2 < a0) (Jk : d0 < a0) (Jm : d1 < a0) (Jn : d2 < a0) (k : Int) (IB0 : own_BS k wl S) (hk : k ≤ 17)
    (Bd : BodyLoose p l y17 (head1 (Jvm.Cond.code y17 Gs 6 none :: ws) Qfe0) Gs 6 none e s m #[(.ref a0), (.int p1), (.ref a2), (.ref a3), (.ref a4), (.int p5)] below meth c s₁) (hml : c.maxLocals = 6) (hZ : Z.Warmed39 s.vm) (G0 : n0 ≤ a0) (T0 : State) {locs : List Loc} (X0 : Stand p l e Qfe0 s m #[(.ref a0), (.int p1), (.ref a2), (.ref a3), (.ref a4), (.int p5)] below meth c T0 locs 0 0) (e0 : T0.heap = h0) (SZ0 : n0 ≤ h0.size) (NF0 : Fr n0 locs) (KP0 : own_Low a0 h0 h0) (W_a0 : own_V Z h0 n0 a0 S) (Hi : own_Rv Z h0 a2 (3 : Int32) [.ref c0, .ref c1, .ref c2]) (Hn : own_Rv Z h0 a3 (3 : Int32) [.ref d0, .ref d1, .ref d2]) (Hy : own_Iv Z h0 a4 (3 : Int32) [(0 : Int32), (1 : Int32), (2 : Int32)]) (Mf : own_G Z h0 c0 wl s0 (0 : Int32) s0 (0 : Int32)) (Mg : own_G Z h0 c1 wl s1 (0 : Int32) s1 (0 : Int32)) (Mh : own_G Z h0 c2 wl s2 (0 : Int32) s2 (0 : Int32)) (Mi : own_G Z h0 d0 wl e0_ (0 : Int32) e0_ (0 : Int32)) (Mj : own_G Z h0 d1 wl e1_ (0 : Int32) e1_ (0 : Int32)) (Mk : own_G Z h0 d2 wl e2_ (0 : Int32) e2_ (0 : Int32)) :
    own_Go p e below s Qfe0.cells Qfe0.slots (Rfe0 (ffe0_0 p1 p5 S wl s0 s1 s2 e0_ e1_ e2_)) (Kfe0 Z p1 p5 S wl s0 s1 s2 e0_ e1_ e2_ a0 a2 a3 a4 c0 c1 c2 d0 d1 d2 h0 n0 (ffe0_0 p1 p5 S wl s0 s1 s2 e0_ e1_ e2_)) (T0.setTop (mkF m 0 #[rv a0, iv p1, rv a2, rv a3, rv a4, iv p5] [])) := by
  have hx := Bd.exec
  have hby := Bd.bytes
  have hown : s.vm.findClass cL = some m.cls := findClass_of_methodNamed Bd.named
  have hnm := (name_of_methodNamed Bd.named Bd.method).1
  unfold ffe0_0
  refine op T0 (mkF m 1 #[rv a0, iv p1, rv a2, rv a3, rv a4, iv p5] [(.int p1)]) (fun _ k => XS.iloadN X0.here hx rfl (hb hby d9_0) rfl k) ?_
  refine own_iteT Rfe0 (Kfe0 Z p1 p5 S wl s0 s1 s2 e0_ e1_ e2_ a0 a2 a3 a4 c0 c1 c2 d0 d1 d2 h0 n0) (fun hc1 => ?_) (fun hc1 => ?_)
  · skip
    refine op T0 (mkF m 9 #[rv a0, iv p1, rv a2, rv a3, rv a4, iv p5] [(.int 0), (.ref a4), (.ref a2), (.ref a0)]) (fun _ k => XS.ifNo X0.here hx rfl (hb hby d9_1) rfl ((if0 _ _).trans (tlt hc1).2.2.2) (XS.aloadN X0.here hx rfl (hb hby d9_4) rfl rfl (XS.aloadN X0.here hx rfl (hb hby d9_5) rfl rfl (XS.aload X0.here hx rfl (hb hby d9_6) rfl rfl (XS.iconst X0.here hx rfl (hb hby d9_8) k))))) ?_
    obtain ⟨k1, cl1, Ar1, q1, S1, N1, H1, G1⟩ := id Hy
    have hin1 : ¬ ((0 : Int32) < 0 ∨ cl1.slots.size ≤ ((0 : Int32)).toNatClampNeg) := inb_of S1 ⟨by decide, by decide⟩
    refine op T0 (mkF m 10 #[rv a0, iv p1, rv a2, rv a3, rv a4, iv p5] [(.int 0), (.ref a2), (.ref a0)]) (fun t k => X0.iaload hx (j := (0 : Int32)) (v := (.int 0)) (by rw [e0]; exact Ar1.1) (State.isArrayOf_alike hZ.alike Ar1.2.1) Ar1.2.2 hin1 (H1.at hin1 rfl) (g := (mkF m 9 #[rv a0, iv p1, rv a2, rv a3, rv a4, iv p5] [(.int 0), (.ref a4), (.ref a2), (.ref a0)])) rfl rfl (hb hby d9_9) t k) ?_
    obtain ⟨k2, ⟨cl2, Ar2, q2, S2, N2, H2, G2⟩, -⟩ := id Hi
    have hin2 : ¬ ((0 : Int32) < 0 ∨ cl2.slots.size ≤ ((0 : Int32)).toNatClampNeg) := inb_of S2 ⟨by decide, by decide⟩
    refine op T0 (mkF m 11 #[rv a0, iv p1, rv a2, rv a3, rv a4, iv p5] [(.ref c0), (.ref a0)]) (fun t k => X0.aaload hx (j := (0 : Int32)) (v := (.ref c0)) (by rw [e0]; exact Ar2.1) (State.isArrayOf_alike hZ.alike Ar2.2.1) rfl Ar2.2.2 hin2 (H2.at hin2 rfl) (g := (mkF m 10 #[rv a0, iv p1, rv a2, rv a3, rv a4, iv p5] [(.int 0), (.ref a2), (.ref a0)])) rfl rfl (hb hby d9_10) t k) ?_
    refine op T0 (mkF m 15 #[rv a0, iv p1, rv a2, rv a3, rv a4, iv p5] [(.int 0), (.ref a4), (.ref a3), (.ref c0), (.ref a0)]) (fun _ k => XS.aloadN X0.here hx rfl (hb hby d9_11) rfl rfl (XS.aload X0.here hx rfl (hb hby d9_12) rfl rfl (XS.iconst X0.here hx rfl (hb hby d9_14) k))) ?_
    obtain ⟨k3, cl3, Ar3, q3, S3, N3, H3, G3⟩ := id Hy
    have hin3 : ¬ ((0 : Int32) < 0 ∨ cl3.slots.size ≤ ((0 : Int32)).toNatClampNeg) := inb_of S3 ⟨by decide, by decide⟩
    refine op T0 (mkF m 16 #[rv a0, iv p1, rv a2, rv a3, rv a4, iv p5] [(.int 0), (.ref a3), (.ref c0), (.ref a0)]) (fun t k => X0.iaload hx (j := (0 : Int32)) (v := (.int 0)) (by rw [e0]; exact Ar3.1) (State.isArrayOf_alike hZ.alike Ar3.2.1) Ar3.2.2 hin3 (H3.at hin3 rfl) (g := (mkF m 15 #[rv a0, iv p1, rv a2, rv a3, rv a4, iv p5] [(.int 0), (.ref a4), (.ref a3), (.ref c0), (.ref a0)])) rfl rfl (hb hby d9_15) t k) ?_
    obtain ⟨k4, ⟨cl4, Ar4, q4, S4, N4, H4, G4⟩, -⟩ := id Hn
    have hin4 : ¬ ((0 : Int32) < 0 ∨ cl4.slots.size ≤ ((0 : Int32)).toNatClampNeg) := inb_of S4 ⟨by decide, by decide⟩
    refine op T0 (mkF m 17 #[rv a0, iv p1, rv a2, rv a3, rv a4, iv p5] [(.ref d0), (.ref c0), (.ref a0)]) (fun t k => X0.aaload hx (j := (0 : Int32)) (v := (.ref d0)) (by rw [e0]; exact Ar4.1) (State.isArrayOf_alike hZ.alike Ar4.2.1) rfl Ar4.2.2 hin4 (H4.at hin4 rfl) (g := (mkF m 16 #[rv a0, iv p1, rv a2, rv a3, rv a4, iv p5] [(.int 0), (.ref a3), (.ref c0), (.ref a0)])) rfl rfl (hb hby d9_16) t k) ?_
    refine op T0 (mkF m 22 #[rv a0, iv p1, rv a2, rv a3, rv a4, iv p5] [(.int 0), (.ref a4), (.int p5), (.ref d0), (.ref c0), (.ref a0)]) (fun _ k => XS.iload X0.here hx rfl (hb hby d9_17) rfl (XS.aload X0.here hx rfl (hb hby d9_19) rfl rfl (XS.iconst X0.here hx rfl (hb hby d9_21) k))) ?_
    obtain ⟨k5, cl5, Ar5, q5, S5, N5, H5, G5⟩ := id Hy
    have hin5 : ¬ ((0 : Int32) < 0 ∨ cl5.slots.size ≤ ((0 : Int32)).toNatClampNeg) := inb_of S5 ⟨by decide, by decide⟩
    refine op T0 (mkF m 23 #[rv a0, iv p1, rv a2, rv a3, rv a4, iv p5] [(.int 0), (.int p5), (.ref d0), (.ref c0), (.ref a0)]) (fun t k => X0.iaload hx (j := (0 : Int32)) (v := (.int 0)) (by rw [e0]; exact Ar5.1) (State.isArrayOf_alike hZ.alike Ar5.2.1) Ar5.2.2 hin5 (H5.at hin5 rfl) (g := (mkF m 22 #[rv a0, iv p1, rv a2, rv a3, rv a4, iv p5] [(.int 0), (.ref a4), (.int p5), (.ref d0), (.ref c0), (.ref a0)])) rfl rfl (hb hby d9_22) t k) ?_
    refine op T0 (mkF m 25 #[rv a0, iv p1, rv a2, rv a3, rv a4, iv p5] [(.int 1), (.int p5), (.ref d0), (.ref c0), (.ref a0)]) (fun _ k => XS.iconst X0.here hx rfl (hb hby d9_23) (XS.iadd X0.here hx rfl (hb hby d9_24) rfl k)) ?_
    have ex6 := own_V.exa W_a0
    obtain ⟨cq6, kq6, qa6, qb6, qc6⟩ := isOf hZ e0 ex6
    obtain ⟨_, _, ⟨T6, L6, k6, n6⟩, -, X6', ⟨Lc6, hQ6, l6, y6, z6⟩, st'⟩ := X0.virtualBack hx (y := y13) (z := y13) hown (mvT hZ (ow hw 70 rfl)) (mvT hZ (ow hw 71 rfl)) (notFace_of_selects (args := #[]) (mvT hZ (ow hw 73 rfl))) (mvT hZ (ow hw 73 rfl)) (mvT hZ (ow hw 72 rfl)) (by decide) (backOf (W := 0) (rmvad l Z aw hw [] p5 (1 : Int32) S wl s0 (0 : Int32) s0 (0 : Int32) e0_ (0 : Int32) e0_ (0 : Int32) a0 c0 d0 h0 n0 SZ0 W_a0 Mf Mi Jh Jk _ IB0 (by omega) G0) hZ (ow hw 74 rfl) (ow hw 20 rfl) (by decide) (by decide)) qa6 qc6 (g := (mkF m 25 #[rv a0, iv p1, rv a2, rv a3, rv a4, iv p5] [(.int 1), (.int p5), (.ref d0), (.ref c0), (.ref a0)])) rfl (by rw [hml]; rfl) (Steps.refl _) (argsL := [(.ref c0), (.ref d0), (.int p5), (.int 1)]) (rest := []) (lenOf own_pd10 rfl) rfl (by show 2 * 0 + _ ≤ _; exact Nat.le_of_eq rfl) (hb hby d9_25) (fun _ _ => ⟨rfl, e0, (by decide : 0 + 0 ≤ _), (by decide : 0 + 0 ≤ _)⟩)
    dsimp only [Pt.U, Pt.locs, Pt.cells, Pt.slots] at X6' l6 y6 z6 st' hQ6
    subst l6 y6 z6
    obtain ⟨rfl, NFq6, KPq6, p6_0⟩ := hQ6
    have X6 : Stand p l e Qfe0 s m #[(.ref a0), (.int p1), (.ref a2), (.ref a3), (.ref a4), (.int p5)] below meth c T6 _ 0 0 := X6'
    have NF6 := Fr.app NF0 NFq6
    have SZ6 : n0 ≤ T6.heap.size := Nat.le_trans SZ0 KPq6.size
    have KP6 : own_Low a0 h0 T6.heap := own_Low.trans KP0 KPq6
    have f7 := Hi.low KPq6 Jx
    have f8 := Hn.low KPq6 Jy
    have f9 := Hy.low KPq6 Jz
    have f10 := Mf.low KPq6 Jh
    have f11 := Mg.low KPq6 Ji
    have f12 := Mh.low KPq6 Jj
    have f13 := Mi.low KPq6 Jk
    have f14 := Mj.low KPq6 Jm
    have f15 := Mk.low KPq6 Jn
    refine op T6 (mkF m 28 #[rv a0, iv p1, rv a2, rv a3, rv a4, iv p5] []) (fun _ k => st'.trans k) ?_
    exact gfe0_28 hw p1 p5 S wl s0 s1 s2 e0_ e1_ e2_ a0 a2 a3 a4 c0 c1 c2 d0 d1 d2 Jx Jy Jz Jh Ji Jj Jk Jm Jn k IB0 hk (sad p5 (1 : Int32) S s0 (0 : Int32) s0 (0 : Int32) e0_ (0 : Int32) e0_ (0 : Int32)) (by first | exact own_BS.mono IB | exact own_Sad IB (by omega) | exact own_BS.mono IB0 | exact own_Sad IB0 (by omega)) Bd hml hZ G0 T6 X6 (rfl : T6.heap = T6.heap) SZ6 NF6 KP6 f7 f8 f9 f10 f11 f12 f13 f14 f15 p6_0
  · skip
    refine op T0 (mkF m 28 #[rv a0, iv p1, rv a2, rv a3, rv a4, iv p5] []) (fun _ k => XS.ifYes X0.here hx rfl (pc0 := 1) (pc' := 28) rfl (hb hby d9_1) rfl ((if0 _ _).trans (flt hc1).2.2.2) (by decide) (by decide) k) ?_
    exact gfe0_28 hw p1 p5 S wl s0 s1 s2 e0_ e1_ e2_ a0 a2 a3 a4 c0 c1 c2 d0 d1 d2 Jx Jy Jz Jh Ji Jj Jk Jm Jn k IB0 hk S (by first | exact own_BS.mono IB | exact own_Sad IB (by omega) | exact own_BS.mono IB0 | exact own_Sad IB0 (by omega)) Bd hml hZ G0 T0 X0 e0 SZ0 NF0 KP0 Hi Hn Hy Mf Mg Mh Mi Mj Mk W_a0
theorem ef_fe0 (m : MethodId) (a0 : Addr) (p1 : Int32) (a2 a3 a4 : Addr) (p5 : Int32) : entryFrame m #[(.ref a0), (.int p1), (.ref a2), (.ref a3), (.ref a4), (.int p5)] 6 = mkF m 0 #[rv a0, iv p1, rv a2, rv a3, rv a4, iv p5] [] := by first | (simp [entryFrame, mkF, argsToLocals, Value.category]; done) | rfl
set_option maxRecDepth 65536 in
set_option maxHeartbeats 40000000 in
theorem rmfe0 (l : Launch) (Z : State) (aw : Array Value) (hw : HW aw Z) (ws : List Jvm.Cond) (p1 p5 : Int32) (S : St) (wl s0 s1 s2 e0_ e1_ e2_ : Int32) (a0 a2 a3 a4 c0 c1 c2 d0 d1 d2 : Addr) (h0 : Heap) (n0 : Nat) (SZ0 : n0 ≤ h0.size) (W_a0 : own_V Z h0 n0 a0 S) (Hi : own_Rv Z h0 a2 (3 : Int32) [.ref c0, .ref c1, .ref c2]) (Hn : own_Rv Z h0 a3 (3 : Int32) [.ref d0, .ref d1, .ref d2]) (Hy : own_Iv Z h0 a4 (3 : Int32) [(0 : Int32), (1 : Int32), (2 : Int32)]) (Mf : own_G Z h0 c0 wl s0 (0 : Int32) s0 (0 : Int32)) (Mg : own_G Z h0 c1 wl s1 (0 : Int32) s1 (0 : Int32)) (Mh : own_G Z h0 c2 wl s2 (0 : Int32) s2 (0 : Int32)) (Mi : own_G Z h0 d0 wl e0_ (0 : Int32) e0_ (0 : Int32)) (Mj : own_G Z h0 d1 wl e1_ (0 : Int32) e1_ (0 : Int32)) (Mk : own_G Z h0 d2 wl e2_ (0 : Int32) e2_ (0 : Int32)) (Jx : a2 < a0) (Jy : a3 < a0) (Jz : a4 < a0) (Jh : c0 < a0) (Ji : c1 < a0) (Jj : c2 < a0) (Jk : d0 < a0) (Jm : d1 < a0) (Jn : d2 < a0) (k : Int) (IB0 : own_BS k wl S) (hk : k ≤ 17) (G0 : n0 ≤ a0) :
    MetFree l y17 (head1 (Jvm.Cond.code y17 Gs 6 none :: ws) Qfe0) (fun a U => a = #[(.ref a0), (.int p1), (.ref a2), (.ref a3), (.ref a4), (.int p5)] ∧ Z.Warmed39 U.vm ∧ U.heap = h0) (fun _ _ _ _ _ => True) (fun _ U o U' => ∃ v L, o = .returned v ∧ own_Q (Rfe0 (ffe0_0 p1 p5 S wl s0 s1 s2 e0_ e1_ e2_)) (Kfe0 Z p1 p5 S wl s0 s1 s2 e0_ e1_ e2_ a0 a2 a3 a4 c0 c1 c2 d0 d1 d2 h0 n0 (ffe0_0 p1 p5 S wl s0 s1 s2 e0_ e1_ e2_)) v U'.heap L ∧ FrameEnd U o U' L Qfe0.cells Qfe0.slots) := by
  refine MetFree.of_bodySF (plainFor_of_name own_pn4) hisR ?_
  intro p e s m args below meth c s₁ Bd hml0 hP hK
  obtain ⟨rfl, hZ, hh⟩ := hP
  have hml : c.maxLocals = 6 := hml0
  have e0 : s₁.heap = h0 := by rw [← hh, Bd.state]; rfl
  exact own_pre (fun t k => castTop (ef_fe0 m a0 p1 a2 a3 a4 p5) k) (gfe0_0 hw p1 p5 S wl s0 s1 s2 e0_ e1_ e2_ a0 a2 a3 a4 c0 c1 c2 d0 d1 d2 Jx Jy Jz Jh Ji Jj Jk Jm Jn k IB0 hk Bd hml hZ G0 s₁ (Stand.of_body Bd) e0 SZ0 (Fr.nil n0) own_Low.refl W_a0 Hi Hn Hy Mf Mg Mh Mi Mj Mk)
theorem own_Sfe0 {k : Int} {p1 p5 wl s0 s1 s2 e0_ e1_ e2_ : Int32} {S : St} (IB : own_BS k wl S) (hk : k ≤ 17) : own_BS (k + 1 + 1 + 1) wl (ffe0_0 p1 p5 S wl s0 s1 s2 e0_ e1_ e2_) := by
  have A2 : ∀ T, own_BS (k + 1 + 1) wl T → own_BS (k + 1 + 1 + 1) wl (ffe0_57 p1 p5 S wl s0 s1 s2 e0_ e1_ e2_ T) := by
    intro T IB; unfold ffe0_57 ffe0_86; split <;> first | exact own_BS.mono IB | exact own_Sad IB (by omega)
  have A1 : ∀ T, own_BS (k + 1) wl T → own_BS (k + 1 + 1 + 1) wl (ffe0_28 p1 p5 S wl s0 s1 s2 e0_ e1_ e2_ T) := by
    intro T IB; unfold ffe0_28; split <;> apply A2 <;> first | exact own_BS.mono IB | exact own_Sad IB (by omega)
  unfold ffe0_0; split <;> apply A1 <;> first | exact own_BS.mono IB | exact own_Sad IB (by omega)
abbrev Qfe1 : Room := { frames := 5, cells := 0, slots := 0, locals := 122 }
/-! body 9, fe1 -/
def Rfe1 (t : St) : Option Value := none
def Kfe1 (Z : State) (p1 p5 : Int32) (S : St) (wl s0 s1 s2 e0_ e1_ e2_ : Int32) (a0 a2 a3 a4 c0 c1 c2 d0 d1 d2 : Addr) (h0 : Heap) (n0 : Nat) (t : St) (h : Heap) (L : List Loc) : Prop := Fr n0 L ∧ own_Low a0 h0 h ∧ own_V Z h n0 a0 t
def ffe1_86 (p1 p5 : Int32) (S : St) (wl s0 s1 s2 e0_ e1_ e2_ : Int32) (s_a0_0 : St) : St := s_a0_0
set_option maxRecDepth 65536 in
set_option maxHeartbeats 40000000 in
theorem gfe1_86 (hw : HW aw Z) {h0 : Heap} {n0 : Nat} (p1 p5 : Int32) (S : St) (wl s0 s1 s2 e0_ e1_ e2_ : Int32) (a0 a2 a3 a4 c0 c1 c2 d0 d1 d2 : Addr) (Jx : a2 < a0) (Jy : a3 < a0) (Jz : a4 < a0) (Jh : c0 < a0) (Ji : c1 < a0) (Jj : c2 < a0) (Jk : d0 < a0) (Jm : d1 < a0) (Jn : d2 < a0) (k : Int) (IB0 : own_BS k wl S) (hk : k ≤ 17) (s_a0_0 : St)
    (Bd : BodyLoose p l y17 (head1 (Jvm.Cond.code y17 Gs 6 none :: ws) Qfe1) Gs 6 none e s m #[(.ref a0), (.int p1), (.ref a2), (.ref a3), (.ref a4), (.int p5)] below meth c s₁) (hml : c.maxLocals = 6) (hZ : Z.Warmed39 s.vm) (G0 : n0 ≤ a0) (T0 : State) {locs : List Loc} (X0 : Stand p l e Qfe1 s m #[(.ref a0), (.int p1), (.ref a2), (.ref a3), (.ref a4), (.int p5)] below meth c T0 locs 0 0) {h : Heap} (e0 : T0.heap = h) (SZ0 : n0 ≤ h.size) (NF0 : Fr n0 locs) (KP0 : own_Low a0 h0 h) (Hi : own_Rv Z h a2 (3 : Int32) [.ref c0, .ref c1, .ref c2]) (Hn : own_Rv Z h a3 (3 : Int32) [.ref d0, .ref d1, .ref d2]) (Hy : own_Iv Z h a4 (3 : Int32) [(1 : Int32), (0 : Int32), (2 : Int32)]) (Mf : own_G Z h c0 wl s0 (0 : Int32) s0 (0 : Int32)) (Mg : own_G Z h c1 wl s1 (0 : Int32) s1 (0 : Int32)) (Mh : own_G Z h c2 wl s2 (0 : Int32) s2 (0 : Int32)) (Mi : own_G Z h d0 wl e0_ (0 : Int32) e0_ (0 : Int32)) (Mj : own_G Z h d1 wl e1_ (0 : Int32) e1_ (0 : Int32)) (Mk : own_G Z h d2 wl e2_ (0 : Int32) e2_ (0 : Int32)) (W_a0 : own_V Z h n0 a0 s_a0_0) :
    own_Go p e below s Qfe1.cells Qfe1.slots (Rfe1 (ffe1_86 p1 p5 S wl s0 s1 s2 e0_ e1_ e2_ s_a0_0)) (Kfe1 Z p1 p5 S wl s0 s1 s2 e0_ e1_ e2_ a0 a2 a3 a4 c0 c1 c2 d0 d1 d2 h0 n0 (ffe1_86 p1 p5 S wl s0 s1 s2 e0_ e1_ e2_ s_a0_0)) (T0.setTop (mkF m 86 #[rv a0, iv p1, rv a2, rv a3, rv a4, iv p5] [])) := by
  have hx := Bd.exec
  have hby := Bd.bytes
  have hown : s.vm.findClass cL = some m.cls := findClass_of_methodNamed Bd.named
  have hnm := (name_of_methodNamed Bd.named Bd.method).1
  unfold ffe1_86
  exact own_retV X0 hx Bd.notSynchronized Bd.returns (hb hby d9_86) (by rw [e0]; exact ⟨NF0, KP0, W_a0⟩) (by decide) (by decide)
def ffe1_57 (p1 p5 : Int32) (S : St) (wl s0 s1 s2 e0_ e1_ e2_ : Int32) (s_a0_0 : St) : St := (if (2 : Int32) < p1 then (ffe1_86 p1 p5 S wl s0 s1 s2 e0_ e1_ e2_ (sad p5 (3 : Int32) s_a0_0 s2 (0 : Int32) s2 (0 : Int32) e2_ (0 : Int32) e2_ (0 : Int32))) else (ffe1_86 p1 p5 S wl s0 s1 s2 e0_ e1_ e2_ s_a0_0))
set_option maxRecDepth 65536 in
set_option maxHeartbeats 40000000 in
theorem gfe1_57 (hw : HW aw Z) {h0 : Heap} {n0 : Nat} (p1 p5 : Int32) (S : St) (wl s0 s1 s2 e0_ e1_ e2_ : Int32) (a0 a2 a3 a4 c0 c1 c2 d0 d1 d2 : Addr) (Jx : a2 < a0) (Jy : a3 < a0) (Jz : a4 < a0) (Jh : c0 < a0) (Ji : c1 < a0) (Jj : c2 < a0) (Jk : d0 < a0) (Jm : d1 < a0) (Jn : d2 < a0) (k : Int) (IB0 : own_BS k wl S) (hk : k ≤ 17) (s_a0_0 : St) (IB : own_BS (k + 1 + 1) wl s_a0_0)
    (Bd : BodyLoose p l y17 (head1 (Jvm.Cond.code y17 Gs 6 none :: ws) Qfe1) Gs 6 none e s m #[(.ref a0), (.int p1), (.ref a2), (.ref a3), (.ref a4), (.int p5)] below meth c s₁) (hml : c.maxLocals = 6) (hZ : Z.Warmed39 s.vm) (G0 : n0 ≤ a0) (T0 : State) {locs : List Loc} (X0 : Stand p l e Qfe1 s m #[(.ref a0), (.int p1), (.ref a2), (.ref a3), (.ref a4), (.int p5)] below meth c T0 locs 0 0) {h : Heap} (e0 : T0.heap = h) (SZ0 : n0 ≤ h.size) (NF0 : Fr n0 locs) (KP0 : own_Low a0 h0 h) (Hi : own_Rv Z h a2 (3 : Int32) [.ref c0, .ref c1, .ref c2]) (Hn : own_Rv Z h a3 (3 : Int32) [.ref d0, .ref d1, .ref d2]) (Hy : own_Iv Z h a4 (3 : Int32) [(1 : Int32), (0 : Int32), (2 : Int32)]) (Mf : own_G Z h c0 wl s0 (0 : Int32) s0 (0 : Int32)) (Mg : own_G Z h c1 wl s1 (0 : Int32) s1 (0 : Int32)) (Mh : own_G Z h c2 wl s2 (0 : Int32) s2 (0 : Int32)) (Mi : own_G Z h d0 wl e0_ (0 : Int32) e0_ (0 : Int32)) (Mj : own_G Z h d1 wl e1_ (0 : Int32) e1_ (0 : Int32)) (Mk : own_G Z h d2 wl e2_ (0 : Int32) e2_ (0 : Int32)) (W_a0 : own_V Z h n0 a0 s_a0_0) :
    own_Go p e below s Qfe1.cells Qfe1.slots (Rfe1 (ffe1_57 p1 p5 S wl s0 s1 s2 e0_ e1_ e2_ s_a0_0)) (Kfe1 Z p1 p5 S wl s0 s1 s2 e0_ e1_ e2_ a0 a2 a3 a4 c0 c1 c2 d0 d1 d2 h0 n0 (ffe1_57 p1 p5 S wl s0 s1 s2 e0_ e1_ e2_ s_a0_0)) (T0.setTop (mkF m 57 #[rv a0, iv p1, rv a2, rv a3, rv a4, iv p5] [])) := by
  have hx := Bd.exec
  have hby := Bd.bytes
  have hown : s.vm.findClass cL = some m.cls := findClass_of_methodNamed Bd.named
  have hnm := (name_of_methodNamed Bd.named Bd.method).1
  unfold ffe1_57
  refine op T0 (mkF m 59 #[rv a0, iv p1, rv a2, rv a3, rv a4, iv p5] [(.int 2), (.int p1)]) (fun _ k => XS.iloadN X0.here hx rfl (hb hby d9_57) rfl (XS.iconst X0.here hx rfl (hb hby d9_58) k)) ?_
  refine own_iteT Rfe1 (Kfe1 Z p1 p5 S wl s0 s1 s2 e0_ e1_ e2_ a0 a2 a3 a4 c0 c1 c2 d0 d1 d2 h0 n0) (fun hc59 => ?_) (fun hc59 => ?_)
  · skip
    refine op T0 (mkF m 67 #[rv a0, iv p1, rv a2, rv a3, rv a4, iv p5] [(.int 2), (.ref a4), (.ref a2), (.ref a0)]) (fun _ k => XS.icmpNo X0.here hx rfl (hb hby d9_59) rfl (tlt hc59).2.2.2 (XS.aloadN X0.here hx rfl (hb hby d9_62) rfl rfl (XS.aloadN X0.here hx rfl (hb hby d9_63) rfl rfl (XS.aload X0.here hx rfl (hb hby d9_64) rfl rfl (XS.iconst X0.here hx rfl (hb hby d9_66) k))))) ?_
    obtain ⟨k1, cl1, Ar1, q1, S1, N1, H1, G1⟩ := id Hy
    have hin1 : ¬ ((2 : Int32) < 0 ∨ cl1.slots.size ≤ ((2 : Int32)).toNatClampNeg) := inb_of S1 ⟨by decide, by decide⟩
    refine op T0 (mkF m 68 #[rv a0, iv p1, rv a2, rv a3, rv a4, iv p5] [(.int 2), (.ref a2), (.ref a0)]) (fun t k => X0.iaload hx (j := (2 : Int32)) (v := (.int 2)) (by rw [e0]; exact Ar1.1) (State.isArrayOf_alike hZ.alike Ar1.2.1) Ar1.2.2 hin1 (H1.at hin1 rfl) (g := (mkF m 67 #[rv a0, iv p1, rv a2, rv a3, rv a4, iv p5] [(.int 2), (.ref a4), (.ref a2), (.ref a0)])) rfl rfl (hb hby d9_67) t k) ?_
    obtain ⟨k2, ⟨cl2, Ar2, q2, S2, N2, H2, G2⟩, -⟩ := id Hi
    have hin2 : ¬ ((2 : Int32) < 0 ∨ cl2.slots.size ≤ ((2 : Int32)).toNatClampNeg) := inb_of S2 ⟨by decide, by decide⟩
    refine op T0 (mkF m 69 #[rv a0, iv p1, rv a2, rv a3, rv a4, iv p5] [(.ref c2), (.ref a0)]) (fun t k => X0.aaload hx (j := (2 : Int32)) (v := (.ref c2)) (by rw [e0]; exact Ar2.1) (State.isArrayOf_alike hZ.alike Ar2.2.1) rfl Ar2.2.2 hin2 (H2.at hin2 rfl) (g := (mkF m 68 #[rv a0, iv p1, rv a2, rv a3, rv a4, iv p5] [(.int 2), (.ref a2), (.ref a0)])) rfl rfl (hb hby d9_68) t k) ?_
    refine op T0 (mkF m 73 #[rv a0, iv p1, rv a2, rv a3, rv a4, iv p5] [(.int 2), (.ref a4), (.ref a3), (.ref c2), (.ref a0)]) (fun _ k => XS.aloadN X0.here hx rfl (hb hby d9_69) rfl rfl (XS.aload X0.here hx rfl (hb hby d9_70) rfl rfl (XS.iconst X0.here hx rfl (hb hby d9_72) k))) ?_
    obtain ⟨k3, cl3, Ar3, q3, S3, N3, H3, G3⟩ := id Hy
    have hin3 : ¬ ((2 : Int32) < 0 ∨ cl3.slots.size ≤ ((2 : Int32)).toNatClampNeg) := inb_of S3 ⟨by decide, by decide⟩
    refine op T0 (mkF m 74 #[rv a0, iv p1, rv a2, rv a3, rv a4, iv p5] [(.int 2), (.ref a3), (.ref c2), (.ref a0)]) (fun t k => X0.iaload hx (j := (2 : Int32)) (v := (.int 2)) (by rw [e0]; exact Ar3.1) (State.isArrayOf_alike hZ.alike Ar3.2.1) Ar3.2.2 hin3 (H3.at hin3 rfl) (g := (mkF m 73 #[rv a0, iv p1, rv a2, rv a3, rv a4, iv p5] [(.int 2), (.ref a4), (.ref a3), (.ref c2), (.ref a0)])) rfl rfl (hb hby d9_73) t k) ?_
    obtain ⟨k4, ⟨cl4, Ar4, q4, S4, N4, H4, G4⟩, -⟩ := id Hn
    have hin4 : ¬ ((2 : Int32) < 0 ∨ cl4.slots.size ≤ ((2 : Int32)).toNatClampNeg) := inb_of S4 ⟨by decide, by decide⟩
    refine op T0 (mkF m 75 #[rv a0, iv p1, rv a2, rv a3, rv a4, iv p5] [(.ref d2), (.ref c2), (.ref a0)]) (fun t k => X0.aaload hx (j := (2 : Int32)) (v := (.ref d2)) (by rw [e0]; exact Ar4.1) (State.isArrayOf_alike hZ.alike Ar4.2.1) rfl Ar4.2.2 hin4 (H4.at hin4 rfl) (g := (mkF m 74 #[rv a0, iv p1, rv a2, rv a3, rv a4, iv p5] [(.int 2), (.ref a3), (.ref c2), (.ref a0)])) rfl rfl (hb hby d9_74) t k) ?_
    refine op T0 (mkF m 80 #[rv a0, iv p1, rv a2, rv a3, rv a4, iv p5] [(.int 2), (.ref a4), (.int p5), (.ref d2), (.ref c2), (.ref a0)]) (fun _ k => XS.iload X0.here hx rfl (hb hby d9_75) rfl (XS.aload X0.here hx rfl (hb hby d9_77) rfl rfl (XS.iconst X0.here hx rfl (hb hby d9_79) k))) ?_
    obtain ⟨k5, cl5, Ar5, q5, S5, N5, H5, G5⟩ := id Hy
    have hin5 : ¬ ((2 : Int32) < 0 ∨ cl5.slots.size ≤ ((2 : Int32)).toNatClampNeg) := inb_of S5 ⟨by decide, by decide⟩
    refine op T0 (mkF m 81 #[rv a0, iv p1, rv a2, rv a3, rv a4, iv p5] [(.int 2), (.int p5), (.ref d2), (.ref c2), (.ref a0)]) (fun t k => X0.iaload hx (j := (2 : Int32)) (v := (.int 2)) (by rw [e0]; exact Ar5.1) (State.isArrayOf_alike hZ.alike Ar5.2.1) Ar5.2.2 hin5 (H5.at hin5 rfl) (g := (mkF m 80 #[rv a0, iv p1, rv a2, rv a3, rv a4, iv p5] [(.int 2), (.ref a4), (.int p5), (.ref d2), (.ref c2), (.ref a0)])) rfl rfl (hb hby d9_80) t k) ?_
    refine op T0 (mkF m 83 #[rv a0, iv p1, rv a2, rv a3, rv a4, iv p5] [(.int 3), (.int p5), (.ref d2), (.ref c2), (.ref a0)]) (fun _ k => XS.iconst X0.here hx rfl (hb hby d9_81) (XS.iadd X0.here hx rfl (hb hby d9_82) rfl k)) ?_
    have ex6 := own_V.exa W_a0
    obtain ⟨cq6, kq6, qa6, qb6, qc6⟩ := isOf hZ e0 ex6
    obtain ⟨_, _, ⟨T6, L6, k6, n6⟩, -, X6', ⟨Lc6, hQ6, l6, y6, z6⟩, st'⟩ := X0.virtualBack hx (y := y13) (z := y13) hown (mvT hZ (ow hw 70 rfl)) (mvT hZ (ow hw 71 rfl)) (notFace_of_selects (args := #[]) (mvT hZ (ow hw 73 rfl))) (mvT hZ (ow hw 73 rfl)) (mvT hZ (ow hw 72 rfl)) (by decide) (backOf (W := 0) (rmvad l Z aw hw [] p5 (3 : Int32) s_a0_0 wl s2 (0 : Int32) s2 (0 : Int32) e2_ (0 : Int32) e2_ (0 : Int32) a0 c2 d2 h n0 SZ0 W_a0 Mh Mk Jj Jn _ IB (by omega) G0) hZ (ow hw 74 rfl) (ow hw 20 rfl) (by decide) (by decide)) qa6 qc6 (g := (mkF m 83 #[rv a0, iv p1, rv a2, rv a3, rv a4, iv p5] [(.int 3), (.int p5), (.ref d2), (.ref c2), (.ref a0)])) rfl (by rw [hml]; rfl) (Steps.refl _) (argsL := [(.ref c2), (.ref d2), (.int p5), (.int 3)]) (rest := []) (lenOf own_pd10 rfl) rfl (by show 2 * 0 + _ ≤ _; exact Nat.le_of_eq rfl) (hb hby d9_83) (fun _ _ => ⟨rfl, e0, (by decide : 0 + 0 ≤ _), (by decide : 0 + 0 ≤ _)⟩)
    dsimp only [Pt.U, Pt.locs, Pt.cells, Pt.slots] at X6' l6 y6 z6 st' hQ6
    subst l6 y6 z6
    obtain ⟨rfl, NFq6, KPq6, p6_0⟩ := hQ6
    have X6 : Stand p l e Qfe1 s m #[(.ref a0), (.int p1), (.ref a2), (.ref a3), (.ref a4), (.int p5)] below meth c T6 _ 0 0 := X6'
    have NF6 := Fr.app NF0 NFq6
    have SZ6 : n0 ≤ T6.heap.size := Nat.le_trans SZ0 KPq6.size
    have KP6 : own_Low a0 h0 T6.heap := own_Low.trans KP0 KPq6
    have f7 := Hi.low KPq6 Jx
    have f8 := Hn.low KPq6 Jy
    have f9 := Hy.low KPq6 Jz
    have f10 := Mf.low KPq6 Jh
    have f11 := Mg.low KPq6 Ji
    have f12 := Mh.low KPq6 Jj
    have f13 := Mi.low KPq6 Jk
    have f14 := Mj.low KPq6 Jm
    have f15 := Mk.low KPq6 Jn
    refine op T6 (mkF m 86 #[rv a0, iv p1, rv a2, rv a3, rv a4, iv p5] []) (fun _ k => st'.trans k) ?_
    exact gfe1_86 hw p1 p5 S wl s0 s1 s2 e0_ e1_ e2_ a0 a2 a3 a4 c0 c1 c2 d0 d1 d2 Jx Jy Jz Jh Ji Jj Jk Jm Jn k IB0 hk (sad p5 (3 : Int32) s_a0_0 s2 (0 : Int32) s2 (0 : Int32) e2_ (0 : Int32) e2_ (0 : Int32)) Bd hml hZ G0 T6 X6 (rfl : T6.heap = T6.heap) SZ6 NF6 KP6 f7 f8 f9 f10 f11 f12 f13 f14 f15 p6_0
  · skip
    refine op T0 (mkF m 86 #[rv a0, iv p1, rv a2, rv a3, rv a4, iv p5] []) (fun _ k => XS.icmpYes X0.here hx rfl (pc0 := 59) (pc' := 86) rfl (hb hby d9_59) rfl (flt hc59).2.2.2 (by decide) (by decide) k) ?_
    exact gfe1_86 hw p1 p5 S wl s0 s1 s2 e0_ e1_ e2_ a0 a2 a3 a4 c0 c1 c2 d0 d1 d2 Jx Jy Jz Jh Ji Jj Jk Jm Jn k IB0 hk s_a0_0 Bd hml hZ G0 T0 X0 e0 SZ0 NF0 KP0 Hi Hn Hy Mf Mg Mh Mi Mj Mk W_a0
def ffe1_28 (p1 p5 : Int32) (S : St) (wl s0 s1 s2 e0_ e1_ e2_ : Int32) (s_a0_0 : St) : St := (if (1 : Int32) < p1 then (ffe1_57 p1 p5 S wl s0 s1 s2 e0_ e1_ e2_ (sad p5 (1 : Int32) s_a0_0 s0 (0 : Int32) s0 (0 : Int32) e0_ (0 : Int32) e0_ (0 : Int32))) else (ffe1_57 p1 p5 S wl s0 s1 s2 e0_ e1_ e2_ s_a0_0))
set_option maxRecDepth 65536 in
set_option maxHeartbeats 40000000 in
theorem gfe1_28 (hw : HW aw Z) {h0 : Heap} {n0 : Nat} (p1 p5 : Int32) (S : St) (wl s0 s1 s2 e0_ e1_ e2_ : Int32) (a0 a2 a3 a4 c0 c1 c2 d0 d1 d2 : Addr) (Jx : a2 < a0) (Jy : a3 < a0) (Jz : a4 < a0) (Jh : c0 < a0) (Ji : c1 < a0) (Jj : c2 < a0) (Jk : d0 < a0) (Jm : d1 < a0) (Jn : d2 < a0) (k : Int) (IB0 : own_BS k wl S) (hk : k ≤ 17) (s_a0_0 : St) (IB : own_BS (k + 1) wl s_a0_0)
    (Bd : BodyLoose p l y17 (head1 (Jvm.Cond.code y17 Gs 6 none :: ws) Qfe1) Gs 6 none e s m #[(.ref a0), (.int p1), (.ref a2), (.ref a3), (.ref a4), (.int p5)] below meth c s₁) (hml : c.maxLocals = 6) (hZ : Z.Warmed39 s.vm) (G0 : n0 ≤ a0) (T0 : State) {locs : List Loc} (X0 : Stand p l e Qfe1 s m #[(.ref a0), (.int p1), (.ref a2), (.ref a3), (.ref a4), (.int p5)] below meth c T0 locs 0 0) {h : Heap} (e0 : T0.heap = h) (SZ0 : n0 ≤ h.size) (NF0 : Fr n0 locs) (KP0 : own_Low a0 h0 h) (Hi : own_Rv Z h a2 (3 : Int32) [.ref c0, .ref c1, .ref c2]) (Hn : own_Rv Z h a3 (3 : Int32) [.ref d0, .ref d1, .ref d2]) (Hy : own_Iv Z h a4 (3 : Int32) [(1 : Int32), (0 : Int32), (2 : Int32)]) (Mf : own_G Z h c0 wl s0 (0 : Int32) s0 (0 : Int32)) (Mg : own_G Z h c1 wl s1 (0 : Int32) s1 (0 : Int32)) (Mh : own_G Z h c2 wl s2 (0 : Int32) s2 (0 : Int32)) (Mi : own_G Z h d0 wl e0_ (0 : Int32) e0_ (0 : Int32)) (Mj : own_G Z h d1 wl e1_ (0 : Int32) e1_ (0 : Int32)) (Mk : own_G Z h d2 wl e2_ (0 : Int32) e2_ (0 : Int32)) (W_a0 : own_V Z h n0 a0 s_a0_0) :
    own_Go p e below s Qfe1.cells Qfe1.slots (Rfe1 (ffe1_28 p1 p5 S wl s0 s1 s2 e0_ e1_ e2_ s_a0_0)) (Kfe1 Z p1 p5 S wl s0 s1 s2 e0_ e1_ e2_ a0 a2 a3 a4 c0 c1 c2 d0 d1 d2 h0 n0 (ffe1_28 p1 p5 S wl s0 s1 s2 e0_ e1_ e2_ s_a0_0)) (T0.setTop (mkF m 28 #[rv a0, iv p1, rv a2, rv a3, rv a4, iv p5] [])) := by
  have hx := Bd.exec
  have hby := Bd.bytes
  have hown : s.vm.findClass cL = some m.cls := findClass_of_methodNamed Bd.named
  have hnm := (name_of_methodNamed Bd.named Bd.method).1
  unfold ffe1_28
  refine op T0 (mkF m 30 #[rv a0, iv p1, rv a2, rv a3, rv a4, iv p5] [(.int 1), (.int p1)]) (fun _ k => XS.iloadN X0.here hx rfl (hb hby d9_28) rfl (XS.iconst X0.here hx rfl (hb hby d9_29) k)) ?_
  refine own_iteT Rfe1 (Kfe1 Z p1 p5 S wl s0 s1 s2 e0_ e1_ e2_ a0 a2 a3 a4 c0 c1 c2 d0 d1 d2 h0 n0) (fun hc30 => ?_) (fun hc30 => ?_)
  · skip
    refine op T0 (mkF m 38 #[rv a0, iv p1, rv a2, rv a3, rv a4, iv p5] [(.int 1), (.ref a4), (.ref a2), (.ref a0)]) (fun _ k => XS.icmpNo X0.here hx rfl (hb hby d9_30) rfl (tlt hc30).2.2.2 (XS.aloadN X0.here hx rfl (hb hby d9_33) rfl rfl (XS.aloadN X0.here hx rfl (hb hby d9_34) rfl rfl (XS.aload X0.here hx rfl (hb hby d9_35) rfl rfl (XS.iconst X0.here hx rfl (hb hby d9_37) k))))) ?_
    obtain ⟨k1, cl1, Ar1, q1, S1, N1, H1, G1⟩ := id Hy
    have hin1 : ¬ ((1 : Int32) < 0 ∨ cl1.slots.size ≤ ((1 : Int32)).toNatClampNeg) := inb_of S1 ⟨by decide, by decide⟩
    refine op T0 (mkF m 39 #[rv a0, iv p1, rv a2, rv a3, rv a4, iv p5] [(.int 0), (.ref a2), (.ref a0)]) (fun t k => X0.iaload hx (j := (1 : Int32)) (v := (.int 0)) (by rw [e0]; exact Ar1.1) (State.isArrayOf_alike hZ.alike Ar1.2.1) Ar1.2.2 hin1 (H1.at hin1 rfl) (g := (mkF m 38 #[rv a0, iv p1, rv a2, rv a3, rv a4, iv p5] [(.int 1), (.ref a4), (.ref a2), (.ref a0)])) rfl rfl (hb hby d9_38) t k) ?_
    obtain ⟨k2, ⟨cl2, Ar2, q2, S2, N2, H2, G2⟩, -⟩ := id Hi
    have hin2 : ¬ ((0 : Int32) < 0 ∨ cl2.slots.size ≤ ((0 : Int32)).toNatClampNeg) := inb_of S2 ⟨by decide, by decide⟩
    refine op T0 (mkF m 40 #[rv a0, iv p1, rv a2, rv a3, rv a4, iv p5] [(.ref c0), (.ref a0)]) (fun t k => X0.aaload hx (j := (0 : Int32)) (v := (.ref c0)) (by rw [e0]; exact Ar2.1) (State.isArrayOf_alike hZ.alike Ar2.2.1) rfl Ar2.2.2 hin2 (H2.at hin2 rfl) (g := (mkF m 39 #[rv a0, iv p1, rv a2, rv a3, rv a4, iv p5] [(.int 0), (.ref a2), (.ref a0)])) rfl rfl (hb hby d9_39) t k) ?_
    refine op T0 (mkF m 44 #[rv a0, iv p1, rv a2, rv a3, rv a4, iv p5] [(.int 1), (.ref a4), (.ref a3), (.ref c0), (.ref a0)]) (fun _ k => XS.aloadN X0.here hx rfl (hb hby d9_40) rfl rfl (XS.aload X0.here hx rfl (hb hby d9_41) rfl rfl (XS.iconst X0.here hx rfl (hb hby d9_43) k))) ?_
    obtain ⟨k3, cl3, Ar3, q3, S3, N3, H3, G3⟩ := id Hy
    have hin3 : ¬ ((1 : Int32) < 0 ∨ cl3.slots.size ≤ ((1 : Int32)).toNatClampNeg) := inb_of S3 ⟨by decide, by decide⟩
    refine op T0 (mkF m 45 #[rv a0, iv p1, rv a2, rv a3, rv a4, iv p5] [(.int 0), (.ref a3), (.ref c0), (.ref a0)]) (fun t k => X0.iaload hx (j := (1 : Int32)) (v := (.int 0)) (by rw [e0]; exact Ar3.1) (State.isArrayOf_alike hZ.alike Ar3.2.1) Ar3.2.2 hin3 (H3.at hin3 rfl) (g := (mkF m 44 #[rv a0, iv p1, rv a2, rv a3, rv a4, iv p5] [(.int 1), (.ref a4), (.ref a3), (.ref c0), (.ref a0)])) rfl rfl (hb hby d9_44) t k) ?_
    obtain ⟨k4, ⟨cl4, Ar4, q4, S4, N4, H4, G4⟩, -⟩ := id Hn
    have hin4 : ¬ ((0 : Int32) < 0 ∨ cl4.slots.size ≤ ((0 : Int32)).toNatClampNeg) := inb_of S4 ⟨by decide, by decide⟩
    refine op T0 (mkF m 46 #[rv a0, iv p1, rv a2, rv a3, rv a4, iv p5] [(.ref d0), (.ref c0), (.ref a0)]) (fun t k => X0.aaload hx (j := (0 : Int32)) (v := (.ref d0)) (by rw [e0]; exact Ar4.1) (State.isArrayOf_alike hZ.alike Ar4.2.1) rfl Ar4.2.2 hin4 (H4.at hin4 rfl) (g := (mkF m 45 #[rv a0, iv p1, rv a2, rv a3, rv a4, iv p5] [(.int 0), (.ref a3), (.ref c0), (.ref a0)])) rfl rfl (hb hby d9_45) t k) ?_
    refine op T0 (mkF m 51 #[rv a0, iv p1, rv a2, rv a3, rv a4, iv p5] [(.int 1), (.ref a4), (.int p5), (.ref d0), (.ref c0), (.ref a0)]) (fun _ k => XS.iload X0.here hx rfl (hb hby d9_46) rfl (XS.aload X0.here hx rfl (hb hby d9_48) rfl rfl (XS.iconst X0.here hx rfl (hb hby d9_50) k))) ?_
    obtain ⟨k5, cl5, Ar5, q5, S5, N5, H5, G5⟩ := id Hy
    have hin5 : ¬ ((1 : Int32) < 0 ∨ cl5.slots.size ≤ ((1 : Int32)).toNatClampNeg) := inb_of S5 ⟨by decide, by decide⟩
    refine op T0 (mkF m 52 #[rv a0, iv p1, rv a2, rv a3, rv a4, iv p5] [(.int 0), (.int p5), (.ref d0), (.ref c0), (.ref a0)]) (fun t k => X0.iaload hx (j := (1 : Int32)) (v := (.int 0)) (by rw [e0]; exact Ar5.1) (State.isArrayOf_alike hZ.alike Ar5.2.1) Ar5.2.2 hin5 (H5.at hin5 rfl) (g := (mkF m 51 #[rv a0, iv p1, rv a2, rv a3, rv a4, iv p5] [(.int 1), (.ref a4), (.int p5), (.ref d0), (.ref c0), (.ref a0)])) rfl rfl (hb hby d9_51) t k) ?_
    refine op T0 (mkF m 54 #[rv a0, iv p1, rv a2, rv a3, rv a4, iv p5] [(.int 1), (.int p5), (.ref d0), (.ref c0), (.ref a0)]) (fun _ k => XS.iconst X0.here hx rfl (hb hby d9_52) (XS.iadd X0.here hx rfl (hb hby d9_53) rfl k)) ?_
    have ex6 := own_V.exa W_a0
    obtain ⟨cq6, kq6, qa6, qb6, qc6⟩ := isOf hZ e0 ex6
    obtain ⟨_, _, ⟨T6, L6, k6, n6⟩, -, X6', ⟨Lc6, hQ6, l6, y6, z6⟩, st'⟩ := X0.virtualBack hx (y := y13) (z := y13) hown (mvT hZ (ow hw 70 rfl)) (mvT hZ (ow hw 71 rfl)) (notFace_of_selects (args := #[]) (mvT hZ (ow hw 73 rfl))) (mvT hZ (ow hw 73 rfl)) (mvT hZ (ow hw 72 rfl)) (by decide) (backOf (W := 0) (rmvad l Z aw hw [] p5 (1 : Int32) s_a0_0 wl s0 (0 : Int32) s0 (0 : Int32) e0_ (0 : Int32) e0_ (0 : Int32) a0 c0 d0 h n0 SZ0 W_a0 Mf Mi Jh Jk _ IB (by omega) G0) hZ (ow hw 74 rfl) (ow hw 20 rfl) (by decide) (by decide)) qa6 qc6 (g := (mkF m 54 #[rv a0, iv p1, rv a2, rv a3, rv a4, iv p5] [(.int 1), (.int p5), (.ref d0), (.ref c0), (.ref a0)])) rfl (by rw [hml]; rfl) (Steps.refl _) (argsL := [(.ref c0), (.ref d0), (.int p5), (.int 1)]) (rest := []) (lenOf own_pd10 rfl) rfl (by show 2 * 0 + _ ≤ _; exact Nat.le_of_eq rfl) (hb hby d9_54) (fun _ _ => ⟨rfl, e0, (by decide : 0 + 0 ≤ _), (by decide : 0 + 0 ≤ _)⟩)
    dsimp only [Pt.U, Pt.locs, Pt.cells, Pt.slots] at X6' l6 y6 z6 st' hQ6
    subst l6 y6 z6
    obtain ⟨rfl, NFq6, KPq6, p6_0⟩ := hQ6
    have X6 : Stand p l e Qfe1 s m #[(.ref a0), (.int p1), (.ref a2), (.ref a3), (.ref a4), (.int p5)] below meth c T6 _ 0 0 := X6'
    have NF6 := Fr.app NF0 NFq6
    have SZ6 : n0 ≤ T6.heap.size := Nat.le_trans SZ0 KPq6.size
    have KP6 : own_Low a0 h0 T6.heap := own_Low.trans KP0 KPq6
    have f7 := Hi.low KPq6 Jx
    have f8 := Hn.low KPq6 Jy
    have f9 := Hy.low KPq6 Jz
    have f10 := Mf.low KPq6 Jh
    have f11 := Mg.low KPq6 Ji
    have f12 := Mh.low KPq6 Jj
    have f13 := Mi.low KPq6 Jk
    have f14 := Mj.low KPq6 Jm
    have f15 := Mk.low KPq6 Jn
    refine op T6 (mkF m 57 #[rv a0, iv p1, rv a2, rv a3, rv a4, iv p5] []) (fun _ k => st'.trans k) ?_
    exact gfe1_57 hw p1 p5 S wl s0 s1 s2 e0_ e1_ e2_ a0 a2 a3 a4 c0 c1 c2 d0 d1 d2 Jx Jy Jz Jh Ji Jj Jk Jm Jn k IB0 hk (sad p5 (1 : Int32) s_a0_0 s0 (0 : Int32) s0 (0 : Int32) e0_ (0 : Int32) e0_ (0 : Int32)) (by first | exact own_BS.mono IB | exact own_Sad IB (by omega) | exact own_BS.mono IB0 | exact own_Sad IB0 (by omega)) Bd hml hZ G0 T6 X6 (rfl : T6.heap = T6.heap) SZ6 NF6 KP6 f7 f8 f9 f10 f11 f12 f13 f14 f15 p6_0
  · skip
    refine op T0 (mkF m 57 #[rv a0, iv p1, rv a2, rv a3, rv a4, iv p5] []) (fun _ k => XS.icmpYes X0.here hx rfl (pc0 := 30) (pc' := 57) rfl (hb hby d9_30) rfl (flt hc30).2.2.2 (by decide) (by decide) k) ?_
    exact gfe1_57 hw p1 p5 S wl s0 s1 s2 e0_ e1_ e2_ a0 a2 a3 a4 c0 c1 c2 d0 d1 d2 Jx Jy Jz Jh Ji Jj Jk Jm Jn k IB0 hk s_a0_0 (by first | exact own_BS.mono IB | exact own_Sad IB (by omega) | exact own_BS.mono IB0 | exact own_Sad IB0 (by omega)) Bd hml hZ G0 T0 X0 e0 SZ0 NF0 KP0 Hi Hn Hy Mf Mg Mh Mi Mj Mk W_a0
def ffe1_0 (p1 p5 : Int32) (S : St) (wl s0 s1 s2 e0_ e1_ e2_ : Int32) : St := (if (0 : Int32) < p1 then (ffe1_28 p1 p5 S wl s0 s1 s2 e0_ e1_ e2_ (sad p5 (2 : Int32) S s1 (0 : Int32) s1 (0 : Int32) e1_ (0 : Int32) e1_ (0 : Int32))) else (ffe1_28 p1 p5 S wl s0 s1 s2 e0_ e1_ e2_ S))
set_option maxRecDepth 65536 in
set_option maxHeartbeats 40000000 in
theorem gfe1_0 (hw : HW aw Z) {h0 : Heap} {n0 : Nat} (p1 p5 : Int32) (S : St) (wl s0 s1 s2 e0_ e1_ e2_ : Int32) (a0 a2 a3 a4 c0 c1 c2 d0 d1 d2 : Addr) (Jx : a2 < a0) (Jy : a3 < a0) (Jz : a4 < a0) (Jh : c0 < a0) (Ji : c1 < a0) (Jj : c2 < a0) (Jk : d0 < a0) (Jm : d1 < a0) (Jn : d2 < a0) (k : Int) (IB0 : own_BS k wl S) (hk : k ≤ 17)
    (Bd : BodyLoose p l y17 (head1 (Jvm.Cond.code y17 Gs 6 none :: ws) Qfe1) Gs 6 none e s m #[(.ref a0), (.int p1), (.ref a2), (.ref a3), (.ref a4), (.int p5)] below meth c s₁) (hml : c.maxLocals = 6) (hZ : Z.Warmed39 s.vm) (G0 : n0 ≤ a0) (T0 : State) {locs : List Loc} (X0 : Stand p l e Qfe1 s m #[(.ref a0), (.int p1), (.ref a2), (.ref a3), (.ref a4), (.int p5)] below meth c T0 locs 0 0) (e0 : T0.heap = h0) (SZ0 : n0 ≤ h0.size) (NF0 : Fr n0 locs) (KP0 : own_Low a0 h0 h0) (W_a0 : own_V Z h0 n0 a0 S) (Hi : own_Rv Z h0 a2 (3 : Int32) [.ref c0, .ref c1, .ref c2]) (Hn : own_Rv Z h0 a3 (3 : Int32) [.ref d0, .ref d1, .ref d2]) (Hy : own_Iv Z h0 a4 (3 : Int32) [(1 : Int32), (0 : Int32), (2 : Int32)]) (Mf : own_G Z h0 c0 wl s0 (0 : Int32) s0 (0 : Int32)) (Mg : own_G Z h0 c1 wl s1 (0 : Int32) s1 (0 : Int32)) (Mh : own_G Z h0 c2 wl s2 (0 : Int32) s2 (0 : Int32)) (Mi : own_G Z h0 d0 wl e0_ (0 : Int32) e0_ (0 : Int32)) (Mj : own_G Z h0 d1 wl e1_ (0 : Int32) e1_ (0 : Int32)) (Mk : own_G Z h0 d2 wl e2_ (0 : Int32) e2_ (0 : Int32)) :
    own_Go p e below s Qfe1.cells Qfe1.slots (Rfe1 (ffe1_0 p1 p5 S wl s0 s1 s2 e0_ e1_ e2_)) (Kfe1 Z p1 p5 S wl s0 s1 s2 e0_ e1_ e2_ a0 a2 a3 a4 c0 c1 c2 d0 d1 d2 h0 n0 (ffe1_0 p1 p5 S wl s0 s1 s2 e0_ e1_ e2_)) (T0.setTop (mkF m 0 #[rv a0, iv p1, rv a2, rv a3, rv a4, iv p5] [])) := by
  have hx := Bd.exec
  have hby := Bd.bytes
  have hown : s.vm.findClass cL = some m.cls := findClass_of_methodNamed Bd.named
  have hnm := (name_of_methodNamed Bd.named Bd.method).1
  unfold ffe1_0
  refine op T0 (mkF m 1 #[rv a0, iv p1, rv a2, rv a3, rv a4, iv p5] [(.int p1)]) (fun _ k => XS.iloadN X0.here hx rfl (hb hby d9_0) rfl k) ?_
  refine own_iteT Rfe1 (Kfe1 Z p1 p5 S wl s0 s1 s2 e0_ e1_ e2_ a0 a2 a3 a4 c0 c1 c2 d0 d1 d2 h0 n0) (fun hc1 => ?_) (fun hc1 => ?_)
  · skip
    refine op T0 (mkF m 9 #[rv a0, iv p1, rv a2, rv a3, rv a4, iv p5] [(.int 0), (.ref a4), (.ref a2), (.ref a0)]) (fun _ k => XS.ifNo X0.here hx rfl (hb hby d9_1) rfl ((if0 _ _).trans (tlt hc1).2.2.2) (XS.aloadN X0.here hx rfl (hb hby d9_4) rfl rfl (XS.aloadN X0.here hx rfl (hb hby d9_5) rfl rfl (XS.aload X0.here hx rfl (hb hby d9_6) rfl rfl (XS.iconst X0.here hx rfl (hb hby d9_8) k))))) ?_
    obtain ⟨k1, cl1, Ar1, q1, S1, N1, H1, G1⟩ := id Hy
    have hin1 : ¬ ((0 : Int32) < 0 ∨ cl1.slots.size ≤ ((0 : Int32)).toNatClampNeg) := inb_of S1 ⟨by decide, by decide⟩
    refine op T0 (mkF m 10 #[rv a0, iv p1, rv a2, rv a3, rv a4, iv p5] [(.int 1), (.ref a2), (.ref a0)]) (fun t k => X0.iaload hx (j := (0 : Int32)) (v := (.int 1)) (by rw [e0]; exact Ar1.1) (State.isArrayOf_alike hZ.alike Ar1.2.1) Ar1.2.2 hin1 (H1.at hin1 rfl) (g := (mkF m 9 #[rv a0, iv p1, rv a2, rv a3, rv a4, iv p5] [(.int 0), (.ref a4), (.ref a2), (.ref a0)])) rfl rfl (hb hby d9_9) t k) ?_
    obtain ⟨k2, ⟨cl2, Ar2, q2, S2, N2, H2, G2⟩, -⟩ := id Hi
    have hin2 : ¬ ((1 : Int32) < 0 ∨ cl2.slots.size ≤ ((1 : Int32)).toNatClampNeg) := inb_of S2 ⟨by decide, by decide⟩
    refine op T0 (mkF m 11 #[rv a0, iv p1, rv a2, rv a3, rv a4, iv p5] [(.ref c1), (.ref a0)]) (fun t k => X0.aaload hx (j := (1 : Int32)) (v := (.ref c1)) (by rw [e0]; exact Ar2.1) (State.isArrayOf_alike hZ.alike Ar2.2.1) rfl Ar2.2.2 hin2 (H2.at hin2 rfl) (g := (mkF m 10 #[rv a0, iv p1, rv a2, rv a3, rv a4, iv p5] [(.int 1), (.ref a2), (.ref a0)])) rfl rfl (hb hby d9_10) t k) ?_
    refine op T0 (mkF m 15 #[rv a0, iv p1, rv a2, rv a3, rv a4, iv p5] [(.int 0), (.ref a4), (.ref a3), (.ref c1), (.ref a0)]) (fun _ k => XS.aloadN X0.here hx rfl (hb hby d9_11) rfl rfl (XS.aload X0.here hx rfl (hb hby d9_12) rfl rfl (XS.iconst X0.here hx rfl (hb hby d9_14) k))) ?_
    obtain ⟨k3, cl3, Ar3, q3, S3, N3, H3, G3⟩ := id Hy
    have hin3 : ¬ ((0 : Int32) < 0 ∨ cl3.slots.size ≤ ((0 : Int32)).toNatClampNeg) := inb_of S3 ⟨by decide, by decide⟩
    refine op T0 (mkF m 16 #[rv a0, iv p1, rv a2, rv a3, rv a4, iv p5] [(.int 1), (.ref a3), (.ref c1), (.ref a0)]) (fun t k => X0.iaload hx (j := (0 : Int32)) (v := (.int 1)) (by rw [e0]; exact Ar3.1) (State.isArrayOf_alike hZ.alike Ar3.2.1) Ar3.2.2 hin3 (H3.at hin3 rfl) (g := (mkF m 15 #[rv a0, iv p1, rv a2, rv a3, rv a4, iv p5] [(.int 0), (.ref a4), (.ref a3), (.ref c1), (.ref a0)])) rfl rfl (hb hby d9_15) t k) ?_
    obtain ⟨k4, ⟨cl4, Ar4, q4, S4, N4, H4, G4⟩, -⟩ := id Hn
    have hin4 : ¬ ((1 : Int32) < 0 ∨ cl4.slots.size ≤ ((1 : Int32)).toNatClampNeg) := inb_of S4 ⟨by decide, by decide⟩
    refine op T0 (mkF m 17 #[rv a0, iv p1, rv a2, rv a3, rv a4, iv p5] [(.ref d1), (.ref c1), (.ref a0)]) (fun t k => X0.aaload hx (j := (1 : Int32)) (v := (.ref d1)) (by rw [e0]; exact Ar4.1) (State.isArrayOf_alike hZ.alike Ar4.2.1) rfl Ar4.2.2 hin4 (H4.at hin4 rfl) (g := (mkF m 16 #[rv a0, iv p1, rv a2, rv a3, rv a4, iv p5] [(.int 1), (.ref a3), (.ref c1), (.ref a0)])) rfl rfl (hb hby d9_16) t k) ?_
    refine op T0 (mkF m 22 #[rv a0, iv p1, rv a2, rv a3, rv a4, iv p5] [(.int 0), (.ref a4), (.int p5), (.ref d1), (.ref c1), (.ref a0)]) (fun _ k => XS.iload X0.here hx rfl (hb hby d9_17) rfl (XS.aload X0.here hx rfl (hb hby d9_19) rfl rfl (XS.iconst X0.here hx rfl (hb hby d9_21) k))) ?_
    obtain ⟨k5, cl5, Ar5, q5, S5, N5, H5, G5⟩ := id Hy
    have hin5 : ¬ ((0 : Int32) < 0 ∨ cl5.slots.size ≤ ((0 : Int32)).toNatClampNeg) := inb_of S5 ⟨by decide, by decide⟩
    refine op T0 (mkF m 23 #[rv a0, iv p1, rv a2, rv a3, rv a4, iv p5] [(.int 1), (.int p5), (.ref d1), (.ref c1), (.ref a0)]) (fun t k => X0.iaload hx (j := (0 : Int32)) (v := (.int 1)) (by rw [e0]; exact Ar5.1) (State.isArrayOf_alike hZ.alike Ar5.2.1) Ar5.2.2 hin5 (H5.at hin5 rfl) (g := (mkF m 22 #[rv a0, iv p1, rv a2, rv a3, rv a4, iv p5] [(.int 0), (.ref a4), (.int p5), (.ref d1), (.ref c1), (.ref a0)])) rfl rfl (hb hby d9_22) t k) ?_
    refine op T0 (mkF m 25 #[rv a0, iv p1, rv a2, rv a3, rv a4, iv p5] [(.int 2), (.int p5), (.ref d1), (.ref c1), (.ref a0)]) (fun _ k => XS.iconst X0.here hx rfl (hb hby d9_23) (XS.iadd X0.here hx rfl (hb hby d9_24) rfl k)) ?_
    have ex6 := own_V.exa W_a0
    obtain ⟨cq6, kq6, qa6, qb6, qc6⟩ := isOf hZ e0 ex6
    obtain ⟨_, _, ⟨T6, L6, k6, n6⟩, -, X6', ⟨Lc6, hQ6, l6, y6, z6⟩, st'⟩ := X0.virtualBack hx (y := y13) (z := y13) hown (mvT hZ (ow hw 70 rfl)) (mvT hZ (ow hw 71 rfl)) (notFace_of_selects (args := #[]) (mvT hZ (ow hw 73 rfl))) (mvT hZ (ow hw 73 rfl)) (mvT hZ (ow hw 72 rfl)) (by decide) (backOf (W := 0) (rmvad l Z aw hw [] p5 (2 : Int32) S wl s1 (0 : Int32) s1 (0 : Int32) e1_ (0 : Int32) e1_ (0 : Int32) a0 c1 d1 h0 n0 SZ0 W_a0 Mg Mj Ji Jm _ IB0 (by omega) G0) hZ (ow hw 74 rfl) (ow hw 20 rfl) (by decide) (by decide)) qa6 qc6 (g := (mkF m 25 #[rv a0, iv p1, rv a2, rv a3, rv a4, iv p5] [(.int 2), (.int p5), (.ref d1), (.ref c1), (.ref a0)])) rfl (by rw [hml]; rfl) (Steps.refl _) (argsL := [(.ref c1), (.ref d1), (.int p5), (.int 2)]) (rest := []) (lenOf own_pd10 rfl) rfl (by show 2 * 0 + _ ≤ _; exact Nat.le_of_eq rfl) (hb hby d9_25) (fun _ _ => ⟨rfl, e0, (by decide : 0 + 0 ≤ _), (by decide : 0 + 0 ≤ _)⟩)
    dsimp only [Pt.U, Pt.locs, Pt.cells, Pt.slots] at X6' l6 y6 z6 st' hQ6
    subst l6 y6 z6
    obtain ⟨rfl, NFq6, KPq6, p6_0⟩ := hQ6
    have X6 : Stand p l e Qfe1 s m #[(.ref a0), (.int p1), (.ref a2), (.ref a3), (.ref a4), (.int p5)] below meth c T6 _ 0 0 := X6'
    have NF6 := Fr.app NF0 NFq6
    have SZ6 : n0 ≤ T6.heap.size := Nat.le_trans SZ0 KPq6.size
    have KP6 : own_Low a0 h0 T6.heap := own_Low.trans KP0 KPq6
    have f7 := Hi.low KPq6 Jx
    have f8 := Hn.low KPq6 Jy
    have f9 := Hy.low KPq6 Jz
    have f10 := Mf.low KPq6 Jh
    have f11 := Mg.low KPq6 Ji
    have f12 := Mh.low KPq6 Jj
    have f13 := Mi.low KPq6 Jk
    have f14 := Mj.low KPq6 Jm
    have f15 := Mk.low KPq6 Jn
    refine op T6 (mkF m 28 #[rv a0, iv p1, rv a2, rv a3, rv a4, iv p5] []) (fun _ k => st'.trans k) ?_
    exact gfe1_28 hw p1 p5 S wl s0 s1 s2 e0_ e1_ e2_ a0 a2 a3 a4 c0 c1 c2 d0 d1 d2 Jx Jy Jz Jh Ji Jj Jk Jm Jn k IB0 hk (sad p5 (2 : Int32) S s1 (0 : Int32) s1 (0 : Int32) e1_ (0 : Int32) e1_ (0 : Int32)) (by first | exact own_BS.mono IB | exact own_Sad IB (by omega) | exact own_BS.mono IB0 | exact own_Sad IB0 (by omega)) Bd hml hZ G0 T6 X6 (rfl : T6.heap = T6.heap) SZ6 NF6 KP6 f7 f8 f9 f10 f11 f12 f13 f14 f15 p6_0
  · skip
    refine op T0 (mkF m 28 #[rv a0, iv p1, rv a2, rv a3, rv a4, iv p5] []) (fun _ k => XS.ifYes X0.here hx rfl (pc0 := 1) (pc' := 28) rfl (hb hby d9_1) rfl ((if0 _ _).trans (flt hc1).2.2.2) (by decide) (by decide) k) ?_
    exact gfe1_28 hw p1 p5 S wl s0 s1 s2 e0_ e1_ e2_ a0 a2 a3 a4 c0 c1 c2 d0 d1 d2 Jx Jy Jz Jh Ji Jj Jk Jm Jn k IB0 hk S (by first | exact own_BS.mono IB | exact own_Sad IB (by omega) | exact own_BS.mono IB0 | exact own_Sad IB0 (by omega)) Bd hml hZ G0 T0 X0 e0 SZ0 NF0 KP0 Hi Hn Hy Mf Mg Mh Mi Mj Mk W_a0
theorem ef_fe1 (m : MethodId) (a0 : Addr) (p1 : Int32) (a2 a3 a4 : Addr) (p5 : Int32) : entryFrame m #[(.ref a0), (.int p1), (.ref a2), (.ref a3), (.ref a4), (.int p5)] 6 = mkF m 0 #[rv a0, iv p1, rv a2, rv a3, rv a4, iv p5] [] := by first | (simp [entryFrame, mkF, argsToLocals, Value.category]; done) | rfl
set_option maxRecDepth 65536 in
set_option maxHeartbeats 40000000 in
theorem rmfe1 (l : Launch) (Z : State) (aw : Array Value) (hw : HW aw Z) (ws : List Jvm.Cond) (p1 p5 : Int32) (S : St) (wl s0 s1 s2 e0_ e1_ e2_ : Int32) (a0 a2 a3 a4 c0 c1 c2 d0 d1 d2 : Addr) (h0 : Heap) (n0 : Nat) (SZ0 : n0 ≤ h0.size) (W_a0 : own_V Z h0 n0 a0 S) (Hi : own_Rv Z h0 a2 (3 : Int32) [.ref c0, .ref c1, .ref c2]) (Hn : own_Rv Z h0 a3 (3 : Int32) [.ref d0, .ref d1, .ref d2]) (Hy : own_Iv Z h0 a4 (3 : Int32) [(1 : Int32), (0 : Int32), (2 : Int32)]) (Mf : own_G Z h0 c0 wl s0 (0 : Int32) s0 (0 : Int32)) (Mg : own_G Z h0 c1 wl s1 (0 : Int32) s1 (0 : Int32)) (Mh : own_G Z h0 c2 wl s2 (0 : Int32) s2 (0 : Int32)) (Mi : own_G Z h0 d0 wl e0_ (0 : Int32) e0_ (0 : Int32)) (Mj : own_G Z h0 d1 wl e1_ (0 : Int32) e1_ (0 : Int32)) (Mk : own_G Z h0 d2 wl e2_ (0 : Int32) e2_ (0 : Int32)) (Jx : a2 < a0) (Jy : a3 < a0) (Jz : a4 < a0) (Jh : c0 < a0) (Ji : c1 < a0) (Jj : c2 < a0) (Jk : d0 < a0) (Jm : d1 < a0) (Jn : d2 < a0) (k : Int) (IB0 : own_BS k wl S) (hk : k ≤ 17) (G0 : n0 ≤ a0) :
    MetFree l y17 (head1 (Jvm.Cond.code y17 Gs 6 none :: ws) Qfe1) (fun a U => a = #[(.ref a0), (.int p1), (.ref a2), (.ref a3), (.ref a4), (.int p5)] ∧ Z.Warmed39 U.vm ∧ U.heap = h0) (fun _ _ _ _ _ => True) (fun _ U o U' => ∃ v L, o = .returned v ∧ own_Q (Rfe1 (ffe1_0 p1 p5 S wl s0 s1 s2 e0_ e1_ e2_)) (Kfe1 Z p1 p5 S wl s0 s1 s2 e0_ e1_ e2_ a0 a2 a3 a4 c0 c1 c2 d0 d1 d2 h0 n0 (ffe1_0 p1 p5 S wl s0 s1 s2 e0_ e1_ e2_)) v U'.heap L ∧ FrameEnd U o U' L Qfe1.cells Qfe1.slots) := by
  refine MetFree.of_bodySF (plainFor_of_name own_pn4) hisR ?_
  intro p e s m args below meth c s₁ Bd hml0 hP hK
  obtain ⟨rfl, hZ, hh⟩ := hP
  have hml : c.maxLocals = 6 := hml0
  have e0 : s₁.heap = h0 := by rw [← hh, Bd.state]; rfl
  exact own_pre (fun t k => castTop (ef_fe1 m a0 p1 a2 a3 a4 p5) k) (gfe1_0 hw p1 p5 S wl s0 s1 s2 e0_ e1_ e2_ a0 a2 a3 a4 c0 c1 c2 d0 d1 d2 Jx Jy Jz Jh Ji Jj Jk Jm Jn k IB0 hk Bd hml hZ G0 s₁ (Stand.of_body Bd) e0 SZ0 (Fr.nil n0) own_Low.refl W_a0 Hi Hn Hy Mf Mg Mh Mi Mj Mk)
theorem own_Sfe1 {k : Int} {p1 p5 wl s0 s1 s2 e0_ e1_ e2_ : Int32} {S : St} (IB : own_BS k wl S) (hk : k ≤ 17) : own_BS (k + 1 + 1 + 1) wl (ffe1_0 p1 p5 S wl s0 s1 s2 e0_ e1_ e2_) := by
  have A2 : ∀ T, own_BS (k + 1 + 1) wl T → own_BS (k + 1 + 1 + 1) wl (ffe1_57 p1 p5 S wl s0 s1 s2 e0_ e1_ e2_ T) := by
    intro T IB; unfold ffe1_57 ffe1_86; split <;> first | exact own_BS.mono IB | exact own_Sad IB (by omega)
  have A1 : ∀ T, own_BS (k + 1) wl T → own_BS (k + 1 + 1 + 1) wl (ffe1_28 p1 p5 S wl s0 s1 s2 e0_ e1_ e2_ T) := by
    intro T IB; unfold ffe1_28; split <;> apply A2 <;> first | exact own_BS.mono IB | exact own_Sad IB (by omega)
  unfold ffe1_0; split <;> apply A1 <;> first | exact own_BS.mono IB | exact own_Sad IB (by omega)
theorem own_pd11 : parseMethodDescriptor "(J)I" = some ⟨[.long], some .int⟩ := by decide +kernel
abbrev y18 : MethodName := ⟨cL, "lo", "(J)I"⟩
abbrev y19 : MethodName := ⟨cL, "hi", "(J)I"⟩
theorem own_pd12 : parseMethodDescriptor "(IZ)[I" = some ⟨[.int, .boolean], some (.array .int)⟩ := by decide +kernel
theorem own_pd13 : parseMethodDescriptor "(Lcom/example/gentle_endpoints/gentleendpoints/RangeTable$Builder;I[[I[[I[IC)V" = some ⟨[(.object cB), .int, (.array (.array .int)), (.array (.array .int)), (.array .int), .char], none⟩ := by decide +kernel
abbrev y20 : MethodName := ⟨cL, "ult", "(II)Z"⟩
/-! body 0, 0 -/
def R0 (t : Int32) : Option Value := some (.int t)
def K0 (Z : State) (q0 q1 q2 : Int64) (p3 : Int32)  (h0 : Heap) (n0 : Nat) (t : Int32) (h : Heap) (L : List Loc) : Prop := Fr n0 L
def f0_343 (q0 q1 q2 : Int64) (p3 y0 : Int32) (s_x23_0 : St) : Int32 := (if (ska s_x23_0) = y0 then (1 : Int32) else (0 : Int32))
set_option maxRecDepth 65536 in
set_option maxHeartbeats 40000000 in
theorem g0_343 (hw : HW aw Z) {h0 : Heap} {n0 : Nat} (q0 q1 q2 : Int64) (p3 x7 x8 x9 x10 x11 x12 x13 x14 x15 x16 x17 : Int32) (x18 x19 x20 : Addr) (x21 : Int32) (x22 x23 : Addr) (x24 y0 : Int32) (s_x23_0 : St) (IB : own_BS (0 + 1 + 1 + 1 + 1 + 1 + 1) (own_w x10) s_x23_0)
    (Bd : BodyLoose p l x (head1 (Jvm.Cond.code x code maxLocals ret :: ws) room_1) code maxLocals ret e s m #[(.long q0), (.long q1), (.long q2), (.int p3)] below meth c s₁) (hml : c.maxLocals = 26) (hZ : Z.Warmed39 s.vm) (T0 : State) {locs : List Loc} (X0 : Stand p l e room_1 s m #[(.long q0), (.long q1), (.long q2), (.int p3)] below meth c T0 locs 25 110) {h : Heap} (e0 : T0.heap = h) (SZ0 : n0 ≤ h.size) (NF0 : Fr n0 locs) (W_x23 : own_V Z h n0 x23 s_x23_0) (Js : n0 ≤ x23) :
    own_Go p e below s room_1.cells room_1.slots (R0 (f0_343 q0 q1 q2 p3 y0 s_x23_0)) (K0 Z q0 q1 q2 p3  h0 n0 (f0_343 q0 q1 q2 p3 y0 s_x23_0)) (T0.setTop (mkF m 343 #[lv q0, se, lv q1, se, lv q2, se, iv p3, iv x7, iv x8, iv x9, iv x10, iv x11, iv x12, iv x13, iv x14, iv x15, iv x16, iv x17, rv x18, rv x19, rv x20, iv x21, rv x22, rv x23, iv x24, uu] [(.int y0)])) := by
  have hx := Bd.exec
  have hby := Bd.bytes
  have hown : s.vm.findClass cL = some m.cls := findClass_of_methodNamed Bd.named
  have hnm := (name_of_methodNamed Bd.named Bd.method).1
  unfold f0_343
  refine op T0 (mkF m 347 #[lv q0, se, lv q1, se, lv q2, se, iv p3, iv x7, iv x8, iv x9, iv x10, iv x11, iv x12, iv x13, iv x14, iv x15, iv x16, iv x17, rv x18, rv x19, rv x20, iv x21, rv x22, rv x23, iv x24, iv y0] [(.ref x23)]) (fun _ k => XS.istore X0.here hx rfl (hb hby at_343) rfl (l' := #[lv q0, se, lv q1, se, lv q2, se, iv p3, iv x7, iv x8, iv x9, iv x10, iv x11, iv x12, iv x13, iv x14, iv x15, iv x16, iv x17, rv x18, rv x19, rv x20, iv x21, rv x22, rv x23, iv x24, iv y0]) rfl (XS.aload X0.here hx rfl (hb hby at_345) rfl rfl k)) ?_
  have ex1 := own_V.exa W_x23
  obtain ⟨cq1, kq1, qa1, qb1, qc1⟩ := isOf hZ e0 ex1
  obtain ⟨_, _, ⟨T1, L1, k1, n1⟩, -, X1', ⟨Lc1, hQ1, l1, y1, z1⟩, st'⟩ := X0.virtualBack hx (y := y15) (z := y15) hown (mvT hZ (ow hw 126 rfl)) (mvT hZ (ow hw 127 rfl)) (notFace_of_selects (args := #[]) (mvT hZ (ow hw 129 rfl))) (mvT hZ (ow hw 129 rfl)) (mvT hZ (ow hw 128 rfl)) (by decide) (backOf (W := 0) (rmvka l Z aw hw [] s_x23_0 x23 h n0 SZ0 W_x23 _ _ IB Js) hZ (ow hw 130 rfl) (ow hw 20 rfl) (by decide) (by decide)) qa1 qc1 (g := (mkF m 347 #[lv q0, se, lv q1, se, lv q2, se, iv p3, iv x7, iv x8, iv x9, iv x10, iv x11, iv x12, iv x13, iv x14, iv x15, iv x16, iv x17, rv x18, rv x19, rv x20, iv x21, rv x22, rv x23, iv x24, iv y0] [(.ref x23)])) rfl (by rw [hml]; rfl) (Steps.refl _) (argsL := []) (rest := []) (lenOf own_pd8 rfl) rfl (by show 2 * 0 + _ ≤ _; exact Nat.le_of_eq rfl) (hb hby at_347) (fun _ _ => ⟨rfl, e0, (by decide : 25 + 0 ≤ _), (by decide : 110 + 0 ≤ _)⟩)
  dsimp only [Pt.U, Pt.locs, Pt.cells, Pt.slots] at X1' l1 y1 z1 st' hQ1
  subst l1 y1 z1
  obtain ⟨rfl, NFq1, KPq1⟩ := hQ1
  have X1 : Stand p l e room_1 s m #[(.long q0), (.long q1), (.long q2), (.int p3)] below meth c T1 _ 25 110 := X1'
  have NF1 := Fr.app NF0 NFq1
  have SZ1 : n0 ≤ T1.heap.size := Nat.le_trans SZ0 KPq1.1
  have f2 := W_x23.keep KPq1 nin0
  refine op T1 (mkF m 352 #[lv q0, se, lv q1, se, lv q2, se, iv p3, iv x7, iv x8, iv x9, iv x10, iv x11, iv x12, iv x13, iv x14, iv x15, iv x16, iv x17, rv x18, rv x19, rv x20, iv x21, rv x22, rv x23, iv x24, iv y0] [(.int y0), (.int (ska s_x23_0))]) (fun _ k => st'.trans (XS.iload X1.here hx rfl (hb hby at_350) rfl k)) ?_
  refine own_iteT R0 (K0 Z q0 q1 q2 p3  h0 n0) (fun hc352 => ?_) (fun hc352 => ?_)
  · skip
    refine op T1 (mkF m 360 #[lv q0, se, lv q1, se, lv q2, se, iv p3, iv x7, iv x8, iv x9, iv x10, iv x11, iv x12, iv x13, iv x14, iv x15, iv x16, iv x17, rv x18, rv x19, rv x20, iv x21, rv x22, rv x23, iv x24, iv y0] [(.int 1)]) (fun _ k => XS.icmpNo X1.here hx rfl (hb hby at_352) rfl (teq hc352).2 (XS.iconst X1.here hx rfl (hb hby at_355) (XS.goto X1.here hx rfl (pc0 := 356) (pc' := 360) rfl (hb hby at_356) (by decide) (by decide) k))) ?_
    exact own_ret (w := (.int 1)) X1 hx Bd.notSynchronized Bd.returns rfl (Or.inl ⟨rfl, by simp, _, rfl⟩) (hb hby at_360) NF1 (by decide) (by decide)
  · skip
    refine op T1 (mkF m 360 #[lv q0, se, lv q1, se, lv q2, se, iv p3, iv x7, iv x8, iv x9, iv x10, iv x11, iv x12, iv x13, iv x14, iv x15, iv x16, iv x17, rv x18, rv x19, rv x20, iv x21, rv x22, rv x23, iv x24, iv y0] [(.int 0)]) (fun _ k => XS.icmpYes X1.here hx rfl (pc0 := 352) (pc' := 359) rfl (hb hby at_352) rfl (feq hc352).2 (by decide) (by decide) (XS.iconst X1.here hx rfl (hb hby at_359) k)) ?_
    exact own_ret (w := (.int 0)) X1 hx Bd.notSynchronized Bd.returns rfl (Or.inl ⟨rfl, by simp, _, rfl⟩) (hb hby at_360) NF1 (by decide) (by decide)
def f0_319 (q0 q1 q2 : Int64) (p3 x7 x8 x21 y0 : Int32) (s_x23_0 : St) : Int32 := (if x8 = x7 then (if y0 = (0 : Int32) then (f0_343 q0 q1 q2 p3 (1 : Int32) s_x23_0) else (if x21 = (0 : Int32) then (f0_343 q0 q1 q2 p3 (1 : Int32) s_x23_0) else (f0_343 q0 q1 q2 p3 (0 : Int32) s_x23_0))) else (f0_343 q0 q1 q2 p3 (0 : Int32) s_x23_0))
set_option maxRecDepth 65536 in
set_option maxHeartbeats 40000000 in
theorem g0_319 (hw : HW aw Z) {h0 : Heap} {n0 : Nat} (q0 q1 q2 : Int64) (p3 x7 x8 x9 x10 x11 x12 x13 x14 x15 x16 x17 : Int32) (x18 x19 x20 : Addr) (x21 : Int32) (x22 x23 : Addr) (y0 : Int32) (s_x23_0 : St) (IB : own_BS (0 + 1 + 1 + 1 + 1 + 1 + 1) (own_w x10) s_x23_0)
    (Bd : BodyLoose p l x (head1 (Jvm.Cond.code x code maxLocals ret :: ws) room_1) code maxLocals ret e s m #[(.long q0), (.long q1), (.long q2), (.int p3)] below meth c s₁) (hml : c.maxLocals = 26) (hZ : Z.Warmed39 s.vm) (T0 : State) {locs : List Loc} (X0 : Stand p l e room_1 s m #[(.long q0), (.long q1), (.long q2), (.int p3)] below meth c T0 locs 25 110) {h : Heap} (e0 : T0.heap = h) (SZ0 : n0 ≤ h.size) (NF0 : Fr n0 locs) (W_x23 : own_V Z h n0 x23 s_x23_0) (Js : n0 ≤ x23) :
    own_Go p e below s room_1.cells room_1.slots (R0 (f0_319 q0 q1 q2 p3 x7 x8 x21 y0 s_x23_0)) (K0 Z q0 q1 q2 p3  h0 n0 (f0_319 q0 q1 q2 p3 x7 x8 x21 y0 s_x23_0)) (T0.setTop (mkF m 319 #[lv q0, se, lv q1, se, lv q2, se, iv p3, iv x7, iv x8, iv x9, iv x10, iv x11, iv x12, iv x13, iv x14, iv x15, iv x16, iv x17, rv x18, rv x19, rv x20, iv x21, rv x22, rv x23, uu, uu] [(.int y0)])) := by
  have hx := Bd.exec
  have hby := Bd.bytes
  have hown : s.vm.findClass cL = some m.cls := findClass_of_methodNamed Bd.named
  have hnm := (name_of_methodNamed Bd.named Bd.method).1
  unfold f0_319
  refine op T0 (mkF m 325 #[lv q0, se, lv q1, se, lv q2, se, iv p3, iv x7, iv x8, iv x9, iv x10, iv x11, iv x12, iv x13, iv x14, iv x15, iv x16, iv x17, rv x18, rv x19, rv x20, iv x21, rv x22, rv x23, iv y0, uu] [(.int x7), (.int x8)]) (fun _ k => XS.istore X0.here hx rfl (hb hby at_319) rfl (l' := #[lv q0, se, lv q1, se, lv q2, se, iv p3, iv x7, iv x8, iv x9, iv x10, iv x11, iv x12, iv x13, iv x14, iv x15, iv x16, iv x17, rv x18, rv x19, rv x20, iv x21, rv x22, rv x23, iv y0, uu]) rfl (XS.iload X0.here hx rfl (hb hby at_321) rfl (XS.iload X0.here hx rfl (hb hby at_323) rfl k))) ?_
  refine own_iteT R0 (K0 Z q0 q1 q2 p3  h0 n0) (fun hc325 => ?_) (fun hc325 => ?_)
  · skip
    refine op T0 (mkF m 330 #[lv q0, se, lv q1, se, lv q2, se, iv p3, iv x7, iv x8, iv x9, iv x10, iv x11, iv x12, iv x13, iv x14, iv x15, iv x16, iv x17, rv x18, rv x19, rv x20, iv x21, rv x22, rv x23, iv y0, uu] [(.int y0)]) (fun _ k => XS.icmpNo X0.here hx rfl (hb hby at_325) rfl (teq hc325).2 (XS.iload X0.here hx rfl (hb hby at_328) rfl k)) ?_
    refine own_iteT R0 (K0 Z q0 q1 q2 p3  h0 n0) (fun hc330 => ?_) (fun hc330 => ?_)
    · skip
      refine op T0 (mkF m 343 #[lv q0, se, lv q1, se, lv q2, se, iv p3, iv x7, iv x8, iv x9, iv x10, iv x11, iv x12, iv x13, iv x14, iv x15, iv x16, iv x17, rv x18, rv x19, rv x20, iv x21, rv x22, rv x23, iv y0, uu] [(.int 1)]) (fun _ k => XS.ifYes X0.here hx rfl (pc0 := 330) (pc' := 338) rfl (hb hby at_330) rfl ((if0 _ _).trans (teq hc330).1) (by decide) (by decide) (XS.iconst X0.here hx rfl (hb hby at_338) (XS.goto X0.here hx rfl (pc0 := 339) (pc' := 343) rfl (hb hby at_339) (by decide) (by decide) k))) ?_
      exact g0_343 hw q0 q1 q2 p3  x7 x8 x9 x10 x11 x12 x13 x14 x15 x16 x17 x18 x19 x20 x21 x22 x23 y0 (1 : Int32) s_x23_0 IB Bd hml hZ T0 X0 e0 SZ0 NF0 W_x23 Js
    · skip
      refine op T0 (mkF m 335 #[lv q0, se, lv q1, se, lv q2, se, iv p3, iv x7, iv x8, iv x9, iv x10, iv x11, iv x12, iv x13, iv x14, iv x15, iv x16, iv x17, rv x18, rv x19, rv x20, iv x21, rv x22, rv x23, iv y0, uu] [(.int x21)]) (fun _ k => XS.ifNo X0.here hx rfl (hb hby at_330) rfl ((if0 _ _).trans (feq hc330).1) (XS.iload X0.here hx rfl (hb hby at_333) rfl k)) ?_
      refine own_iteT R0 (K0 Z q0 q1 q2 p3  h0 n0) (fun hc335 => ?_) (fun hc335 => ?_)
      · skip
        refine op T0 (mkF m 343 #[lv q0, se, lv q1, se, lv q2, se, iv p3, iv x7, iv x8, iv x9, iv x10, iv x11, iv x12, iv x13, iv x14, iv x15, iv x16, iv x17, rv x18, rv x19, rv x20, iv x21, rv x22, rv x23, iv y0, uu] [(.int 1)]) (fun _ k => XS.ifNo X0.here hx rfl (hb hby at_335) rfl ((if0 _ _).trans (teq hc335).2) (XS.iconst X0.here hx rfl (hb hby at_338) (XS.goto X0.here hx rfl (pc0 := 339) (pc' := 343) rfl (hb hby at_339) (by decide) (by decide) k))) ?_
        exact g0_343 hw q0 q1 q2 p3  x7 x8 x9 x10 x11 x12 x13 x14 x15 x16 x17 x18 x19 x20 x21 x22 x23 y0 (1 : Int32) s_x23_0 IB Bd hml hZ T0 X0 e0 SZ0 NF0 W_x23 Js
      · skip
        refine op T0 (mkF m 343 #[lv q0, se, lv q1, se, lv q2, se, iv p3, iv x7, iv x8, iv x9, iv x10, iv x11, iv x12, iv x13, iv x14, iv x15, iv x16, iv x17, rv x18, rv x19, rv x20, iv x21, rv x22, rv x23, iv y0, uu] [(.int 0)]) (fun _ k => XS.ifYes X0.here hx rfl (pc0 := 335) (pc' := 342) rfl (hb hby at_335) rfl ((if0 _ _).trans (feq hc335).2) (by decide) (by decide) (XS.iconst X0.here hx rfl (hb hby at_342) k)) ?_
        exact g0_343 hw q0 q1 q2 p3  x7 x8 x9 x10 x11 x12 x13 x14 x15 x16 x17 x18 x19 x20 x21 x22 x23 y0 (0 : Int32) s_x23_0 IB Bd hml hZ T0 X0 e0 SZ0 NF0 W_x23 Js
  · skip
    refine op T0 (mkF m 343 #[lv q0, se, lv q1, se, lv q2, se, iv p3, iv x7, iv x8, iv x9, iv x10, iv x11, iv x12, iv x13, iv x14, iv x15, iv x16, iv x17, rv x18, rv x19, rv x20, iv x21, rv x22, rv x23, iv y0, uu] [(.int 0)]) (fun _ k => XS.icmpYes X0.here hx rfl (pc0 := 325) (pc' := 342) rfl (hb hby at_325) rfl (feq hc325).2 (by decide) (by decide) (XS.iconst X0.here hx rfl (hb hby at_342) k)) ?_
    exact g0_343 hw q0 q1 q2 p3  x7 x8 x9 x10 x11 x12 x13 x14 x15 x16 x17 x18 x19 x20 x21 x22 x23 y0 (0 : Int32) s_x23_0 IB Bd hml hZ T0 X0 e0 SZ0 NF0 W_x23 Js
def f0_282 (q0 q1 q2 : Int64) (p3 x7 x8 x13 x14 x15 x16 x21 : Int32) (s_x23_0 : St) : Int32 := (if x7 < (2 : Int32) then (f0_319 q0 q1 q2 p3 x7 x8 x21 (1 : Int32) s_x23_0) else (if (f2_0 x13 x14) = (0 : Int32) then (f0_319 q0 q1 q2 p3 x7 x8 x21 (0 : Int32) s_x23_0) else (if x7 < (3 : Int32) then (f0_319 q0 q1 q2 p3 x7 x8 x21 (1 : Int32) s_x23_0) else (if (f2_0 x15 x16) = (0 : Int32) then (f0_319 q0 q1 q2 p3 x7 x8 x21 (0 : Int32) s_x23_0) else (f0_319 q0 q1 q2 p3 x7 x8 x21 (1 : Int32) s_x23_0)))))
set_option maxRecDepth 65536 in
set_option maxHeartbeats 40000000 in
theorem g0_282 (hw : HW aw Z) {h0 : Heap} {n0 : Nat} (q0 q1 q2 : Int64) (p3 x7 x8 x9 x10 x11 x12 x13 x14 x15 x16 x17 : Int32) (x18 x19 x20 : Addr) (x21 : Int32) (x22 x23 : Addr) (s_x23_0 : St) (IB : own_BS (0 + 1 + 1 + 1 + 1 + 1 + 1) (own_w x10) s_x23_0)
    (Bd : BodyLoose p l x (head1 (Jvm.Cond.code x code maxLocals ret :: ws) room_1) code maxLocals ret e s m #[(.long q0), (.long q1), (.long q2), (.int p3)] below meth c s₁) (hml : c.maxLocals = 26) (hZ : Z.Warmed39 s.vm) (T0 : State) {locs : List Loc} (X0 : Stand p l e room_1 s m #[(.long q0), (.long q1), (.long q2), (.int p3)] below meth c T0 locs 25 110) {h : Heap} (e0 : T0.heap = h) (SZ0 : n0 ≤ h.size) (NF0 : Fr n0 locs) (W_x23 : own_V Z h n0 x23 s_x23_0) (Js : n0 ≤ x23) :
    own_Go p e below s room_1.cells room_1.slots (R0 (f0_282 q0 q1 q2 p3 x7 x8 x13 x14 x15 x16 x21 s_x23_0)) (K0 Z q0 q1 q2 p3  h0 n0 (f0_282 q0 q1 q2 p3 x7 x8 x13 x14 x15 x16 x21 s_x23_0)) (T0.setTop (mkF m 282 #[lv q0, se, lv q1, se, lv q2, se, iv p3, iv x7, iv x8, iv x9, iv x10, iv x11, iv x12, iv x13, iv x14, iv x15, iv x16, iv x17, rv x18, rv x19, rv x20, iv x21, rv x22, rv x23, uu, uu] [])) := by
  have hx := Bd.exec
  have hby := Bd.bytes
  have hown : s.vm.findClass cL = some m.cls := findClass_of_methodNamed Bd.named
  have hnm := (name_of_methodNamed Bd.named Bd.method).1
  unfold f0_282
  refine op T0 (mkF m 285 #[lv q0, se, lv q1, se, lv q2, se, iv p3, iv x7, iv x8, iv x9, iv x10, iv x11, iv x12, iv x13, iv x14, iv x15, iv x16, iv x17, rv x18, rv x19, rv x20, iv x21, rv x22, rv x23, uu, uu] [(.int 2), (.int x7)]) (fun _ k => XS.iload X0.here hx rfl (hb hby at_282) rfl (XS.iconst X0.here hx rfl (hb hby at_284) k)) ?_
  refine own_iteT R0 (K0 Z q0 q1 q2 p3  h0 n0) (fun hc285 => ?_) (fun hc285 => ?_)
  · skip
    refine op T0 (mkF m 319 #[lv q0, se, lv q1, se, lv q2, se, iv p3, iv x7, iv x8, iv x9, iv x10, iv x11, iv x12, iv x13, iv x14, iv x15, iv x16, iv x17, rv x18, rv x19, rv x20, iv x21, rv x22, rv x23, uu, uu] [(.int 1)]) (fun _ k => XS.icmpYes X0.here hx rfl (pc0 := 285) (pc' := 314) rfl (hb hby at_285) rfl (tlt hc285).1 (by decide) (by decide) (XS.iconst X0.here hx rfl (hb hby at_314) (XS.goto X0.here hx rfl (pc0 := 315) (pc' := 319) rfl (hb hby at_315) (by decide) (by decide) k))) ?_
    exact g0_319 hw q0 q1 q2 p3  x7 x8 x9 x10 x11 x12 x13 x14 x15 x16 x17 x18 x19 x20 x21 x22 x23 (1 : Int32) s_x23_0 IB Bd hml hZ T0 X0 e0 SZ0 NF0 W_x23 Js
  · skip
    refine op T0 (mkF m 292 #[lv q0, se, lv q1, se, lv q2, se, iv p3, iv x7, iv x8, iv x9, iv x10, iv x11, iv x12, iv x13, iv x14, iv x15, iv x16, iv x17, rv x18, rv x19, rv x20, iv x21, rv x22, rv x23, uu, uu] [(.int x14), (.int x13)]) (fun _ k => XS.icmpNo X0.here hx rfl (hb hby at_285) rfl (flt hc285).1 (XS.iload X0.here hx rfl (hb hby at_288) rfl (XS.iload X0.here hx rfl (hb hby at_290) rfl k))) ?_
    obtain ⟨_, _, ⟨T1, L1, k1, n1⟩, -, X1', ⟨Lc1, hQ1, l1, y1, z1⟩, st'⟩ := Jvm.LawKit.callS X0 hx (y := y20) hown (mvT hZ (ow hw 4 rfl)) (mvT hZ (ow hw 5 rfl)) (mvT hZ (ow hw 2 rfl)) (mvT hZ (ow hw 6 rfl)) (by decide) (backOf (W := 0) (rm2 l Z aw hw [] x13 x14 h) hZ (ow hw 6 rfl) (ow hw 2 rfl) (by decide) (by decide)) (g := (mkF m 292 #[lv q0, se, lv q1, se, lv q2, se, iv p3, iv x7, iv x8, iv x9, iv x10, iv x11, iv x12, iv x13, iv x14, iv x15, iv x16, iv x17, rv x18, rv x19, rv x20, iv x21, rv x22, rv x23, uu, uu] [(.int x14), (.int x13)])) rfl (by rw [hml]; rfl) (argsL := [(.int x13), (.int x14)]) (rest := []) (lenOf own_pd9 rfl) rfl (by show 2 * 0 + _ ≤ _; exact Nat.le_of_eq rfl) (hb hby at_292) (fun _ _ => ⟨rfl, e0, (by decide : 25 + 0 ≤ _), (by decide : 110 + 0 ≤ _)⟩)
    dsimp only [Pt.U, Pt.locs, Pt.cells, Pt.slots] at X1' l1 y1 z1 st' hQ1
    subst l1 y1 z1
    obtain ⟨rfl, rfl, e1⟩ := hQ1
    have X1 : Stand p l e room_1 s m #[(.long q0), (.long q1), (.long q2), (.int p3)] below meth c T1 _ 25 110 := own_locs X1'
    refine op T1 (mkF m 295 #[lv q0, se, lv q1, se, lv q2, se, iv p3, iv x7, iv x8, iv x9, iv x10, iv x11, iv x12, iv x13, iv x14, iv x15, iv x16, iv x17, rv x18, rv x19, rv x20, iv x21, rv x22, rv x23, uu, uu] [(.int (f2_0 x13 x14))]) (fun _ k => st' _ k) ?_
    refine own_iteT R0 (K0 Z q0 q1 q2 p3  h0 n0) (fun hc295 => ?_) (fun hc295 => ?_)
    · skip
      refine op T1 (mkF m 319 #[lv q0, se, lv q1, se, lv q2, se, iv p3, iv x7, iv x8, iv x9, iv x10, iv x11, iv x12, iv x13, iv x14, iv x15, iv x16, iv x17, rv x18, rv x19, rv x20, iv x21, rv x22, rv x23, uu, uu] [(.int 0)]) (fun _ k => XS.ifYes X1.here hx rfl (pc0 := 295) (pc' := 318) rfl (hb hby at_295) rfl ((if0 _ _).trans (teq hc295).1) (by decide) (by decide) (XS.iconst X1.here hx rfl (hb hby at_318) k)) ?_
      exact g0_319 hw q0 q1 q2 p3  x7 x8 x9 x10 x11 x12 x13 x14 x15 x16 x17 x18 x19 x20 x21 x22 x23 (0 : Int32) s_x23_0 IB Bd hml hZ T1 X1 e1 SZ0 NF0 W_x23 Js
    · skip
      refine op T1 (mkF m 301 #[lv q0, se, lv q1, se, lv q2, se, iv p3, iv x7, iv x8, iv x9, iv x10, iv x11, iv x12, iv x13, iv x14, iv x15, iv x16, iv x17, rv x18, rv x19, rv x20, iv x21, rv x22, rv x23, uu, uu] [(.int 3), (.int x7)]) (fun _ k => XS.ifNo X1.here hx rfl (hb hby at_295) rfl ((if0 _ _).trans (feq hc295).1) (XS.iload X1.here hx rfl (hb hby at_298) rfl (XS.iconst X1.here hx rfl (hb hby at_300) k))) ?_
      refine own_iteT R0 (K0 Z q0 q1 q2 p3  h0 n0) (fun hc301 => ?_) (fun hc301 => ?_)
      · skip
        refine op T1 (mkF m 319 #[lv q0, se, lv q1, se, lv q2, se, iv p3, iv x7, iv x8, iv x9, iv x10, iv x11, iv x12, iv x13, iv x14, iv x15, iv x16, iv x17, rv x18, rv x19, rv x20, iv x21, rv x22, rv x23, uu, uu] [(.int 1)]) (fun _ k => XS.icmpYes X1.here hx rfl (pc0 := 301) (pc' := 314) rfl (hb hby at_301) rfl (tlt hc301).1 (by decide) (by decide) (XS.iconst X1.here hx rfl (hb hby at_314) (XS.goto X1.here hx rfl (pc0 := 315) (pc' := 319) rfl (hb hby at_315) (by decide) (by decide) k))) ?_
        exact g0_319 hw q0 q1 q2 p3  x7 x8 x9 x10 x11 x12 x13 x14 x15 x16 x17 x18 x19 x20 x21 x22 x23 (1 : Int32) s_x23_0 IB Bd hml hZ T1 X1 e1 SZ0 NF0 W_x23 Js
      · skip
        refine op T1 (mkF m 308 #[lv q0, se, lv q1, se, lv q2, se, iv p3, iv x7, iv x8, iv x9, iv x10, iv x11, iv x12, iv x13, iv x14, iv x15, iv x16, iv x17, rv x18, rv x19, rv x20, iv x21, rv x22, rv x23, uu, uu] [(.int x16), (.int x15)]) (fun _ k => XS.icmpNo X1.here hx rfl (hb hby at_301) rfl (flt hc301).1 (XS.iload X1.here hx rfl (hb hby at_304) rfl (XS.iload X1.here hx rfl (hb hby at_306) rfl k))) ?_
        obtain ⟨_, _, ⟨T2, L2, k2, n2⟩, -, X2', ⟨Lc2, hQ2, l2, y2, z2⟩, st'⟩ := Jvm.LawKit.callS X1 hx (y := y20) hown (mvT hZ (ow hw 4 rfl)) (mvT hZ (ow hw 5 rfl)) (mvT hZ (ow hw 2 rfl)) (mvT hZ (ow hw 6 rfl)) (by decide) (backOf (W := 0) (rm2 l Z aw hw [] x15 x16 h) hZ (ow hw 6 rfl) (ow hw 2 rfl) (by decide) (by decide)) (g := (mkF m 308 #[lv q0, se, lv q1, se, lv q2, se, iv p3, iv x7, iv x8, iv x9, iv x10, iv x11, iv x12, iv x13, iv x14, iv x15, iv x16, iv x17, rv x18, rv x19, rv x20, iv x21, rv x22, rv x23, uu, uu] [(.int x16), (.int x15)])) rfl (by rw [hml]; rfl) (argsL := [(.int x15), (.int x16)]) (rest := []) (lenOf own_pd9 rfl) rfl (by show 2 * 0 + _ ≤ _; exact Nat.le_of_eq rfl) (hb hby at_308) (fun _ _ => ⟨rfl, e1, (by decide : 25 + 0 ≤ _), (by decide : 110 + 0 ≤ _)⟩)
        dsimp only [Pt.U, Pt.locs, Pt.cells, Pt.slots] at X2' l2 y2 z2 st' hQ2
        subst l2 y2 z2
        obtain ⟨rfl, rfl, e2⟩ := hQ2
        have X2 : Stand p l e room_1 s m #[(.long q0), (.long q1), (.long q2), (.int p3)] below meth c T2 _ 25 110 := own_locs X2'
        refine op T2 (mkF m 311 #[lv q0, se, lv q1, se, lv q2, se, iv p3, iv x7, iv x8, iv x9, iv x10, iv x11, iv x12, iv x13, iv x14, iv x15, iv x16, iv x17, rv x18, rv x19, rv x20, iv x21, rv x22, rv x23, uu, uu] [(.int (f2_0 x15 x16))]) (fun _ k => st' _ k) ?_
        refine own_iteT R0 (K0 Z q0 q1 q2 p3  h0 n0) (fun hc311 => ?_) (fun hc311 => ?_)
        · skip
          refine op T2 (mkF m 319 #[lv q0, se, lv q1, se, lv q2, se, iv p3, iv x7, iv x8, iv x9, iv x10, iv x11, iv x12, iv x13, iv x14, iv x15, iv x16, iv x17, rv x18, rv x19, rv x20, iv x21, rv x22, rv x23, uu, uu] [(.int 0)]) (fun _ k => XS.ifYes X2.here hx rfl (pc0 := 311) (pc' := 318) rfl (hb hby at_311) rfl ((if0 _ _).trans (teq hc311).1) (by decide) (by decide) (XS.iconst X2.here hx rfl (hb hby at_318) k)) ?_
          exact g0_319 hw q0 q1 q2 p3  x7 x8 x9 x10 x11 x12 x13 x14 x15 x16 x17 x18 x19 x20 x21 x22 x23 (0 : Int32) s_x23_0 IB Bd hml hZ T2 X2 e2 SZ0 NF0 W_x23 Js
        · skip
          refine op T2 (mkF m 319 #[lv q0, se, lv q1, se, lv q2, se, iv p3, iv x7, iv x8, iv x9, iv x10, iv x11, iv x12, iv x13, iv x14, iv x15, iv x16, iv x17, rv x18, rv x19, rv x20, iv x21, rv x22, rv x23, uu, uu] [(.int 1)]) (fun _ k => XS.ifNo X2.here hx rfl (hb hby at_311) rfl ((if0 _ _).trans (feq hc311).1) (XS.iconst X2.here hx rfl (hb hby at_314) (XS.goto X2.here hx rfl (pc0 := 315) (pc' := 319) rfl (hb hby at_315) (by decide) (by decide) k))) ?_
          exact g0_319 hw q0 q1 q2 p3  x7 x8 x9 x10 x11 x12 x13 x14 x15 x16 x17 x18 x19 x20 x21 x22 x23 (1 : Int32) s_x23_0 IB Bd hml hZ T2 X2 e2 SZ0 NF0 W_x23 Js
def f0_267b (q0 q1 q2 : Int64) (p3 x7 x8 x10 x11 x12 x13 x14 x15 x16 x17 : Int32) (s_x23_0 : St) : Int32 := (f0_282 q0 q1 q2 p3 x7 x8 x13 x14 x15 x16 (1 : Int32) (ffe1_0 x8 x11 s_x23_0 (own_w x10) x12 x14 x16 x13 x15 x17))
set_option maxRecDepth 65536 in
set_option maxHeartbeats 40000000 in
theorem g0_267b (hw : HW aw Z) {h0 : Heap} {n0 : Nat} (q0 q1 q2 : Int64) (p3 x7 x8 x9 x10 x11 x12 x13 x14 x15 x16 x17 : Int32) (x18 x19 x20 x22 x23 rx18a rx18b rx18c rx19a rx19b rx19c : Addr) (s_x23_0 : St) (HX : x10 = 0 ∨ x10 = 1) (IB : own_BS (0 + 1 + 1 + 1) (own_w x10) s_x23_0)
    (Bd : BodyLoose p l x (head1 (Jvm.Cond.code x code maxLocals ret :: ws) room_1) code maxLocals ret e s m #[(.long q0), (.long q1), (.long q2), (.int p3)] below meth c s₁) (hml : c.maxLocals = 26) (hZ : Z.Warmed39 s.vm) (T0 : State) {locs : List Loc} (X0 : Stand p l e room_1 s m #[(.long q0), (.long q1), (.long q2), (.int p3)] below meth c T0 locs 25 110) {h : Heap} (e0 : T0.heap = h) (SZ0 : n0 ≤ h.size) (NF0 : Fr n0 locs) (Jo : own_Rv Z h x18 (3 : Int32) [.ref rx18a, .ref rx18b, .ref rx18c]) (Jp : own_G Z h rx18a (own_w x10) x12 (0 : Int32) x12 (0 : Int32)) (Jq : own_G Z h rx18b (own_w x10) x14 (0 : Int32) x14 (0 : Int32)) (Jr : own_G Z h rx18c (own_w x10) x16 (0 : Int32) x16 (0 : Int32)) (M8 : own_Rv Z h x19 (3 : Int32) [.ref rx19a, .ref rx19b, .ref rx19c]) (M9 : own_G Z h rx19a (own_w x10) x13 (0 : Int32) x13 (0 : Int32)) (Ma : own_G Z h rx19b (own_w x10) x15 (0 : Int32) x15 (0 : Int32)) (Mb : own_G Z h rx19c (own_w x10) x17 (0 : Int32) x17 (0 : Int32)) (A_x22 : own_Iv Z h x22 (3 : Int32) [(1 : Int32), (0 : Int32), (2 : Int32)]) (W_x23 : own_V Z h n0 x23 s_x23_0) (Js : n0 ≤ x23) (U0 : x18 < x23) (U1 : x19 < x23) (Wu : x22 < x23) (U2 : rx18a < x23) (U3 : rx18b < x23) (U4 : rx18c < x23) (U5 : rx19a < x23) (U6 : rx19b < x23) (U7 : rx19c < x23) :
    own_Go p e below s room_1.cells room_1.slots (R0 (f0_267b q0 q1 q2 p3 x7 x8 x10 x11 x12 x13 x14 x15 x16 x17 s_x23_0)) (K0 Z q0 q1 q2 p3  h0 n0 (f0_267b q0 q1 q2 p3 x7 x8 x10 x11 x12 x13 x14 x15 x16 x17 s_x23_0)) (T0.setTop (mkF m 267 #[lv q0, se, lv q1, se, lv q2, se, iv p3, iv x7, iv x8, iv x9, iv x10, iv x11, iv x12, iv x13, iv x14, iv x15, iv x16, iv x17, rv x18, rv x19, rv x20, iv 1, rv x22, rv x23, uu, uu] [])) := by
  have hx := Bd.exec
  have hby := Bd.bytes
  have hown : s.vm.findClass cL = some m.cls := findClass_of_methodNamed Bd.named
  have hnm := (name_of_methodNamed Bd.named Bd.method).1
  unfold f0_267b
  refine op T0 (mkF m 279 #[lv q0, se, lv q1, se, lv q2, se, iv p3, iv x7, iv x8, iv x9, iv x10, iv x11, iv x12, iv x13, iv x14, iv x15, iv x16, iv x17, rv x18, rv x19, rv x20, iv 1, rv x22, rv x23, uu, uu] [(.int x11), (.ref x22), (.ref x19), (.ref x18), (.int x8), (.ref x23)]) (fun _ k => XS.aload X0.here hx rfl (hb hby at_267) rfl rfl (XS.iload X0.here hx rfl (hb hby at_269) rfl (XS.aload X0.here hx rfl (hb hby at_271) rfl rfl (XS.aload X0.here hx rfl (hb hby at_273) rfl rfl (XS.aload X0.here hx rfl (hb hby at_275) rfl rfl (XS.iload X0.here hx rfl (hb hby at_277) rfl k)))))) ?_
  obtain ⟨_, _, ⟨T1, L1, k1, n1⟩, -, X1', ⟨Lc1, hQ1, l1, y1, z1⟩, st'⟩ := Jvm.LawKit.callS X0 hx (y := y17) hown (mvT hZ (ow hw 67 rfl)) (mvT hZ (ow hw 68 rfl)) (mvT hZ (ow hw 2 rfl)) (mvT hZ (ow hw 69 rfl)) (by decide) (backOf (W := 0) (rmfe1 l Z aw hw [] x8 x11 s_x23_0 (own_w x10) x12 x14 x16 x13 x15 x17 x23 x18 x19 x22 rx18a rx18b rx18c rx19a rx19b rx19c h n0 SZ0 W_x23 Jo M8 A_x22 Jp Jq Jr M9 Ma Mb U0 U1 Wu U2 U3 U4 U5 U6 U7 _ IB (by decide) Js) hZ (ow hw 69 rfl) (ow hw 2 rfl) (by decide) (by decide)) (g := (mkF m 279 #[lv q0, se, lv q1, se, lv q2, se, iv p3, iv x7, iv x8, iv x9, iv x10, iv x11, iv x12, iv x13, iv x14, iv x15, iv x16, iv x17, rv x18, rv x19, rv x20, iv 1, rv x22, rv x23, uu, uu] [(.int x11), (.ref x22), (.ref x19), (.ref x18), (.int x8), (.ref x23)])) rfl (by rw [hml]; rfl) (argsL := [(.ref x23), (.int x8), (.ref x18), (.ref x19), (.ref x22), (.int x11)]) (rest := []) (lenOf own_pd13 rfl) rfl (by show 2 * 0 + _ ≤ _; exact Nat.le_of_eq rfl) (hb hby at_279) (fun _ _ => ⟨rfl, e0, (by decide : 25 + 0 ≤ _), (by decide : 110 + 0 ≤ _)⟩)
  dsimp only [Pt.U, Pt.locs, Pt.cells, Pt.slots] at X1' l1 y1 z1 st' hQ1
  subst l1 y1 z1
  obtain ⟨rfl, NFq1, KPq1, p1_0⟩ := hQ1
  have X1 : Stand p l e room_1 s m #[(.long q0), (.long q1), (.long q2), (.int p3)] below meth c T1 _ 25 110 := X1'
  have NF1 := Fr.app NF0 NFq1
  have SZ1 : n0 ≤ T1.heap.size := Nat.le_trans SZ0 KPq1.size
  have f2 := Jo.low KPq1 U0
  have f3 := Jp.low KPq1 U2
  have f4 := Jq.low KPq1 U3
  have f5 := Jr.low KPq1 U4
  have f6 := M8.low KPq1 U1
  have f7 := M9.low KPq1 U5
  have f8 := Ma.low KPq1 U6
  have f9 := Mb.low KPq1 U7
  have f10 := A_x22.low KPq1 Wu
  refine op T1 (mkF m 282 #[lv q0, se, lv q1, se, lv q2, se, iv p3, iv x7, iv x8, iv x9, iv x10, iv x11, iv x12, iv x13, iv x14, iv x15, iv x16, iv x17, rv x18, rv x19, rv x20, iv 1, rv x22, rv x23, uu, uu] []) (fun _ k => st' _ k) ?_
  exact g0_282 hw q0 q1 q2 p3  x7 x8 x9 x10 x11 x12 x13 x14 x15 x16 x17 x18 x19 x20 (1 : Int32) x22 x23 (ffe1_0 x8 x11 s_x23_0 (own_w x10) x12 x14 x16 x13 x15 x17) (by first | exact own_Sfe0 IB (by decide) | exact own_Sfe1 IB (by decide)) Bd hml hZ T1 X1 (rfl : T1.heap = T1.heap) SZ1 NF1 p1_0 Js
def f0_267a (q0 q1 q2 : Int64) (p3 x7 x8 x10 x11 x12 x13 x14 x15 x16 x17 : Int32) (s_x23_0 : St) : Int32 := (f0_282 q0 q1 q2 p3 x7 x8 x13 x14 x15 x16 (0 : Int32) (ffe0_0 x8 x11 s_x23_0 (own_w x10) x12 x14 x16 x13 x15 x17))
set_option maxRecDepth 65536 in
set_option maxHeartbeats 40000000 in
theorem g0_267a (hw : HW aw Z) {h0 : Heap} {n0 : Nat} (q0 q1 q2 : Int64) (p3 x7 x8 x9 x10 x11 x12 x13 x14 x15 x16 x17 : Int32) (x18 x19 x20 x23 rx18a rx18b rx18c rx19a rx19b rx19c : Addr) (s_x23_0 : St) (HX : x10 = 0 ∨ x10 = 1) (IB : own_BS (0 + 1 + 1 + 1) (own_w x10) s_x23_0)
    (Bd : BodyLoose p l x (head1 (Jvm.Cond.code x code maxLocals ret :: ws) room_1) code maxLocals ret e s m #[(.long q0), (.long q1), (.long q2), (.int p3)] below meth c s₁) (hml : c.maxLocals = 26) (hZ : Z.Warmed39 s.vm) (T0 : State) {locs : List Loc} (X0 : Stand p l e room_1 s m #[(.long q0), (.long q1), (.long q2), (.int p3)] below meth c T0 locs 24 107) {h : Heap} (e0 : T0.heap = h) (SZ0 : n0 ≤ h.size) (NF0 : Fr n0 locs) (Jo : own_Rv Z h x18 (3 : Int32) [.ref rx18a, .ref rx18b, .ref rx18c]) (Jp : own_G Z h rx18a (own_w x10) x12 (0 : Int32) x12 (0 : Int32)) (Jq : own_G Z h rx18b (own_w x10) x14 (0 : Int32) x14 (0 : Int32)) (Jr : own_G Z h rx18c (own_w x10) x16 (0 : Int32) x16 (0 : Int32)) (M8 : own_Rv Z h x19 (3 : Int32) [.ref rx19a, .ref rx19b, .ref rx19c]) (M9 : own_G Z h rx19a (own_w x10) x13 (0 : Int32) x13 (0 : Int32)) (Ma : own_G Z h rx19b (own_w x10) x15 (0 : Int32) x15 (0 : Int32)) (Mb : own_G Z h rx19c (own_w x10) x17 (0 : Int32) x17 (0 : Int32)) (Ua : own_Iv Z h x20 (3 : Int32) [(0 : Int32), (1 : Int32), (2 : Int32)]) (W_x23 : own_V Z h n0 x23 s_x23_0) (Js : n0 ≤ x23) (U0 : x18 < x23) (U1 : x19 < x23) (Uw : x20 < x23) (U2 : rx18a < x23) (U3 : rx18b < x23) (U4 : rx18c < x23) (U5 : rx19a < x23) (U6 : rx19b < x23) (U7 : rx19c < x23) :
    own_Go p e below s room_1.cells room_1.slots (R0 (f0_267a q0 q1 q2 p3 x7 x8 x10 x11 x12 x13 x14 x15 x16 x17 s_x23_0)) (K0 Z q0 q1 q2 p3  h0 n0 (f0_267a q0 q1 q2 p3 x7 x8 x10 x11 x12 x13 x14 x15 x16 x17 s_x23_0)) (T0.setTop (mkF m 267 #[lv q0, se, lv q1, se, lv q2, se, iv p3, iv x7, iv x8, iv x9, iv x10, iv x11, iv x12, iv x13, iv x14, iv x15, iv x16, iv x17, rv x18, rv x19, rv x20, iv 0, rv x20, rv x23, uu, uu] [])) := by
  have hx := Bd.exec
  have hby := Bd.bytes
  have hown : s.vm.findClass cL = some m.cls := findClass_of_methodNamed Bd.named
  have hnm := (name_of_methodNamed Bd.named Bd.method).1
  unfold f0_267a
  refine op T0 (mkF m 279 #[lv q0, se, lv q1, se, lv q2, se, iv p3, iv x7, iv x8, iv x9, iv x10, iv x11, iv x12, iv x13, iv x14, iv x15, iv x16, iv x17, rv x18, rv x19, rv x20, iv 0, rv x20, rv x23, uu, uu] [(.int x11), (.ref x20), (.ref x19), (.ref x18), (.int x8), (.ref x23)]) (fun _ k => XS.aload X0.here hx rfl (hb hby at_267) rfl rfl (XS.iload X0.here hx rfl (hb hby at_269) rfl (XS.aload X0.here hx rfl (hb hby at_271) rfl rfl (XS.aload X0.here hx rfl (hb hby at_273) rfl rfl (XS.aload X0.here hx rfl (hb hby at_275) rfl rfl (XS.iload X0.here hx rfl (hb hby at_277) rfl k)))))) ?_
  obtain ⟨_, _, ⟨T1, L1, k1, n1⟩, -, X1', ⟨Lc1, hQ1, l1, y1, z1⟩, st'⟩ := Jvm.LawKit.callS X0 hx (y := y17) hown (mvT hZ (ow hw 67 rfl)) (mvT hZ (ow hw 68 rfl)) (mvT hZ (ow hw 2 rfl)) (mvT hZ (ow hw 69 rfl)) (by decide) (backOf (W := 0) (rmfe0 l Z aw hw [] x8 x11 s_x23_0 (own_w x10) x12 x14 x16 x13 x15 x17 x23 x18 x19 x20 rx18a rx18b rx18c rx19a rx19b rx19c h n0 SZ0 W_x23 Jo M8 Ua Jp Jq Jr M9 Ma Mb U0 U1 Uw U2 U3 U4 U5 U6 U7 _ IB (by decide) Js) hZ (ow hw 69 rfl) (ow hw 2 rfl) (by decide) (by decide)) (g := (mkF m 279 #[lv q0, se, lv q1, se, lv q2, se, iv p3, iv x7, iv x8, iv x9, iv x10, iv x11, iv x12, iv x13, iv x14, iv x15, iv x16, iv x17, rv x18, rv x19, rv x20, iv 0, rv x20, rv x23, uu, uu] [(.int x11), (.ref x20), (.ref x19), (.ref x18), (.int x8), (.ref x23)])) rfl (by rw [hml]; rfl) (argsL := [(.ref x23), (.int x8), (.ref x18), (.ref x19), (.ref x20), (.int x11)]) (rest := []) (lenOf own_pd13 rfl) rfl (by show 2 * 0 + _ ≤ _; exact Nat.le_of_eq rfl) (hb hby at_279) (fun _ _ => ⟨rfl, e0, (by decide : 24 + 0 ≤ _), (by decide : 107 + 0 ≤ _)⟩)
  dsimp only [Pt.U, Pt.locs, Pt.cells, Pt.slots] at X1' l1 y1 z1 st' hQ1
  subst l1 y1 z1
  obtain ⟨rfl, NFq1, KPq1, p1_0⟩ := hQ1
  have X1 : Stand p l e room_1 s m #[(.long q0), (.long q1), (.long q2), (.int p3)] below meth c T1 _ 24 107 := X1'
  have NF1 := Fr.app NF0 NFq1
  have SZ1 : n0 ≤ T1.heap.size := Nat.le_trans SZ0 KPq1.size
  have f2 := Jo.low KPq1 U0
  have f3 := Jp.low KPq1 U2
  have f4 := Jq.low KPq1 U3
  have f5 := Jr.low KPq1 U4
  have f6 := M8.low KPq1 U1
  have f7 := M9.low KPq1 U5
  have f8 := Ma.low KPq1 U6
  have f9 := Mb.low KPq1 U7
  have f10 := Ua.low KPq1 Uw
  refine op T1 (mkF m 282 #[lv q0, se, lv q1, se, lv q2, se, iv p3, iv x7, iv x8, iv x9, iv x10, iv x11, iv x12, iv x13, iv x14, iv x15, iv x16, iv x17, rv x18, rv x19, rv x20, iv 0, rv x20, rv x23, uu, uu] []) (fun _ k => st' _ k) ?_
  exact g0_282 hw q0 q1 q2 p3  x7 x8 x9 x10 x11 x12 x13 x14 x15 x16 x17 x18 x19 x20 (0 : Int32) x20 x23 (ffe0_0 x8 x11 s_x23_0 (own_w x10) x12 x14 x16 x13 x15 x17) (by first | exact own_Sfe0 IB (by decide) | exact own_Sfe1 IB (by decide)) Bd hml hZ T1 (X1.mono (by decide) (by decide)) (rfl : T1.heap = T1.heap) SZ1 NF1 p1_0 Js
def f0_262b (q0 q1 q2 : Int64) (p3 x7 x8 x10 x11 x12 x13 x14 x15 x16 x17 : Int32) (s_x23_0 : St) : Int32 := (f0_267b q0 q1 q2 p3 x7 x8 x10 x11 x12 x13 x14 x15 x16 x17 (sal s_x23_0))
set_option maxRecDepth 65536 in
set_option maxHeartbeats 40000000 in
theorem g0_262b (hw : HW aw Z) {h0 : Heap} {n0 : Nat} (q0 q1 q2 : Int64) (p3 x7 x8 x9 x10 x11 x12 x13 x14 x15 x16 x17 : Int32) (x18 x19 x20 x22 x23 rx18a rx18b rx18c rx19a rx19b rx19c : Addr) (s_x23_0 : St) (HX : x10 = 0 ∨ x10 = 1) (IB : own_BS (0 + 1 + 1 + 1) (own_w x10) s_x23_0)
    (Bd : BodyLoose p l x (head1 (Jvm.Cond.code x code maxLocals ret :: ws) room_1) code maxLocals ret e s m #[(.long q0), (.long q1), (.long q2), (.int p3)] below meth c s₁) (hml : c.maxLocals = 26) (hZ : Z.Warmed39 s.vm) (T0 : State) {locs : List Loc} (X0 : Stand p l e room_1 s m #[(.long q0), (.long q1), (.long q2), (.int p3)] below meth c T0 locs 21 62) {h : Heap} (e0 : T0.heap = h) (SZ0 : n0 ≤ h.size) (NF0 : Fr n0 locs) (Jo : own_Rv Z h x18 (3 : Int32) [.ref rx18a, .ref rx18b, .ref rx18c]) (Jp : own_G Z h rx18a (own_w x10) x12 (0 : Int32) x12 (0 : Int32)) (Jq : own_G Z h rx18b (own_w x10) x14 (0 : Int32) x14 (0 : Int32)) (Jr : own_G Z h rx18c (own_w x10) x16 (0 : Int32) x16 (0 : Int32)) (M8 : own_Rv Z h x19 (3 : Int32) [.ref rx19a, .ref rx19b, .ref rx19c]) (M9 : own_G Z h rx19a (own_w x10) x13 (0 : Int32) x13 (0 : Int32)) (Ma : own_G Z h rx19b (own_w x10) x15 (0 : Int32) x15 (0 : Int32)) (Mb : own_G Z h rx19c (own_w x10) x17 (0 : Int32) x17 (0 : Int32)) (A_x22 : own_Iv Z h x22 (3 : Int32) [(1 : Int32), (0 : Int32), (2 : Int32)]) (W_x23 : own_V Z h n0 x23 s_x23_0) (Js : n0 ≤ x23) (U0 : x18 < x23) (U1 : x19 < x23) (Wu : x22 < x23) (U2 : rx18a < x23) (U3 : rx18b < x23) (U4 : rx18c < x23) (U5 : rx19a < x23) (U6 : rx19b < x23) (U7 : rx19c < x23) :
    own_Go p e below s room_1.cells room_1.slots (R0 (f0_262b q0 q1 q2 p3 x7 x8 x10 x11 x12 x13 x14 x15 x16 x17 s_x23_0)) (K0 Z q0 q1 q2 p3  h0 n0 (f0_262b q0 q1 q2 p3 x7 x8 x10 x11 x12 x13 x14 x15 x16 x17 s_x23_0)) (T0.setTop (mkF m 262 #[lv q0, se, lv q1, se, lv q2, se, iv p3, iv x7, iv x8, iv x9, iv x10, iv x11, iv x12, iv x13, iv x14, iv x15, iv x16, iv x17, rv x18, rv x19, rv x20, iv 1, rv x22, rv x23, uu, uu] [])) := by
  have hx := Bd.exec
  have hby := Bd.bytes
  have hown : s.vm.findClass cL = some m.cls := findClass_of_methodNamed Bd.named
  have hnm := (name_of_methodNamed Bd.named Bd.method).1
  unfold f0_262b
  refine op T0 (mkF m 264 #[lv q0, se, lv q1, se, lv q2, se, iv p3, iv x7, iv x8, iv x9, iv x10, iv x11, iv x12, iv x13, iv x14, iv x15, iv x16, iv x17, rv x18, rv x19, rv x20, iv 1, rv x22, rv x23, uu, uu] [(.ref x23)]) (fun _ k => XS.aload X0.here hx rfl (hb hby at_262) rfl rfl k) ?_
  have ex1 := own_V.exa W_x23
  obtain ⟨cq1, kq1, qa1, qb1, qc1⟩ := isOf hZ e0 ex1
  obtain ⟨_, _, ⟨T1, L1, k1, n1⟩, -, X1', ⟨Lc1, hQ1, l1, y1, z1⟩, st'⟩ := X0.virtualBack hx (y := y14) (z := y14) hown (mvT hZ (ow hw 119 rfl)) (mvT hZ (ow hw 120 rfl)) (notFace_of_selects (args := #[]) (mvT hZ (ow hw 122 rfl))) (mvT hZ (ow hw 122 rfl)) (mvT hZ (ow hw 121 rfl)) (by decide) (backOf (W := 0) (rmval l Z aw hw [] s_x23_0 x23 h n0 SZ0 W_x23 _ _ IB (by decide) Js) hZ (ow hw 123 rfl) (ow hw 20 rfl) (by decide) (by decide)) qa1 qc1 (g := (mkF m 264 #[lv q0, se, lv q1, se, lv q2, se, iv p3, iv x7, iv x8, iv x9, iv x10, iv x11, iv x12, iv x13, iv x14, iv x15, iv x16, iv x17, rv x18, rv x19, rv x20, iv 1, rv x22, rv x23, uu, uu] [(.ref x23)])) rfl (by rw [hml]; rfl) (Steps.refl _) (argsL := []) (rest := []) (lenOf own_pd7 rfl) rfl (by show 2 * 0 + _ ≤ _; exact Nat.le_of_eq rfl) (hb hby at_264) (fun _ _ => ⟨rfl, e0, (by decide : 21 + 4 ≤ _), (by decide : 62 + 48 ≤ _)⟩)
  dsimp only [Pt.U, Pt.locs, Pt.cells, Pt.slots] at X1' l1 y1 z1 st' hQ1
  subst l1 y1 z1
  obtain ⟨rfl, NFq1, KPq1, p1_0⟩ := hQ1
  have X1 : Stand p l e room_1 s m #[(.long q0), (.long q1), (.long q2), (.int p3)] below meth c T1 _ 25 110 := X1'
  have NF1 := Fr.app NF0 NFq1
  have SZ1 : n0 ≤ T1.heap.size := Nat.le_trans SZ0 KPq1.size
  have f2 := Jo.low KPq1 U0
  have f3 := Jp.low KPq1 U2
  have f4 := Jq.low KPq1 U3
  have f5 := Jr.low KPq1 U4
  have f6 := M8.low KPq1 U1
  have f7 := M9.low KPq1 U5
  have f8 := Ma.low KPq1 U6
  have f9 := Mb.low KPq1 U7
  have f10 := A_x22.low KPq1 Wu
  refine op T1 (mkF m 267 #[lv q0, se, lv q1, se, lv q2, se, iv p3, iv x7, iv x8, iv x9, iv x10, iv x11, iv x12, iv x13, iv x14, iv x15, iv x16, iv x17, rv x18, rv x19, rv x20, iv 1, rv x22, rv x23, uu, uu] []) (fun _ k => st'.trans k) ?_
  exact g0_267b hw q0 q1 q2 p3  x7 x8 x9 x10 x11 x12 x13 x14 x15 x16 x17 x18 x19 x20 x22 x23 rx18a rx18b rx18c rx19a rx19b rx19c (sal s_x23_0) HX (own_Sal IB (by decide)) Bd hml hZ T1 X1 (rfl : T1.heap = T1.heap) SZ1 NF1 f2 f3 f4 f5 f6 f7 f8 f9 f10 p1_0 Js U0 U1 Wu U2 U3 U4 U5 U6 U7
def f0_262a (q0 q1 q2 : Int64) (p3 x7 x8 x10 x11 x12 x13 x14 x15 x16 x17 : Int32) (s_x23_0 : St) : Int32 := (f0_267a q0 q1 q2 p3 x7 x8 x10 x11 x12 x13 x14 x15 x16 x17 (sal s_x23_0))
set_option maxRecDepth 65536 in
set_option maxHeartbeats 40000000 in
theorem g0_262a (hw : HW aw Z) {h0 : Heap} {n0 : Nat} (q0 q1 q2 : Int64) (p3 x7 x8 x9 x10 x11 x12 x13 x14 x15 x16 x17 : Int32) (x18 x19 x20 x23 rx18a rx18b rx18c rx19a rx19b rx19c : Addr) (s_x23_0 : St) (HX : x10 = 0 ∨ x10 = 1) (IB : own_BS (0 + 1 + 1 + 1) (own_w x10) s_x23_0)
    (Bd : BodyLoose p l x (head1 (Jvm.Cond.code x code maxLocals ret :: ws) room_1) code maxLocals ret e s m #[(.long q0), (.long q1), (.long q2), (.int p3)] below meth c s₁) (hml : c.maxLocals = 26) (hZ : Z.Warmed39 s.vm) (T0 : State) {locs : List Loc} (X0 : Stand p l e room_1 s m #[(.long q0), (.long q1), (.long q2), (.int p3)] below meth c T0 locs 20 59) {h : Heap} (e0 : T0.heap = h) (SZ0 : n0 ≤ h.size) (NF0 : Fr n0 locs) (Jo : own_Rv Z h x18 (3 : Int32) [.ref rx18a, .ref rx18b, .ref rx18c]) (Jp : own_G Z h rx18a (own_w x10) x12 (0 : Int32) x12 (0 : Int32)) (Jq : own_G Z h rx18b (own_w x10) x14 (0 : Int32) x14 (0 : Int32)) (Jr : own_G Z h rx18c (own_w x10) x16 (0 : Int32) x16 (0 : Int32)) (M8 : own_Rv Z h x19 (3 : Int32) [.ref rx19a, .ref rx19b, .ref rx19c]) (M9 : own_G Z h rx19a (own_w x10) x13 (0 : Int32) x13 (0 : Int32)) (Ma : own_G Z h rx19b (own_w x10) x15 (0 : Int32) x15 (0 : Int32)) (Mb : own_G Z h rx19c (own_w x10) x17 (0 : Int32) x17 (0 : Int32)) (Ua : own_Iv Z h x20 (3 : Int32) [(0 : Int32), (1 : Int32), (2 : Int32)]) (W_x23 : own_V Z h n0 x23 s_x23_0) (Js : n0 ≤ x23) (U0 : x18 < x23) (U1 : x19 < x23) (Uw : x20 < x23) (U2 : rx18a < x23) (U3 : rx18b < x23) (U4 : rx18c < x23) (U5 : rx19a < x23) (U6 : rx19b < x23) (U7 : rx19c < x23) :
    own_Go p e below s room_1.cells room_1.slots (R0 (f0_262a q0 q1 q2 p3 x7 x8 x10 x11 x12 x13 x14 x15 x16 x17 s_x23_0)) (K0 Z q0 q1 q2 p3  h0 n0 (f0_262a q0 q1 q2 p3 x7 x8 x10 x11 x12 x13 x14 x15 x16 x17 s_x23_0)) (T0.setTop (mkF m 262 #[lv q0, se, lv q1, se, lv q2, se, iv p3, iv x7, iv x8, iv x9, iv x10, iv x11, iv x12, iv x13, iv x14, iv x15, iv x16, iv x17, rv x18, rv x19, rv x20, iv 0, rv x20, rv x23, uu, uu] [])) := by
  have hx := Bd.exec
  have hby := Bd.bytes
  have hown : s.vm.findClass cL = some m.cls := findClass_of_methodNamed Bd.named
  have hnm := (name_of_methodNamed Bd.named Bd.method).1
  unfold f0_262a
  refine op T0 (mkF m 264 #[lv q0, se, lv q1, se, lv q2, se, iv p3, iv x7, iv x8, iv x9, iv x10, iv x11, iv x12, iv x13, iv x14, iv x15, iv x16, iv x17, rv x18, rv x19, rv x20, iv 0, rv x20, rv x23, uu, uu] [(.ref x23)]) (fun _ k => XS.aload X0.here hx rfl (hb hby at_262) rfl rfl k) ?_
  have ex1 := own_V.exa W_x23
  obtain ⟨cq1, kq1, qa1, qb1, qc1⟩ := isOf hZ e0 ex1
  obtain ⟨_, _, ⟨T1, L1, k1, n1⟩, -, X1', ⟨Lc1, hQ1, l1, y1, z1⟩, st'⟩ := X0.virtualBack hx (y := y14) (z := y14) hown (mvT hZ (ow hw 119 rfl)) (mvT hZ (ow hw 120 rfl)) (notFace_of_selects (args := #[]) (mvT hZ (ow hw 122 rfl))) (mvT hZ (ow hw 122 rfl)) (mvT hZ (ow hw 121 rfl)) (by decide) (backOf (W := 0) (rmval l Z aw hw [] s_x23_0 x23 h n0 SZ0 W_x23 _ _ IB (by decide) Js) hZ (ow hw 123 rfl) (ow hw 20 rfl) (by decide) (by decide)) qa1 qc1 (g := (mkF m 264 #[lv q0, se, lv q1, se, lv q2, se, iv p3, iv x7, iv x8, iv x9, iv x10, iv x11, iv x12, iv x13, iv x14, iv x15, iv x16, iv x17, rv x18, rv x19, rv x20, iv 0, rv x20, rv x23, uu, uu] [(.ref x23)])) rfl (by rw [hml]; rfl) (Steps.refl _) (argsL := []) (rest := []) (lenOf own_pd7 rfl) rfl (by show 2 * 0 + _ ≤ _; exact Nat.le_of_eq rfl) (hb hby at_264) (fun _ _ => ⟨rfl, e0, (by decide : 20 + 4 ≤ _), (by decide : 59 + 48 ≤ _)⟩)
  dsimp only [Pt.U, Pt.locs, Pt.cells, Pt.slots] at X1' l1 y1 z1 st' hQ1
  subst l1 y1 z1
  obtain ⟨rfl, NFq1, KPq1, p1_0⟩ := hQ1
  have X1 : Stand p l e room_1 s m #[(.long q0), (.long q1), (.long q2), (.int p3)] below meth c T1 _ 24 107 := X1'
  have NF1 := Fr.app NF0 NFq1
  have SZ1 : n0 ≤ T1.heap.size := Nat.le_trans SZ0 KPq1.size
  have f2 := Jo.low KPq1 U0
  have f3 := Jp.low KPq1 U2
  have f4 := Jq.low KPq1 U3
  have f5 := Jr.low KPq1 U4
  have f6 := M8.low KPq1 U1
  have f7 := M9.low KPq1 U5
  have f8 := Ma.low KPq1 U6
  have f9 := Mb.low KPq1 U7
  have f10 := Ua.low KPq1 Uw
  refine op T1 (mkF m 267 #[lv q0, se, lv q1, se, lv q2, se, iv p3, iv x7, iv x8, iv x9, iv x10, iv x11, iv x12, iv x13, iv x14, iv x15, iv x16, iv x17, rv x18, rv x19, rv x20, iv 0, rv x20, rv x23, uu, uu] []) (fun _ k => st'.trans k) ?_
  exact g0_267a hw q0 q1 q2 p3  x7 x8 x9 x10 x11 x12 x13 x14 x15 x16 x17 x18 x19 x20 x23 rx18a rx18b rx18c rx19a rx19b rx19c (sal s_x23_0) HX (own_Sal IB (by decide)) Bd hml hZ T1 X1 (rfl : T1.heap = T1.heap) SZ1 NF1 f2 f3 f4 f5 f6 f7 f8 f9 f10 p1_0 Js U0 U1 Uw U2 U3 U4 U5 U6 U7
def f0_247b (q0 q1 q2 : Int64) (p3 x7 x8 x10 x11 x12 x13 x14 x15 x16 x17 : Int32) (s_x23_0 : St) : Int32 := (f0_262b q0 q1 q2 p3 x7 x8 x10 x11 x12 x13 x14 x15 x16 x17 (ffe0_0 x7 x11 s_x23_0 (own_w x10) x12 x14 x16 x13 x15 x17))
set_option maxRecDepth 65536 in
set_option maxHeartbeats 40000000 in
theorem g0_247b (hw : HW aw Z) {h0 : Heap} {n0 : Nat} (q0 q1 q2 : Int64) (p3 x7 x8 x9 x10 x11 x12 x13 x14 x15 x16 x17 : Int32) (x18 x19 x20 x22 x23 rx18a rx18b rx18c rx19a rx19b rx19c : Addr) (s_x23_0 : St) (HX : x10 = 0 ∨ x10 = 1) (IB : own_BS (0) (own_w x10) s_x23_0)
    (Bd : BodyLoose p l x (head1 (Jvm.Cond.code x code maxLocals ret :: ws) room_1) code maxLocals ret e s m #[(.long q0), (.long q1), (.long q2), (.int p3)] below meth c s₁) (hml : c.maxLocals = 26) (hZ : Z.Warmed39 s.vm) (T0 : State) {locs : List Loc} (X0 : Stand p l e room_1 s m #[(.long q0), (.long q1), (.long q2), (.int p3)] below meth c T0 locs 21 62) {h : Heap} (e0 : T0.heap = h) (SZ0 : n0 ≤ h.size) (NF0 : Fr n0 locs) (Jo : own_Rv Z h x18 (3 : Int32) [.ref rx18a, .ref rx18b, .ref rx18c]) (Jp : own_G Z h rx18a (own_w x10) x12 (0 : Int32) x12 (0 : Int32)) (Jq : own_G Z h rx18b (own_w x10) x14 (0 : Int32) x14 (0 : Int32)) (Jr : own_G Z h rx18c (own_w x10) x16 (0 : Int32) x16 (0 : Int32)) (M8 : own_Rv Z h x19 (3 : Int32) [.ref rx19a, .ref rx19b, .ref rx19c]) (M9 : own_G Z h rx19a (own_w x10) x13 (0 : Int32) x13 (0 : Int32)) (Ma : own_G Z h rx19b (own_w x10) x15 (0 : Int32) x15 (0 : Int32)) (Mb : own_G Z h rx19c (own_w x10) x17 (0 : Int32) x17 (0 : Int32)) (Ua : own_Iv Z h x20 (3 : Int32) [(0 : Int32), (1 : Int32), (2 : Int32)]) (A_x22 : own_Iv Z h x22 (3 : Int32) [(1 : Int32), (0 : Int32), (2 : Int32)]) (W_x23 : own_V Z h n0 x23 s_x23_0) (Js : n0 ≤ x23) (U0 : x18 < x23) (U1 : x19 < x23) (Uw : x20 < x23) (Wu : x22 < x23) (U2 : rx18a < x23) (U3 : rx18b < x23) (U4 : rx18c < x23) (U5 : rx19a < x23) (U6 : rx19b < x23) (U7 : rx19c < x23) :
    own_Go p e below s room_1.cells room_1.slots (R0 (f0_247b q0 q1 q2 p3 x7 x8 x10 x11 x12 x13 x14 x15 x16 x17 s_x23_0)) (K0 Z q0 q1 q2 p3  h0 n0 (f0_247b q0 q1 q2 p3 x7 x8 x10 x11 x12 x13 x14 x15 x16 x17 s_x23_0)) (T0.setTop (mkF m 247 #[lv q0, se, lv q1, se, lv q2, se, iv p3, iv x7, iv x8, iv x9, iv x10, iv x11, iv x12, iv x13, iv x14, iv x15, iv x16, iv x17, rv x18, rv x19, rv x20, iv 1, rv x22, rv x23, uu, uu] [])) := by
  have hx := Bd.exec
  have hby := Bd.bytes
  have hown : s.vm.findClass cL = some m.cls := findClass_of_methodNamed Bd.named
  have hnm := (name_of_methodNamed Bd.named Bd.method).1
  unfold f0_247b
  refine op T0 (mkF m 259 #[lv q0, se, lv q1, se, lv q2, se, iv p3, iv x7, iv x8, iv x9, iv x10, iv x11, iv x12, iv x13, iv x14, iv x15, iv x16, iv x17, rv x18, rv x19, rv x20, iv 1, rv x22, rv x23, uu, uu] [(.int x11), (.ref x20), (.ref x19), (.ref x18), (.int x7), (.ref x23)]) (fun _ k => XS.aload X0.here hx rfl (hb hby at_247) rfl rfl (XS.iload X0.here hx rfl (hb hby at_249) rfl (XS.aload X0.here hx rfl (hb hby at_251) rfl rfl (XS.aload X0.here hx rfl (hb hby at_253) rfl rfl (XS.aload X0.here hx rfl (hb hby at_255) rfl rfl (XS.iload X0.here hx rfl (hb hby at_257) rfl k)))))) ?_
  obtain ⟨_, _, ⟨T1, L1, k1, n1⟩, -, X1', ⟨Lc1, hQ1, l1, y1, z1⟩, st'⟩ := Jvm.LawKit.callS X0 hx (y := y17) hown (mvT hZ (ow hw 67 rfl)) (mvT hZ (ow hw 68 rfl)) (mvT hZ (ow hw 2 rfl)) (mvT hZ (ow hw 69 rfl)) (by decide) (backOf (W := 0) (rmfe0 l Z aw hw [] x7 x11 s_x23_0 (own_w x10) x12 x14 x16 x13 x15 x17 x23 x18 x19 x20 rx18a rx18b rx18c rx19a rx19b rx19c h n0 SZ0 W_x23 Jo M8 Ua Jp Jq Jr M9 Ma Mb U0 U1 Uw U2 U3 U4 U5 U6 U7 _ IB (by decide) Js) hZ (ow hw 69 rfl) (ow hw 2 rfl) (by decide) (by decide)) (g := (mkF m 259 #[lv q0, se, lv q1, se, lv q2, se, iv p3, iv x7, iv x8, iv x9, iv x10, iv x11, iv x12, iv x13, iv x14, iv x15, iv x16, iv x17, rv x18, rv x19, rv x20, iv 1, rv x22, rv x23, uu, uu] [(.int x11), (.ref x20), (.ref x19), (.ref x18), (.int x7), (.ref x23)])) rfl (by rw [hml]; rfl) (argsL := [(.ref x23), (.int x7), (.ref x18), (.ref x19), (.ref x20), (.int x11)]) (rest := []) (lenOf own_pd13 rfl) rfl (by show 2 * 0 + _ ≤ _; exact Nat.le_of_eq rfl) (hb hby at_259) (fun _ _ => ⟨rfl, e0, (by decide : 21 + 0 ≤ _), (by decide : 62 + 0 ≤ _)⟩)
  dsimp only [Pt.U, Pt.locs, Pt.cells, Pt.slots] at X1' l1 y1 z1 st' hQ1
  subst l1 y1 z1
  obtain ⟨rfl, NFq1, KPq1, p1_0⟩ := hQ1
  have X1 : Stand p l e room_1 s m #[(.long q0), (.long q1), (.long q2), (.int p3)] below meth c T1 _ 21 62 := X1'
  have NF1 := Fr.app NF0 NFq1
  have SZ1 : n0 ≤ T1.heap.size := Nat.le_trans SZ0 KPq1.size
  have f2 := Jo.low KPq1 U0
  have f3 := Jp.low KPq1 U2
  have f4 := Jq.low KPq1 U3
  have f5 := Jr.low KPq1 U4
  have f6 := M8.low KPq1 U1
  have f7 := M9.low KPq1 U5
  have f8 := Ma.low KPq1 U6
  have f9 := Mb.low KPq1 U7
  have f10 := Ua.low KPq1 Uw
  have f11 := A_x22.low KPq1 Wu
  refine op T1 (mkF m 262 #[lv q0, se, lv q1, se, lv q2, se, iv p3, iv x7, iv x8, iv x9, iv x10, iv x11, iv x12, iv x13, iv x14, iv x15, iv x16, iv x17, rv x18, rv x19, rv x20, iv 1, rv x22, rv x23, uu, uu] []) (fun _ k => st' _ k) ?_
  exact g0_262b hw q0 q1 q2 p3  x7 x8 x9 x10 x11 x12 x13 x14 x15 x16 x17 x18 x19 x20 x22 x23 rx18a rx18b rx18c rx19a rx19b rx19c (ffe0_0 x7 x11 s_x23_0 (own_w x10) x12 x14 x16 x13 x15 x17) HX (own_Sfe0 IB (by decide)) Bd hml hZ T1 X1 (rfl : T1.heap = T1.heap) SZ1 NF1 f2 f3 f4 f5 f6 f7 f8 f9 f11 p1_0 Js U0 U1 Wu U2 U3 U4 U5 U6 U7
def f0_247a (q0 q1 q2 : Int64) (p3 x7 x8 x10 x11 x12 x13 x14 x15 x16 x17 : Int32) (s_x23_0 : St) : Int32 := (f0_262a q0 q1 q2 p3 x7 x8 x10 x11 x12 x13 x14 x15 x16 x17 (ffe0_0 x7 x11 s_x23_0 (own_w x10) x12 x14 x16 x13 x15 x17))
set_option maxRecDepth 65536 in
set_option maxHeartbeats 40000000 in
theorem g0_247a (hw : HW aw Z) {h0 : Heap} {n0 : Nat} (q0 q1 q2 : Int64) (p3 x7 x8 x9 x10 x11 x12 x13 x14 x15 x16 x17 : Int32) (x18 x19 x20 x23 rx18a rx18b rx18c rx19a rx19b rx19c : Addr) (s_x23_0 : St) (HX : x10 = 0 ∨ x10 = 1) (IB : own_BS (0) (own_w x10) s_x23_0)
    (Bd : BodyLoose p l x (head1 (Jvm.Cond.code x code maxLocals ret :: ws) room_1) code maxLocals ret e s m #[(.long q0), (.long q1), (.long q2), (.int p3)] below meth c s₁) (hml : c.maxLocals = 26) (hZ : Z.Warmed39 s.vm) (T0 : State) {locs : List Loc} (X0 : Stand p l e room_1 s m #[(.long q0), (.long q1), (.long q2), (.int p3)] below meth c T0 locs 20 59) {h : Heap} (e0 : T0.heap = h) (SZ0 : n0 ≤ h.size) (NF0 : Fr n0 locs) (Jo : own_Rv Z h x18 (3 : Int32) [.ref rx18a, .ref rx18b, .ref rx18c]) (Jp : own_G Z h rx18a (own_w x10) x12 (0 : Int32) x12 (0 : Int32)) (Jq : own_G Z h rx18b (own_w x10) x14 (0 : Int32) x14 (0 : Int32)) (Jr : own_G Z h rx18c (own_w x10) x16 (0 : Int32) x16 (0 : Int32)) (M8 : own_Rv Z h x19 (3 : Int32) [.ref rx19a, .ref rx19b, .ref rx19c]) (M9 : own_G Z h rx19a (own_w x10) x13 (0 : Int32) x13 (0 : Int32)) (Ma : own_G Z h rx19b (own_w x10) x15 (0 : Int32) x15 (0 : Int32)) (Mb : own_G Z h rx19c (own_w x10) x17 (0 : Int32) x17 (0 : Int32)) (Ua : own_Iv Z h x20 (3 : Int32) [(0 : Int32), (1 : Int32), (2 : Int32)]) (W_x23 : own_V Z h n0 x23 s_x23_0) (Js : n0 ≤ x23) (U0 : x18 < x23) (U1 : x19 < x23) (Uw : x20 < x23) (U2 : rx18a < x23) (U3 : rx18b < x23) (U4 : rx18c < x23) (U5 : rx19a < x23) (U6 : rx19b < x23) (U7 : rx19c < x23) :
    own_Go p e below s room_1.cells room_1.slots (R0 (f0_247a q0 q1 q2 p3 x7 x8 x10 x11 x12 x13 x14 x15 x16 x17 s_x23_0)) (K0 Z q0 q1 q2 p3  h0 n0 (f0_247a q0 q1 q2 p3 x7 x8 x10 x11 x12 x13 x14 x15 x16 x17 s_x23_0)) (T0.setTop (mkF m 247 #[lv q0, se, lv q1, se, lv q2, se, iv p3, iv x7, iv x8, iv x9, iv x10, iv x11, iv x12, iv x13, iv x14, iv x15, iv x16, iv x17, rv x18, rv x19, rv x20, iv 0, rv x20, rv x23, uu, uu] [])) := by
  have hx := Bd.exec
  have hby := Bd.bytes
  have hown : s.vm.findClass cL = some m.cls := findClass_of_methodNamed Bd.named
  have hnm := (name_of_methodNamed Bd.named Bd.method).1
  unfold f0_247a
  refine op T0 (mkF m 259 #[lv q0, se, lv q1, se, lv q2, se, iv p3, iv x7, iv x8, iv x9, iv x10, iv x11, iv x12, iv x13, iv x14, iv x15, iv x16, iv x17, rv x18, rv x19, rv x20, iv 0, rv x20, rv x23, uu, uu] [(.int x11), (.ref x20), (.ref x19), (.ref x18), (.int x7), (.ref x23)]) (fun _ k => XS.aload X0.here hx rfl (hb hby at_247) rfl rfl (XS.iload X0.here hx rfl (hb hby at_249) rfl (XS.aload X0.here hx rfl (hb hby at_251) rfl rfl (XS.aload X0.here hx rfl (hb hby at_253) rfl rfl (XS.aload X0.here hx rfl (hb hby at_255) rfl rfl (XS.iload X0.here hx rfl (hb hby at_257) rfl k)))))) ?_
  obtain ⟨_, _, ⟨T1, L1, k1, n1⟩, -, X1', ⟨Lc1, hQ1, l1, y1, z1⟩, st'⟩ := Jvm.LawKit.callS X0 hx (y := y17) hown (mvT hZ (ow hw 67 rfl)) (mvT hZ (ow hw 68 rfl)) (mvT hZ (ow hw 2 rfl)) (mvT hZ (ow hw 69 rfl)) (by decide) (backOf (W := 0) (rmfe0 l Z aw hw [] x7 x11 s_x23_0 (own_w x10) x12 x14 x16 x13 x15 x17 x23 x18 x19 x20 rx18a rx18b rx18c rx19a rx19b rx19c h n0 SZ0 W_x23 Jo M8 Ua Jp Jq Jr M9 Ma Mb U0 U1 Uw U2 U3 U4 U5 U6 U7 _ IB (by decide) Js) hZ (ow hw 69 rfl) (ow hw 2 rfl) (by decide) (by decide)) (g := (mkF m 259 #[lv q0, se, lv q1, se, lv q2, se, iv p3, iv x7, iv x8, iv x9, iv x10, iv x11, iv x12, iv x13, iv x14, iv x15, iv x16, iv x17, rv x18, rv x19, rv x20, iv 0, rv x20, rv x23, uu, uu] [(.int x11), (.ref x20), (.ref x19), (.ref x18), (.int x7), (.ref x23)])) rfl (by rw [hml]; rfl) (argsL := [(.ref x23), (.int x7), (.ref x18), (.ref x19), (.ref x20), (.int x11)]) (rest := []) (lenOf own_pd13 rfl) rfl (by show 2 * 0 + _ ≤ _; exact Nat.le_of_eq rfl) (hb hby at_259) (fun _ _ => ⟨rfl, e0, (by decide : 20 + 0 ≤ _), (by decide : 59 + 0 ≤ _)⟩)
  dsimp only [Pt.U, Pt.locs, Pt.cells, Pt.slots] at X1' l1 y1 z1 st' hQ1
  subst l1 y1 z1
  obtain ⟨rfl, NFq1, KPq1, p1_0⟩ := hQ1
  have X1 : Stand p l e room_1 s m #[(.long q0), (.long q1), (.long q2), (.int p3)] below meth c T1 _ 20 59 := X1'
  have NF1 := Fr.app NF0 NFq1
  have SZ1 : n0 ≤ T1.heap.size := Nat.le_trans SZ0 KPq1.size
  have f2 := Jo.low KPq1 U0
  have f3 := Jp.low KPq1 U2
  have f4 := Jq.low KPq1 U3
  have f5 := Jr.low KPq1 U4
  have f6 := M8.low KPq1 U1
  have f7 := M9.low KPq1 U5
  have f8 := Ma.low KPq1 U6
  have f9 := Mb.low KPq1 U7
  have f10 := Ua.low KPq1 Uw
  refine op T1 (mkF m 262 #[lv q0, se, lv q1, se, lv q2, se, iv p3, iv x7, iv x8, iv x9, iv x10, iv x11, iv x12, iv x13, iv x14, iv x15, iv x16, iv x17, rv x18, rv x19, rv x20, iv 0, rv x20, rv x23, uu, uu] []) (fun _ k => st' _ k) ?_
  exact g0_262a hw q0 q1 q2 p3  x7 x8 x9 x10 x11 x12 x13 x14 x15 x16 x17 x18 x19 x20 x23 rx18a rx18b rx18c rx19a rx19b rx19c (ffe0_0 x7 x11 s_x23_0 (own_w x10) x12 x14 x16 x13 x15 x17) HX (own_Sfe0 IB (by decide)) Bd hml hZ T1 X1 (rfl : T1.heap = T1.heap) SZ1 NF1 f2 f3 f4 f5 f6 f7 f8 f9 f10 p1_0 Js U0 U1 Uw U2 U3 U4 U5 U6 U7
def f0_201b (q0 q1 q2 : Int64) (p3 x7 x8 x10 x11 x12 x13 x14 x15 x16 x17 : Int32) : Int32 := (if x10 = (0 : Int32) then (f0_247b q0 q1 q2 p3 x7 x8 x10 x11 x12 x13 x14 x15 x16 x17 (zS (1 : Int32))) else (f0_247b q0 q1 q2 p3 x7 x8 x10 x11 x12 x13 x14 x15 x16 x17 (zS (4 : Int32))))
set_option maxRecDepth 65536 in
set_option maxHeartbeats 40000000 in
theorem g0_201b (hw : HW aw Z) {h0 : Heap} {n0 : Nat} (q0 q1 q2 : Int64) (p3 x7 x8 x9 x10 x11 x12 x13 x14 x15 x16 x17 : Int32) (x18 x19 x20 rx18a rx18b rx18c rx19a rx19b rx19c : Addr) (HX : x10 = 0 ∨ x10 = 1)
    (Bd : BodyLoose p l x (head1 (Jvm.Cond.code x code maxLocals ret :: ws) room_1) code maxLocals ret e s m #[(.long q0), (.long q1), (.long q2), (.int p3)] below meth c s₁) (hml : c.maxLocals = 26) (hZ : Z.Warmed39 s.vm) (T0 : State) {locs : List Loc} (X0 : Stand p l e room_1 s m #[(.long q0), (.long q1), (.long q2), (.int p3)] below meth c T0 locs 9 33) {h : Heap} (e0 : T0.heap = h) (SZ0 : n0 ≤ h.size) (NF0 : Fr n0 locs) (Jo : own_Rv Z h x18 (3 : Int32) [.ref rx18a, .ref rx18b, .ref rx18c]) (Jp : own_G Z h rx18a (own_w x10) x12 (0 : Int32) x12 (0 : Int32)) (Jq : own_G Z h rx18b (own_w x10) x14 (0 : Int32) x14 (0 : Int32)) (Jr : own_G Z h rx18c (own_w x10) x16 (0 : Int32) x16 (0 : Int32)) (M8 : own_Rv Z h x19 (3 : Int32) [.ref rx19a, .ref rx19b, .ref rx19c]) (M9 : own_G Z h rx19a (own_w x10) x13 (0 : Int32) x13 (0 : Int32)) (Ma : own_G Z h rx19b (own_w x10) x15 (0 : Int32) x15 (0 : Int32)) (Mb : own_G Z h rx19c (own_w x10) x17 (0 : Int32) x17 (0 : Int32)) (Ua : own_Iv Z h x20 (3 : Int32) [(0 : Int32), (1 : Int32), (2 : Int32)]) :
    own_Go p e below s room_1.cells room_1.slots (R0 (f0_201b q0 q1 q2 p3 x7 x8 x10 x11 x12 x13 x14 x15 x16 x17)) (K0 Z q0 q1 q2 p3  h0 n0 (f0_201b q0 q1 q2 p3 x7 x8 x10 x11 x12 x13 x14 x15 x16 x17)) (T0.setTop (mkF m 201 #[lv q0, se, lv q1, se, lv q2, se, iv p3, iv x7, iv x8, iv x9, iv x10, iv x11, iv x12, iv x13, iv x14, iv x15, iv x16, iv x17, rv x18, rv x19, rv x20, iv 1, uu, uu, uu, uu] [])) := by
  have hx := Bd.exec
  have hby := Bd.bytes
  have hown : s.vm.findClass cL = some m.cls := findClass_of_methodNamed Bd.named
  have hnm := (name_of_methodNamed Bd.named Bd.method).1
  unfold f0_201b
  refine op T0 (mkF m 203 #[lv q0, se, lv q1, se, lv q2, se, iv p3, iv x7, iv x8, iv x9, iv x10, iv x11, iv x12, iv x13, iv x14, iv x15, iv x16, iv x17, rv x18, rv x19, rv x20, iv 1, uu, uu, uu, uu] [(.int 1)]) (fun _ k => XS.iload X0.here hx rfl (hb hby at_201) rfl k) ?_
  have hd1 : ¬ ((1 : Int32) = (0 : Int32)) := by decide
  refine op T0 (mkF m 207 #[lv q0, se, lv q1, se, lv q2, se, iv p3, iv x7, iv x8, iv x9, iv x10, iv x11, iv x12, iv x13, iv x14, iv x15, iv x16, iv x17, rv x18, rv x19, rv x20, iv 1, uu, uu, uu, uu] [(.int 3)]) (fun _ k => XS.ifNo X0.here hx rfl (hb hby at_203) rfl ((if0 _ _).trans (feq hd1).1) (XS.iconst X0.here hx rfl (hb hby at_206) k)) ?_
  obtain ⟨T2, h2, k2, X2, e2, E2, A2, st'⟩ := newP X0 hx hZ (ow hw 16 rfl) e0 (g := (mkF m 207 #[lv q0, se, lv q1, se, lv q2, se, iv p3, iv x7, iv x8, iv x9, iv x10, iv x11, iv x12, iv x13, iv x14, iv x15, iv x16, iv x17, rv x18, rv x19, rv x20, iv 1, uu, uu, uu, uu] [(.int 3)])) rfl (hb hby at_207) rfl (by decide) (cap := 3) (by decide) (by decide) (by decide) (by decide)
  obtain ⟨b2, g2⟩ : ∃ z, z = h.size := ⟨_, rfl⟩
  rw [← g2] at A2 st'
  have lt_x18_b2 : x18 < b2 := Nat.lt_of_lt_of_le Jo.lt (Nat.le_of_eq g2.symm)
  have G14 : rx18a < b2 := Nat.lt_of_lt_of_le Jp.lt (Nat.le_of_eq g2.symm)
  have G18 : rx18b < b2 := Nat.lt_of_lt_of_le Jq.lt (Nat.le_of_eq g2.symm)
  have G1a : rx18c < b2 := Nat.lt_of_lt_of_le Jr.lt (Nat.le_of_eq g2.symm)
  have lt_x19_b2 : x19 < b2 := Nat.lt_of_lt_of_le M8.lt (Nat.le_of_eq g2.symm)
  have G1b : rx19a < b2 := Nat.lt_of_lt_of_le M9.lt (Nat.le_of_eq g2.symm)
  have G1c : rx19b < b2 := Nat.lt_of_lt_of_le Ma.lt (Nat.le_of_eq g2.symm)
  have G1d : rx19c < b2 := Nat.lt_of_lt_of_le Mb.lt (Nat.le_of_eq g2.symm)
  have lt_x20_b2 : x20 < b2 := Nat.lt_of_lt_of_le Ua.lt (Nat.le_of_eq g2.symm)
  have Uc : n0 ≤ b2 := Nat.le_trans SZ0 (Nat.le_of_eq g2.symm)
  have Y7 : x18 ≠ b2 := Nat.ne_of_lt (Nat.lt_of_lt_of_le Jo.lt (Nat.le_of_eq g2.symm))
  have Y8 : rx18a ≠ b2 := Nat.ne_of_lt (Nat.lt_of_lt_of_le Jp.lt (Nat.le_of_eq g2.symm))
  have Y9 : rx18b ≠ b2 := Nat.ne_of_lt (Nat.lt_of_lt_of_le Jq.lt (Nat.le_of_eq g2.symm))
  have Ya : rx18c ≠ b2 := Nat.ne_of_lt (Nat.lt_of_lt_of_le Jr.lt (Nat.le_of_eq g2.symm))
  have Yb : x19 ≠ b2 := Nat.ne_of_lt (Nat.lt_of_lt_of_le M8.lt (Nat.le_of_eq g2.symm))
  have Yc : rx19a ≠ b2 := Nat.ne_of_lt (Nat.lt_of_lt_of_le M9.lt (Nat.le_of_eq g2.symm))
  have Yd : rx19b ≠ b2 := Nat.ne_of_lt (Nat.lt_of_lt_of_le Ma.lt (Nat.le_of_eq g2.symm))
  have Ye : rx19c ≠ b2 := Nat.ne_of_lt (Nat.lt_of_lt_of_le Mb.lt (Nat.le_of_eq g2.symm))
  have Yf : x20 ≠ b2 := Nat.ne_of_lt (Nat.lt_of_lt_of_le Ua.lt (Nat.le_of_eq g2.symm))
  have SZ2 : n0 ≤ h2.size := Nat.le_trans SZ0 E2.1
  have f3 := Jo.ext E2
  have f4 := Jp.ext E2
  have f5 := Jq.ext E2
  have f6 := Jr.ext E2
  have f7 := M8.ext E2
  have f8 := M9.ext E2
  have f9 := Ma.ext E2
  have f10 := Mb.ext E2
  have f11 := Ua.ext E2
  have f12 : own_Iv Z h2 b2 (3 : Int32) [(0 : Int32), (0 : Int32), (0 : Int32)] := ⟨_, (Arv.new A2 (by decide)).pad (pad_rep [] (.int 0) 3)⟩
  refine op T2 (mkF m 212 #[lv q0, se, lv q1, se, lv q2, se, iv p3, iv x7, iv x8, iv x9, iv x10, iv x11, iv x12, iv x13, iv x14, iv x15, iv x16, iv x17, rv x18, rv x19, rv x20, iv 1, uu, uu, uu, uu] [(.int 1), (.int 0), (.ref b2), (.ref b2)]) (fun _ k => st' _ (XS.dup X2.here hx rfl (hb hby at_209) rfl rfl (XS.iconst X2.here hx rfl (hb hby at_210) (XS.iconst X2.here hx rfl (hb hby at_211) k)))) ?_
  obtain ⟨k13, cl13, Ar13, q13, S13, N13, H13, G13⟩ := id f12
  have hin13 : ¬ ((0 : Int32) < 0 ∨ cl13.slots.size ≤ ((0 : Int32)).toNatClampNeg) := inb_of S13 ⟨by decide, by decide⟩
  obtain ⟨T13, h13, X13, e13, W13, st'⟩ := stI X2 hx hZ e2 Ar13 (j := (0 : Int32)) hin13 (g := (mkF m 212 #[lv q0, se, lv q1, se, lv q2, se, iv p3, iv x7, iv x8, iv x9, iv x10, iv x11, iv x12, iv x13, iv x14, iv x15, iv x16, iv x17, rv x18, rv x19, rv x20, iv 1, uu, uu, uu, uu] [(.int 1), (.int 0), (.ref b2), (.ref b2)])) rfl rfl (hb hby at_212)
  have f14 : own_Iv Z h13 b2 (3 : Int32) [(1 : Int32), (0 : Int32), (0 : Int32)] := ⟨_, Arv.set Ar13 q13 S13 N13 H13 G13 rfl W13 0 rfl (Nat.le_of_ble_eq_true rfl)⟩
  have f15 := f3.other W13 Y7
  have f16 := f4.other W13 Y8
  have f17 := f5.other W13 Y9
  have f18 := f6.other W13 Ya
  have f19 := f7.other W13 Yb
  have f20 := f8.other W13 Yc
  have f21 := f9.other W13 Yd
  have f22 := f10.other W13 Ye
  have f23 := f11.other W13 Yf
  have NF13 := Fr.snoc X13 NF0 Uc
  have SZ13 : n0 ≤ h13.size := (Nat.le_trans SZ2 (Keep.of_wr W13).1)
  refine op T13 (mkF m 216 #[lv q0, se, lv q1, se, lv q2, se, iv p3, iv x7, iv x8, iv x9, iv x10, iv x11, iv x12, iv x13, iv x14, iv x15, iv x16, iv x17, rv x18, rv x19, rv x20, iv 1, uu, uu, uu, uu] [(.int 0), (.int 1), (.ref b2), (.ref b2)]) (fun _ k => st' _ (XS.dup X13.here hx rfl (hb hby at_213) rfl rfl (XS.iconst X13.here hx rfl (hb hby at_214) (XS.iconst X13.here hx rfl (hb hby at_215) k)))) ?_
  obtain ⟨k24, cl24, Ar24, q24, S24, N24, H24, G24⟩ := id f14
  have hin24 : ¬ ((1 : Int32) < 0 ∨ cl24.slots.size ≤ ((1 : Int32)).toNatClampNeg) := inb_of S24 ⟨by decide, by decide⟩
  obtain ⟨T24, h24, X24, e24, W24, st'⟩ := stI X13 hx hZ e13 Ar24 (j := (1 : Int32)) hin24 (g := (mkF m 216 #[lv q0, se, lv q1, se, lv q2, se, iv p3, iv x7, iv x8, iv x9, iv x10, iv x11, iv x12, iv x13, iv x14, iv x15, iv x16, iv x17, rv x18, rv x19, rv x20, iv 1, uu, uu, uu, uu] [(.int 0), (.int 1), (.ref b2), (.ref b2)])) rfl rfl (hb hby at_216)
  have f25 : own_Iv Z h24 b2 (3 : Int32) [(1 : Int32), (0 : Int32), (0 : Int32)] := ⟨_, Arv.set Ar24 q24 S24 N24 H24 G24 rfl W24 1 rfl (Nat.le_of_ble_eq_true rfl)⟩
  have f26 := f15.other W24 Y7
  have f27 := f16.other W24 Y8
  have f28 := f17.other W24 Y9
  have f29 := f18.other W24 Ya
  have f30 := f19.other W24 Yb
  have f31 := f20.other W24 Yc
  have f32 := f21.other W24 Yd
  have f33 := f22.other W24 Ye
  have f34 := f23.other W24 Yf
  have NF24 := Fr.snoc X24 NF13 Uc
  have SZ24 : n0 ≤ h24.size := (Nat.le_trans SZ13 (Keep.of_wr W24).1)
  refine op T24 (mkF m 220 #[lv q0, se, lv q1, se, lv q2, se, iv p3, iv x7, iv x8, iv x9, iv x10, iv x11, iv x12, iv x13, iv x14, iv x15, iv x16, iv x17, rv x18, rv x19, rv x20, iv 1, uu, uu, uu, uu] [(.int 2), (.int 2), (.ref b2), (.ref b2)]) (fun _ k => st' _ (XS.dup X24.here hx rfl (hb hby at_217) rfl rfl (XS.iconst X24.here hx rfl (hb hby at_218) (XS.iconst X24.here hx rfl (hb hby at_219) k)))) ?_
  obtain ⟨k35, cl35, Ar35, q35, S35, N35, H35, G35⟩ := id f25
  have hin35 : ¬ ((2 : Int32) < 0 ∨ cl35.slots.size ≤ ((2 : Int32)).toNatClampNeg) := inb_of S35 ⟨by decide, by decide⟩
  obtain ⟨T35, h35, X35, e35, W35, st'⟩ := stI X24 hx hZ e24 Ar35 (j := (2 : Int32)) hin35 (g := (mkF m 220 #[lv q0, se, lv q1, se, lv q2, se, iv p3, iv x7, iv x8, iv x9, iv x10, iv x11, iv x12, iv x13, iv x14, iv x15, iv x16, iv x17, rv x18, rv x19, rv x20, iv 1, uu, uu, uu, uu] [(.int 2), (.int 2), (.ref b2), (.ref b2)])) rfl rfl (hb hby at_220)
  have f36 : own_Iv Z h35 b2 (3 : Int32) [(1 : Int32), (0 : Int32), (2 : Int32)] := ⟨_, Arv.set Ar35 q35 S35 N35 H35 G35 rfl W35 2 rfl (Nat.le_of_ble_eq_true rfl)⟩
  have f37 := f26.other W35 Y7
  have f38 := f27.other W35 Y8
  have f39 := f28.other W35 Y9
  have f40 := f29.other W35 Ya
  have f41 := f30.other W35 Yb
  have f42 := f31.other W35 Yc
  have f43 := f32.other W35 Yd
  have f44 := f33.other W35 Ye
  have f45 := f34.other W35 Yf
  have NF35 := Fr.snoc X35 NF24 Uc
  have SZ35 : n0 ≤ h35.size := (Nat.le_trans SZ24 (Keep.of_wr W35).1)
  refine op T35 (mkF m 228 #[lv q0, se, lv q1, se, lv q2, se, iv p3, iv x7, iv x8, iv x9, iv x10, iv x11, iv x12, iv x13, iv x14, iv x15, iv x16, iv x17, rv x18, rv x19, rv x20, iv 1, rv b2, uu, uu, uu] []) (fun _ k => st' _ (XS.goto X35.here hx rfl (pc0 := 221) (pc' := 226) rfl (hb hby at_221) (by decide) (by decide) (XS.astore X35.here hx rfl (hb hby at_226) rfl rfl (l' := #[lv q0, se, lv q1, se, lv q2, se, iv p3, iv x7, iv x8, iv x9, iv x10, iv x11, iv x12, iv x13, iv x14, iv x15, iv x16, iv x17, rv x18, rv x19, rv x20, iv 1, rv b2, uu, uu, uu]) rfl k))) ?_
  obtain ⟨T46, h46, X46, e46, E46, A46, D46, -, st'⟩ := newO X35 hx hZ hown (ow hw 18 rfl) (ow hw 19 rfl) (ow hw 20 rfl) e35 (g := (mkF m 228 #[lv q0, se, lv q1, se, lv q2, se, iv p3, iv x7, iv x8, iv x9, iv x10, iv x11, iv x12, iv x13, iv x14, iv x15, iv x16, iv x17, rv x18, rv x19, rv x20, iv 1, rv b2, uu, uu, uu] [])) rfl (hb hby at_228) (by decide) (by decide)
  obtain ⟨b46, g46⟩ : ∃ z, z = h35.size := ⟨_, rfl⟩
  rw [← g46] at A46 D46 st'
  have lt_x18_b46 : x18 < b46 := Nat.lt_of_lt_of_le f37.lt (Nat.le_of_eq g46.symm)
  have lt_rx18a_b46 : rx18a < b46 := Nat.lt_of_lt_of_le f38.lt (Nat.le_of_eq g46.symm)
  have lt_rx18b_b46 : rx18b < b46 := Nat.lt_of_lt_of_le f39.lt (Nat.le_of_eq g46.symm)
  have lt_rx18c_b46 : rx18c < b46 := Nat.lt_of_lt_of_le f40.lt (Nat.le_of_eq g46.symm)
  have lt_x19_b46 : x19 < b46 := Nat.lt_of_lt_of_le f41.lt (Nat.le_of_eq g46.symm)
  have lt_rx19a_b46 : rx19a < b46 := Nat.lt_of_lt_of_le f42.lt (Nat.le_of_eq g46.symm)
  have lt_rx19b_b46 : rx19b < b46 := Nat.lt_of_lt_of_le f43.lt (Nat.le_of_eq g46.symm)
  have lt_rx19c_b46 : rx19c < b46 := Nat.lt_of_lt_of_le f44.lt (Nat.le_of_eq g46.symm)
  have lt_x20_b46 : x20 < b46 := Nat.lt_of_lt_of_le f45.lt (Nat.le_of_eq g46.symm)
  have lt_b2_b46 : b2 < b46 := Nat.lt_of_lt_of_le f36.lt (Nat.le_of_eq g46.symm)
  have g_b46 : n0 ≤ b46 := Nat.le_trans SZ35 (Nat.le_of_eq g46.symm)
  have ne_x18_b46 : x18 ≠ b46 := Nat.ne_of_lt (Nat.lt_of_lt_of_le f37.lt (Nat.le_of_eq g46.symm))
  have ne_rx18a_b46 : rx18a ≠ b46 := Nat.ne_of_lt (Nat.lt_of_lt_of_le f38.lt (Nat.le_of_eq g46.symm))
  have ne_rx18b_b46 : rx18b ≠ b46 := Nat.ne_of_lt (Nat.lt_of_lt_of_le f39.lt (Nat.le_of_eq g46.symm))
  have ne_rx18c_b46 : rx18c ≠ b46 := Nat.ne_of_lt (Nat.lt_of_lt_of_le f40.lt (Nat.le_of_eq g46.symm))
  have ne_x19_b46 : x19 ≠ b46 := Nat.ne_of_lt (Nat.lt_of_lt_of_le f41.lt (Nat.le_of_eq g46.symm))
  have ne_rx19a_b46 : rx19a ≠ b46 := Nat.ne_of_lt (Nat.lt_of_lt_of_le f42.lt (Nat.le_of_eq g46.symm))
  have ne_rx19b_b46 : rx19b ≠ b46 := Nat.ne_of_lt (Nat.lt_of_lt_of_le f43.lt (Nat.le_of_eq g46.symm))
  have ne_rx19c_b46 : rx19c ≠ b46 := Nat.ne_of_lt (Nat.lt_of_lt_of_le f44.lt (Nat.le_of_eq g46.symm))
  have ne_x20_b46 : x20 ≠ b46 := Nat.ne_of_lt (Nat.lt_of_lt_of_le f45.lt (Nat.le_of_eq g46.symm))
  have ne_b2_b46 : b2 ≠ b46 := Nat.ne_of_lt (Nat.lt_of_lt_of_le f36.lt (Nat.le_of_eq g46.symm))
  have SZ46 : n0 ≤ h46.size := Nat.le_trans SZ35 E46.1
  have f47 := f37.ext E46
  have f48 := f38.ext E46
  have f49 := f39.ext E46
  have f50 := f40.ext E46
  have f51 := f41.ext E46
  have f52 := f42.ext E46
  have f53 := f43.ext E46
  have f54 := f44.ext E46
  have f55 := f45.ext E46
  have f56 := f36.ext E46
  have f57 : Fld Z h46 b46 cB "inOrder" "Z" (.int 0) := D46 (Or.inl (ow hw 28 rfl)) (ty := .boolean) (by decide)
  have f58 : Fld Z h46 b46 cB "starts" "[I" .null := D46 (Or.inl (ow hw 30 rfl)) (ty := (.array .int)) (by decide)
  have f59 : Fld Z h46 b46 cB "ends" "[I" .null := D46 (Or.inl (ow hw 32 rfl)) (ty := (.array .int)) (by decide)
  have f60 : Fld Z h46 b46 cB "countries" "[C" .null := D46 (Or.inl (ow hw 35 rfl)) (ty := (.array .char)) (by decide)
  have f61 : Fld Z h46 b46 cB "lineNumbers" "[I" .null := D46 (Or.inl (ow hw 37 rfl)) (ty := (.array .int)) (by decide)
  have f62 : Fld Z h46 b46 cB "width" "I" (.int 0) := D46 (Or.inr (ow hw 39 rfl)) (ty := .int) (by decide)
  have f63 : Fld Z h46 b46 cB "segments" dS .null := D46 (Or.inr (ow hw 66 rfl)) (ty := (.object cS)) (by decide)
  have f64 : Fld Z h46 b46 cB "size" "I" (.int 0) := D46 (Or.inl (ow hw 104 rfl)) (ty := .int) (by decide)
  have f65 : Fld Z h46 b46 cB "allocated" "Z" (.int 0) := D46 (Or.inl (ow hw 118 rfl)) (ty := .boolean) (by decide)
  have f66 : Fld Z h46 b46 cB "counted" "I" (.int 0) := D46 (Or.inl (ow hw 125 rfl)) (ty := .int) (by decide)
  have f67 : Fld Z h46 b46 cB "differs" "Z" (.int 0) := D46 (Or.inl (ow hw 132 rfl)) (ty := .boolean) (by decide)
  refine op T46 (mkF m 234 #[lv q0, se, lv q1, se, lv q2, se, iv p3, iv x7, iv x8, iv x9, iv x10, iv x11, iv x12, iv x13, iv x14, iv x15, iv x16, iv x17, rv x18, rv x19, rv x20, iv 1, rv b2, uu, uu, uu] [(.int x10), (.ref b46), (.ref b46)]) (fun _ k => st' _ (XS.dup X46.here hx rfl (hb hby at_231) rfl rfl (XS.iload X46.here hx rfl (hb hby at_232) rfl k))) ?_
  refine own_iteT R0 (K0 Z q0 q1 q2 p3  h0 n0) (fun hc234 => ?_) (fun hc234 => ?_)
  · skip
    refine op T46 (mkF m 242 #[lv q0, se, lv q1, se, lv q2, se, iv p3, iv x7, iv x8, iv x9, iv x10, iv x11, iv x12, iv x13, iv x14, iv x15, iv x16, iv x17, rv x18, rv x19, rv x20, iv 1, rv b2, uu, uu, uu] [(.int 1), (.ref b46), (.ref b46)]) (fun _ k => XS.ifYes X46.here hx rfl (pc0 := 234) (pc' := 241) rfl (hb hby at_234) rfl ((if0 _ _).trans (teq hc234).1) (by decide) (by decide) (XS.iconst X46.here hx rfl (hb hby at_241) k)) ?_
    obtain ⟨_, _, ⟨T68, L68, k68, n68⟩, -, X68', ⟨Lc68, hQ68, l68, y68, z68⟩, st'⟩ := X46.specialBack hx (y := y12) rfl hown (mvT hZ (ow hw 21 rfl)) (mvT hZ (ow hw 22 rfl)) (mvT hZ (ow hw 23 rfl)) (by decide) (backOf (W := 1) (rmvbin l Z aw hw [] (1 : Int32) b46 h46 n0 SZ46 A46 f58 f59 f60 f61 f63 f57 f65 f66 f64 f67 f62 (by decide) g_b46) hZ (ow hw 23 rfl) (ow hw 20 rfl) (by decide) (by decide)) (g := (mkF m 242 #[lv q0, se, lv q1, se, lv q2, se, iv p3, iv x7, iv x8, iv x9, iv x10, iv x11, iv x12, iv x13, iv x14, iv x15, iv x16, iv x17, rv x18, rv x19, rv x20, iv 1, rv b2, uu, uu, uu] [(.int 1), (.ref b46), (.ref b46)])) rfl (by rw [hml]; rfl) (Steps.refl _) (a := b46) (argsL := [(.int 1)]) (rest := [(.ref b46)]) (lenOf own_pd5 rfl) rfl (by show 2 * 0 + _ ≤ _; exact Nat.le_of_eq rfl) (hb hby at_242) (fun _ _ => ⟨rfl, e46, (by decide : 11 + 10 ≤ _), (by decide : 47 + 15 ≤ _)⟩)
    dsimp only [Pt.U, Pt.locs, Pt.cells, Pt.slots] at X68' l68 y68 z68 st' hQ68
    subst l68 y68 z68
    obtain ⟨rfl, NFq68, KPq68, p68_0⟩ := hQ68
    have X68 : Stand p l e room_1 s m #[(.long q0), (.long q1), (.long q2), (.int p3)] below meth c T68 _ 21 62 := X68'
    have NF68 := Fr.app NF35 NFq68
    have SZ68 : n0 ≤ T68.heap.size := Nat.le_trans SZ46 KPq68.1
    have f69 := f47.keep KPq68 (ninS ne_x18_b46 nin0)
    have f70 := f48.keep KPq68 (ninS ne_rx18a_b46 nin0)
    have f71 := f49.keep KPq68 (ninS ne_rx18b_b46 nin0)
    have f72 := f50.keep KPq68 (ninS ne_rx18c_b46 nin0)
    have f73 := f51.keep KPq68 (ninS ne_x19_b46 nin0)
    have f74 := f52.keep KPq68 (ninS ne_rx19a_b46 nin0)
    have f75 := f53.keep KPq68 (ninS ne_rx19b_b46 nin0)
    have f76 := f54.keep KPq68 (ninS ne_rx19c_b46 nin0)
    have f77 := f55.keep KPq68 (ninS ne_x20_b46 nin0)
    have f78 := f56.keep KPq68 (ninS ne_b2_b46 nin0)
    have f79 := A46.keep KPq68
    refine op T68 (mkF m 247 #[lv q0, se, lv q1, se, lv q2, se, iv p3, iv x7, iv x8, iv x9, iv x10, iv x11, iv x12, iv x13, iv x14, iv x15, iv x16, iv x17, rv x18, rv x19, rv x20, iv 1, rv b2, rv b46, uu, uu] []) (fun _ k => st'.trans (XS.astore X68.here hx rfl (hb hby at_245) rfl rfl (l' := #[lv q0, se, lv q1, se, lv q2, se, iv p3, iv x7, iv x8, iv x9, iv x10, iv x11, iv x12, iv x13, iv x14, iv x15, iv x16, iv x17, rv x18, rv x19, rv x20, iv 1, rv b2, rv b46, uu, uu]) rfl k)) ?_
    exact g0_247b hw q0 q1 q2 p3  x7 x8 x9 x10 x11 x12 x13 x14 x15 x16 x17 x18 x19 x20 b2 b46 rx18a rx18b rx18c rx19a rx19b rx19c (zS (1 : Int32)) HX (by have q := own_BS0 (own_wd x10); simp only [own_w, hc234, if_true, if_false] at q ⊢; exact q) Bd hml hZ T68 X68 (rfl : T68.heap = T68.heap) SZ68 NF68 f69 f70 f71 f72 f73 f74 f75 f76 f77 f78 p68_0 g_b46 lt_x18_b46 lt_x19_b46 lt_x20_b46 lt_b2_b46 lt_rx18a_b46 lt_rx18b_b46 lt_rx18c_b46 lt_rx19a_b46 lt_rx19b_b46 lt_rx19c_b46
  · skip
    refine op T46 (mkF m 242 #[lv q0, se, lv q1, se, lv q2, se, iv p3, iv x7, iv x8, iv x9, iv x10, iv x11, iv x12, iv x13, iv x14, iv x15, iv x16, iv x17, rv x18, rv x19, rv x20, iv 1, rv b2, uu, uu, uu] [(.int 4), (.ref b46), (.ref b46)]) (fun _ k => XS.ifNo X46.here hx rfl (hb hby at_234) rfl ((if0 _ _).trans (feq hc234).1) (XS.iconst X46.here hx rfl (hb hby at_237) (XS.goto X46.here hx rfl (pc0 := 238) (pc' := 242) rfl (hb hby at_238) (by decide) (by decide) k))) ?_
    obtain ⟨_, _, ⟨T80, L80, k80, n80⟩, -, X80', ⟨Lc80, hQ80, l80, y80, z80⟩, st'⟩ := X46.specialBack hx (y := y12) rfl hown (mvT hZ (ow hw 21 rfl)) (mvT hZ (ow hw 22 rfl)) (mvT hZ (ow hw 23 rfl)) (by decide) (backOf (W := 1) (rmvbin l Z aw hw [] (4 : Int32) b46 h46 n0 SZ46 A46 f58 f59 f60 f61 f63 f57 f65 f66 f64 f67 f62 (by decide) g_b46) hZ (ow hw 23 rfl) (ow hw 20 rfl) (by decide) (by decide)) (g := (mkF m 242 #[lv q0, se, lv q1, se, lv q2, se, iv p3, iv x7, iv x8, iv x9, iv x10, iv x11, iv x12, iv x13, iv x14, iv x15, iv x16, iv x17, rv x18, rv x19, rv x20, iv 1, rv b2, uu, uu, uu] [(.int 4), (.ref b46), (.ref b46)])) rfl (by rw [hml]; rfl) (Steps.refl _) (a := b46) (argsL := [(.int 4)]) (rest := [(.ref b46)]) (lenOf own_pd5 rfl) rfl (by show 2 * 0 + _ ≤ _; exact Nat.le_of_eq rfl) (hb hby at_242) (fun _ _ => ⟨rfl, e46, (by decide : 11 + 10 ≤ _), (by decide : 47 + 15 ≤ _)⟩)
    dsimp only [Pt.U, Pt.locs, Pt.cells, Pt.slots] at X80' l80 y80 z80 st' hQ80
    subst l80 y80 z80
    obtain ⟨rfl, NFq80, KPq80, p80_0⟩ := hQ80
    have X80 : Stand p l e room_1 s m #[(.long q0), (.long q1), (.long q2), (.int p3)] below meth c T80 _ 21 62 := X80'
    have NF80 := Fr.app NF35 NFq80
    have SZ80 : n0 ≤ T80.heap.size := Nat.le_trans SZ46 KPq80.1
    have f81 := f47.keep KPq80 (ninS ne_x18_b46 nin0)
    have f82 := f48.keep KPq80 (ninS ne_rx18a_b46 nin0)
    have f83 := f49.keep KPq80 (ninS ne_rx18b_b46 nin0)
    have f84 := f50.keep KPq80 (ninS ne_rx18c_b46 nin0)
    have f85 := f51.keep KPq80 (ninS ne_x19_b46 nin0)
    have f86 := f52.keep KPq80 (ninS ne_rx19a_b46 nin0)
    have f87 := f53.keep KPq80 (ninS ne_rx19b_b46 nin0)
    have f88 := f54.keep KPq80 (ninS ne_rx19c_b46 nin0)
    have f89 := f55.keep KPq80 (ninS ne_x20_b46 nin0)
    have f90 := f56.keep KPq80 (ninS ne_b2_b46 nin0)
    have f91 := A46.keep KPq80
    refine op T80 (mkF m 247 #[lv q0, se, lv q1, se, lv q2, se, iv p3, iv x7, iv x8, iv x9, iv x10, iv x11, iv x12, iv x13, iv x14, iv x15, iv x16, iv x17, rv x18, rv x19, rv x20, iv 1, rv b2, rv b46, uu, uu] []) (fun _ k => st'.trans (XS.astore X80.here hx rfl (hb hby at_245) rfl rfl (l' := #[lv q0, se, lv q1, se, lv q2, se, iv p3, iv x7, iv x8, iv x9, iv x10, iv x11, iv x12, iv x13, iv x14, iv x15, iv x16, iv x17, rv x18, rv x19, rv x20, iv 1, rv b2, rv b46, uu, uu]) rfl k)) ?_
    exact g0_247b hw q0 q1 q2 p3  x7 x8 x9 x10 x11 x12 x13 x14 x15 x16 x17 x18 x19 x20 b2 b46 rx18a rx18b rx18c rx19a rx19b rx19c (zS (4 : Int32)) HX (by have q := own_BS0 (own_wd x10); simp only [own_w, hc234, if_true, if_false] at q ⊢; exact q) Bd hml hZ T80 X80 (rfl : T80.heap = T80.heap) SZ80 NF80 f81 f82 f83 f84 f85 f86 f87 f88 f89 f90 p80_0 g_b46 lt_x18_b46 lt_x19_b46 lt_x20_b46 lt_b2_b46 lt_rx18a_b46 lt_rx18b_b46 lt_rx18c_b46 lt_rx19a_b46 lt_rx19b_b46 lt_rx19c_b46
def f0_201a (q0 q1 q2 : Int64) (p3 x7 x8 x10 x11 x12 x13 x14 x15 x16 x17 : Int32) : Int32 := (if x10 = (0 : Int32) then (f0_247a q0 q1 q2 p3 x7 x8 x10 x11 x12 x13 x14 x15 x16 x17 (zS (1 : Int32))) else (f0_247a q0 q1 q2 p3 x7 x8 x10 x11 x12 x13 x14 x15 x16 x17 (zS (4 : Int32))))
set_option maxRecDepth 65536 in
set_option maxHeartbeats 40000000 in
theorem g0_201a (hw : HW aw Z) {h0 : Heap} {n0 : Nat} (q0 q1 q2 : Int64) (p3 x7 x8 x9 x10 x11 x12 x13 x14 x15 x16 x17 : Int32) (x18 x19 x20 rx18a rx18b rx18c rx19a rx19b rx19c : Addr) (HX : x10 = 0 ∨ x10 = 1)
    (Bd : BodyLoose p l x (head1 (Jvm.Cond.code x code maxLocals ret :: ws) room_1) code maxLocals ret e s m #[(.long q0), (.long q1), (.long q2), (.int p3)] below meth c s₁) (hml : c.maxLocals = 26) (hZ : Z.Warmed39 s.vm) (T0 : State) {locs : List Loc} (X0 : Stand p l e room_1 s m #[(.long q0), (.long q1), (.long q2), (.int p3)] below meth c T0 locs 9 33) {h : Heap} (e0 : T0.heap = h) (SZ0 : n0 ≤ h.size) (NF0 : Fr n0 locs) (Jo : own_Rv Z h x18 (3 : Int32) [.ref rx18a, .ref rx18b, .ref rx18c]) (Jp : own_G Z h rx18a (own_w x10) x12 (0 : Int32) x12 (0 : Int32)) (Jq : own_G Z h rx18b (own_w x10) x14 (0 : Int32) x14 (0 : Int32)) (Jr : own_G Z h rx18c (own_w x10) x16 (0 : Int32) x16 (0 : Int32)) (M8 : own_Rv Z h x19 (3 : Int32) [.ref rx19a, .ref rx19b, .ref rx19c]) (M9 : own_G Z h rx19a (own_w x10) x13 (0 : Int32) x13 (0 : Int32)) (Ma : own_G Z h rx19b (own_w x10) x15 (0 : Int32) x15 (0 : Int32)) (Mb : own_G Z h rx19c (own_w x10) x17 (0 : Int32) x17 (0 : Int32)) (Ua : own_Iv Z h x20 (3 : Int32) [(0 : Int32), (1 : Int32), (2 : Int32)]) :
    own_Go p e below s room_1.cells room_1.slots (R0 (f0_201a q0 q1 q2 p3 x7 x8 x10 x11 x12 x13 x14 x15 x16 x17)) (K0 Z q0 q1 q2 p3  h0 n0 (f0_201a q0 q1 q2 p3 x7 x8 x10 x11 x12 x13 x14 x15 x16 x17)) (T0.setTop (mkF m 201 #[lv q0, se, lv q1, se, lv q2, se, iv p3, iv x7, iv x8, iv x9, iv x10, iv x11, iv x12, iv x13, iv x14, iv x15, iv x16, iv x17, rv x18, rv x19, rv x20, iv 0, uu, uu, uu, uu] [])) := by
  have hx := Bd.exec
  have hby := Bd.bytes
  have hown : s.vm.findClass cL = some m.cls := findClass_of_methodNamed Bd.named
  have hnm := (name_of_methodNamed Bd.named Bd.method).1
  unfold f0_201a
  refine op T0 (mkF m 203 #[lv q0, se, lv q1, se, lv q2, se, iv p3, iv x7, iv x8, iv x9, iv x10, iv x11, iv x12, iv x13, iv x14, iv x15, iv x16, iv x17, rv x18, rv x19, rv x20, iv 0, uu, uu, uu, uu] [(.int 0)]) (fun _ k => XS.iload X0.here hx rfl (hb hby at_201) rfl k) ?_
  have hd1 : (0 : Int32) = (0 : Int32) := by decide
  refine op T0 (mkF m 228 #[lv q0, se, lv q1, se, lv q2, se, iv p3, iv x7, iv x8, iv x9, iv x10, iv x11, iv x12, iv x13, iv x14, iv x15, iv x16, iv x17, rv x18, rv x19, rv x20, iv 0, rv x20, uu, uu, uu] []) (fun _ k => XS.ifYes X0.here hx rfl (pc0 := 203) (pc' := 224) rfl (hb hby at_203) rfl ((if0 _ _).trans (teq hd1).1) (by decide) (by decide) (XS.aload X0.here hx rfl (hb hby at_224) rfl rfl (XS.astore X0.here hx rfl (hb hby at_226) rfl rfl (l' := #[lv q0, se, lv q1, se, lv q2, se, iv p3, iv x7, iv x8, iv x9, iv x10, iv x11, iv x12, iv x13, iv x14, iv x15, iv x16, iv x17, rv x18, rv x19, rv x20, iv 0, rv x20, uu, uu, uu]) rfl k))) ?_
  obtain ⟨T2, h2, X2, e2, E2, A2, D2, -, st'⟩ := newO X0 hx hZ hown (ow hw 18 rfl) (ow hw 19 rfl) (ow hw 20 rfl) e0 (g := (mkF m 228 #[lv q0, se, lv q1, se, lv q2, se, iv p3, iv x7, iv x8, iv x9, iv x10, iv x11, iv x12, iv x13, iv x14, iv x15, iv x16, iv x17, rv x18, rv x19, rv x20, iv 0, rv x20, uu, uu, uu] [])) rfl (hb hby at_228) (by decide) (by decide)
  obtain ⟨b2, g2⟩ : ∃ z, z = h.size := ⟨_, rfl⟩
  rw [← g2] at A2 D2 st'
  have lt_x18_b2 : x18 < b2 := Nat.lt_of_lt_of_le Jo.lt (Nat.le_of_eq g2.symm)
  have G14 : rx18a < b2 := Nat.lt_of_lt_of_le Jp.lt (Nat.le_of_eq g2.symm)
  have G18 : rx18b < b2 := Nat.lt_of_lt_of_le Jq.lt (Nat.le_of_eq g2.symm)
  have G1a : rx18c < b2 := Nat.lt_of_lt_of_le Jr.lt (Nat.le_of_eq g2.symm)
  have lt_x19_b2 : x19 < b2 := Nat.lt_of_lt_of_le M8.lt (Nat.le_of_eq g2.symm)
  have G1b : rx19a < b2 := Nat.lt_of_lt_of_le M9.lt (Nat.le_of_eq g2.symm)
  have G1c : rx19b < b2 := Nat.lt_of_lt_of_le Ma.lt (Nat.le_of_eq g2.symm)
  have G1d : rx19c < b2 := Nat.lt_of_lt_of_le Mb.lt (Nat.le_of_eq g2.symm)
  have lt_x20_b2 : x20 < b2 := Nat.lt_of_lt_of_le Ua.lt (Nat.le_of_eq g2.symm)
  have Uc : n0 ≤ b2 := Nat.le_trans SZ0 (Nat.le_of_eq g2.symm)
  have Y7 : x18 ≠ b2 := Nat.ne_of_lt (Nat.lt_of_lt_of_le Jo.lt (Nat.le_of_eq g2.symm))
  have Y8 : rx18a ≠ b2 := Nat.ne_of_lt (Nat.lt_of_lt_of_le Jp.lt (Nat.le_of_eq g2.symm))
  have Y9 : rx18b ≠ b2 := Nat.ne_of_lt (Nat.lt_of_lt_of_le Jq.lt (Nat.le_of_eq g2.symm))
  have Ya : rx18c ≠ b2 := Nat.ne_of_lt (Nat.lt_of_lt_of_le Jr.lt (Nat.le_of_eq g2.symm))
  have Yb : x19 ≠ b2 := Nat.ne_of_lt (Nat.lt_of_lt_of_le M8.lt (Nat.le_of_eq g2.symm))
  have Yc : rx19a ≠ b2 := Nat.ne_of_lt (Nat.lt_of_lt_of_le M9.lt (Nat.le_of_eq g2.symm))
  have Yd : rx19b ≠ b2 := Nat.ne_of_lt (Nat.lt_of_lt_of_le Ma.lt (Nat.le_of_eq g2.symm))
  have Ye : rx19c ≠ b2 := Nat.ne_of_lt (Nat.lt_of_lt_of_le Mb.lt (Nat.le_of_eq g2.symm))
  have Yf : x20 ≠ b2 := Nat.ne_of_lt (Nat.lt_of_lt_of_le Ua.lt (Nat.le_of_eq g2.symm))
  have SZ2 : n0 ≤ h2.size := Nat.le_trans SZ0 E2.1
  have f3 := Jo.ext E2
  have f4 := Jp.ext E2
  have f5 := Jq.ext E2
  have f6 := Jr.ext E2
  have f7 := M8.ext E2
  have f8 := M9.ext E2
  have f9 := Ma.ext E2
  have f10 := Mb.ext E2
  have f11 := Ua.ext E2
  have f12 : Fld Z h2 b2 cB "inOrder" "Z" (.int 0) := D2 (Or.inl (ow hw 28 rfl)) (ty := .boolean) (by decide)
  have f13 : Fld Z h2 b2 cB "starts" "[I" .null := D2 (Or.inl (ow hw 30 rfl)) (ty := (.array .int)) (by decide)
  have f14 : Fld Z h2 b2 cB "ends" "[I" .null := D2 (Or.inl (ow hw 32 rfl)) (ty := (.array .int)) (by decide)
  have f15 : Fld Z h2 b2 cB "countries" "[C" .null := D2 (Or.inl (ow hw 35 rfl)) (ty := (.array .char)) (by decide)
  have f16 : Fld Z h2 b2 cB "lineNumbers" "[I" .null := D2 (Or.inl (ow hw 37 rfl)) (ty := (.array .int)) (by decide)
  have f17 : Fld Z h2 b2 cB "width" "I" (.int 0) := D2 (Or.inr (ow hw 39 rfl)) (ty := .int) (by decide)
  have f18 : Fld Z h2 b2 cB "segments" dS .null := D2 (Or.inr (ow hw 66 rfl)) (ty := (.object cS)) (by decide)
  have f19 : Fld Z h2 b2 cB "size" "I" (.int 0) := D2 (Or.inl (ow hw 104 rfl)) (ty := .int) (by decide)
  have f20 : Fld Z h2 b2 cB "allocated" "Z" (.int 0) := D2 (Or.inl (ow hw 118 rfl)) (ty := .boolean) (by decide)
  have f21 : Fld Z h2 b2 cB "counted" "I" (.int 0) := D2 (Or.inl (ow hw 125 rfl)) (ty := .int) (by decide)
  have f22 : Fld Z h2 b2 cB "differs" "Z" (.int 0) := D2 (Or.inl (ow hw 132 rfl)) (ty := .boolean) (by decide)
  refine op T2 (mkF m 234 #[lv q0, se, lv q1, se, lv q2, se, iv p3, iv x7, iv x8, iv x9, iv x10, iv x11, iv x12, iv x13, iv x14, iv x15, iv x16, iv x17, rv x18, rv x19, rv x20, iv 0, rv x20, uu, uu, uu] [(.int x10), (.ref b2), (.ref b2)]) (fun _ k => st' _ (XS.dup X2.here hx rfl (hb hby at_231) rfl rfl (XS.iload X2.here hx rfl (hb hby at_232) rfl k))) ?_
  refine own_iteT R0 (K0 Z q0 q1 q2 p3  h0 n0) (fun hc234 => ?_) (fun hc234 => ?_)
  · skip
    refine op T2 (mkF m 242 #[lv q0, se, lv q1, se, lv q2, se, iv p3, iv x7, iv x8, iv x9, iv x10, iv x11, iv x12, iv x13, iv x14, iv x15, iv x16, iv x17, rv x18, rv x19, rv x20, iv 0, rv x20, uu, uu, uu] [(.int 1), (.ref b2), (.ref b2)]) (fun _ k => XS.ifYes X2.here hx rfl (pc0 := 234) (pc' := 241) rfl (hb hby at_234) rfl ((if0 _ _).trans (teq hc234).1) (by decide) (by decide) (XS.iconst X2.here hx rfl (hb hby at_241) k)) ?_
    obtain ⟨_, _, ⟨T23, L23, k23, n23⟩, -, X23', ⟨Lc23, hQ23, l23, y23, z23⟩, st'⟩ := X2.specialBack hx (y := y12) rfl hown (mvT hZ (ow hw 21 rfl)) (mvT hZ (ow hw 22 rfl)) (mvT hZ (ow hw 23 rfl)) (by decide) (backOf (W := 1) (rmvbin l Z aw hw [] (1 : Int32) b2 h2 n0 SZ2 A2 f13 f14 f15 f16 f18 f12 f20 f21 f19 f22 f17 (by decide) Uc) hZ (ow hw 23 rfl) (ow hw 20 rfl) (by decide) (by decide)) (g := (mkF m 242 #[lv q0, se, lv q1, se, lv q2, se, iv p3, iv x7, iv x8, iv x9, iv x10, iv x11, iv x12, iv x13, iv x14, iv x15, iv x16, iv x17, rv x18, rv x19, rv x20, iv 0, rv x20, uu, uu, uu] [(.int 1), (.ref b2), (.ref b2)])) rfl (by rw [hml]; rfl) (Steps.refl _) (a := b2) (argsL := [(.int 1)]) (rest := [(.ref b2)]) (lenOf own_pd5 rfl) rfl (by show 2 * 0 + _ ≤ _; exact Nat.le_of_eq rfl) (hb hby at_242) (fun _ _ => ⟨rfl, e2, (by decide : 10 + 10 ≤ _), (by decide : 44 + 15 ≤ _)⟩)
    dsimp only [Pt.U, Pt.locs, Pt.cells, Pt.slots] at X23' l23 y23 z23 st' hQ23
    subst l23 y23 z23
    obtain ⟨rfl, NFq23, KPq23, p23_0⟩ := hQ23
    have X23 : Stand p l e room_1 s m #[(.long q0), (.long q1), (.long q2), (.int p3)] below meth c T23 _ 20 59 := X23'
    have NF23 := Fr.app NF0 NFq23
    have SZ23 : n0 ≤ T23.heap.size := Nat.le_trans SZ2 KPq23.1
    have f24 := f3.keep KPq23 (ninS Y7 nin0)
    have f25 := f4.keep KPq23 (ninS Y8 nin0)
    have f26 := f5.keep KPq23 (ninS Y9 nin0)
    have f27 := f6.keep KPq23 (ninS Ya nin0)
    have f28 := f7.keep KPq23 (ninS Yb nin0)
    have f29 := f8.keep KPq23 (ninS Yc nin0)
    have f30 := f9.keep KPq23 (ninS Yd nin0)
    have f31 := f10.keep KPq23 (ninS Ye nin0)
    have f32 := f11.keep KPq23 (ninS Yf nin0)
    have f33 := A2.keep KPq23
    refine op T23 (mkF m 247 #[lv q0, se, lv q1, se, lv q2, se, iv p3, iv x7, iv x8, iv x9, iv x10, iv x11, iv x12, iv x13, iv x14, iv x15, iv x16, iv x17, rv x18, rv x19, rv x20, iv 0, rv x20, rv b2, uu, uu] []) (fun _ k => st'.trans (XS.astore X23.here hx rfl (hb hby at_245) rfl rfl (l' := #[lv q0, se, lv q1, se, lv q2, se, iv p3, iv x7, iv x8, iv x9, iv x10, iv x11, iv x12, iv x13, iv x14, iv x15, iv x16, iv x17, rv x18, rv x19, rv x20, iv 0, rv x20, rv b2, uu, uu]) rfl k)) ?_
    exact g0_247a hw q0 q1 q2 p3  x7 x8 x9 x10 x11 x12 x13 x14 x15 x16 x17 x18 x19 x20 b2 rx18a rx18b rx18c rx19a rx19b rx19c (zS (1 : Int32)) HX (by have q := own_BS0 (own_wd x10); simp only [own_w, hc234, if_true, if_false] at q ⊢; exact q) Bd hml hZ T23 X23 (rfl : T23.heap = T23.heap) SZ23 NF23 f24 f25 f26 f27 f28 f29 f30 f31 f32 p23_0 Uc lt_x18_b2 lt_x19_b2 lt_x20_b2 G14 G18 G1a G1b G1c G1d
  · skip
    refine op T2 (mkF m 242 #[lv q0, se, lv q1, se, lv q2, se, iv p3, iv x7, iv x8, iv x9, iv x10, iv x11, iv x12, iv x13, iv x14, iv x15, iv x16, iv x17, rv x18, rv x19, rv x20, iv 0, rv x20, uu, uu, uu] [(.int 4), (.ref b2), (.ref b2)]) (fun _ k => XS.ifNo X2.here hx rfl (hb hby at_234) rfl ((if0 _ _).trans (feq hc234).1) (XS.iconst X2.here hx rfl (hb hby at_237) (XS.goto X2.here hx rfl (pc0 := 238) (pc' := 242) rfl (hb hby at_238) (by decide) (by decide) k))) ?_
    obtain ⟨_, _, ⟨T34, L34, k34, n34⟩, -, X34', ⟨Lc34, hQ34, l34, y34, z34⟩, st'⟩ := X2.specialBack hx (y := y12) rfl hown (mvT hZ (ow hw 21 rfl)) (mvT hZ (ow hw 22 rfl)) (mvT hZ (ow hw 23 rfl)) (by decide) (backOf (W := 1) (rmvbin l Z aw hw [] (4 : Int32) b2 h2 n0 SZ2 A2 f13 f14 f15 f16 f18 f12 f20 f21 f19 f22 f17 (by decide) Uc) hZ (ow hw 23 rfl) (ow hw 20 rfl) (by decide) (by decide)) (g := (mkF m 242 #[lv q0, se, lv q1, se, lv q2, se, iv p3, iv x7, iv x8, iv x9, iv x10, iv x11, iv x12, iv x13, iv x14, iv x15, iv x16, iv x17, rv x18, rv x19, rv x20, iv 0, rv x20, uu, uu, uu] [(.int 4), (.ref b2), (.ref b2)])) rfl (by rw [hml]; rfl) (Steps.refl _) (a := b2) (argsL := [(.int 4)]) (rest := [(.ref b2)]) (lenOf own_pd5 rfl) rfl (by show 2 * 0 + _ ≤ _; exact Nat.le_of_eq rfl) (hb hby at_242) (fun _ _ => ⟨rfl, e2, (by decide : 10 + 10 ≤ _), (by decide : 44 + 15 ≤ _)⟩)
    dsimp only [Pt.U, Pt.locs, Pt.cells, Pt.slots] at X34' l34 y34 z34 st' hQ34
    subst l34 y34 z34
    obtain ⟨rfl, NFq34, KPq34, p34_0⟩ := hQ34
    have X34 : Stand p l e room_1 s m #[(.long q0), (.long q1), (.long q2), (.int p3)] below meth c T34 _ 20 59 := X34'
    have NF34 := Fr.app NF0 NFq34
    have SZ34 : n0 ≤ T34.heap.size := Nat.le_trans SZ2 KPq34.1
    have f35 := f3.keep KPq34 (ninS Y7 nin0)
    have f36 := f4.keep KPq34 (ninS Y8 nin0)
    have f37 := f5.keep KPq34 (ninS Y9 nin0)
    have f38 := f6.keep KPq34 (ninS Ya nin0)
    have f39 := f7.keep KPq34 (ninS Yb nin0)
    have f40 := f8.keep KPq34 (ninS Yc nin0)
    have f41 := f9.keep KPq34 (ninS Yd nin0)
    have f42 := f10.keep KPq34 (ninS Ye nin0)
    have f43 := f11.keep KPq34 (ninS Yf nin0)
    have f44 := A2.keep KPq34
    refine op T34 (mkF m 247 #[lv q0, se, lv q1, se, lv q2, se, iv p3, iv x7, iv x8, iv x9, iv x10, iv x11, iv x12, iv x13, iv x14, iv x15, iv x16, iv x17, rv x18, rv x19, rv x20, iv 0, rv x20, rv b2, uu, uu] []) (fun _ k => st'.trans (XS.astore X34.here hx rfl (hb hby at_245) rfl rfl (l' := #[lv q0, se, lv q1, se, lv q2, se, iv p3, iv x7, iv x8, iv x9, iv x10, iv x11, iv x12, iv x13, iv x14, iv x15, iv x16, iv x17, rv x18, rv x19, rv x20, iv 0, rv x20, rv b2, uu, uu]) rfl k)) ?_
    exact g0_247a hw q0 q1 q2 p3  x7 x8 x9 x10 x11 x12 x13 x14 x15 x16 x17 x18 x19 x20 b2 rx18a rx18b rx18c rx19a rx19b rx19c (zS (4 : Int32)) HX (by have q := own_BS0 (own_wd x10); simp only [own_w, hc234, if_true, if_false] at q ⊢; exact q) Bd hml hZ T34 X34 (rfl : T34.heap = T34.heap) SZ34 NF34 f35 f36 f37 f38 f39 f40 f41 f42 f43 p34_0 Uc lt_x18_b2 lt_x19_b2 lt_x20_b2 G14 G18 G1a G1b G1c G1d
def f0_166 (q0 q1 q2 : Int64) (p3 x7 x8 x9 x10 x11 x12 x13 x14 x15 x16 x17 : Int32) : Int32 := (if x9 = (0 : Int32) then (f0_201a q0 q1 q2 p3 x7 x8 x10 x11 x12 x13 x14 x15 x16 x17) else (if x8 < (2 : Int32) then (f0_201a q0 q1 q2 p3 x7 x8 x10 x11 x12 x13 x14 x15 x16 x17) else (f0_201b q0 q1 q2 p3 x7 x8 x10 x11 x12 x13 x14 x15 x16 x17)))
set_option maxRecDepth 65536 in
set_option maxHeartbeats 40000000 in
theorem g0_166 (hw : HW aw Z) {h0 : Heap} {n0 : Nat} (q0 q1 q2 : Int64) (p3 x7 x8 x9 x10 x11 x12 x13 x14 x15 x16 x17 : Int32) (x18 x19 rx18a rx18b rx18c rx19a rx19b rx19c : Addr) (HX : x10 = 0 ∨ x10 = 1)
    (Bd : BodyLoose p l x (head1 (Jvm.Cond.code x code maxLocals ret :: ws) room_1) code maxLocals ret e s m #[(.long q0), (.long q1), (.long q2), (.int p3)] below meth c s₁) (hml : c.maxLocals = 26) (hZ : Z.Warmed39 s.vm) (T0 : State) {locs : List Loc} (X0 : Stand p l e room_1 s m #[(.long q0), (.long q1), (.long q2), (.int p3)] below meth c T0 locs 8 30) {h : Heap} (e0 : T0.heap = h) (SZ0 : n0 ≤ h.size) (NF0 : Fr n0 locs) (Jo : own_Rv Z h x18 (3 : Int32) [.ref rx18a, .ref rx18b, .ref rx18c]) (Jp : own_G Z h rx18a (own_w x10) x12 (0 : Int32) x12 (0 : Int32)) (Jq : own_G Z h rx18b (own_w x10) x14 (0 : Int32) x14 (0 : Int32)) (Jr : own_G Z h rx18c (own_w x10) x16 (0 : Int32) x16 (0 : Int32)) (M8 : own_Rv Z h x19 (3 : Int32) [.ref rx19a, .ref rx19b, .ref rx19c]) (M9 : own_G Z h rx19a (own_w x10) x13 (0 : Int32) x13 (0 : Int32)) (Ma : own_G Z h rx19b (own_w x10) x15 (0 : Int32) x15 (0 : Int32)) (Mb : own_G Z h rx19c (own_w x10) x17 (0 : Int32) x17 (0 : Int32)) :
    own_Go p e below s room_1.cells room_1.slots (R0 (f0_166 q0 q1 q2 p3 x7 x8 x9 x10 x11 x12 x13 x14 x15 x16 x17)) (K0 Z q0 q1 q2 p3  h0 n0 (f0_166 q0 q1 q2 p3 x7 x8 x9 x10 x11 x12 x13 x14 x15 x16 x17)) (T0.setTop (mkF m 166 #[lv q0, se, lv q1, se, lv q2, se, iv p3, iv x7, iv x8, iv x9, iv x10, iv x11, iv x12, iv x13, iv x14, iv x15, iv x16, iv x17, rv x18, rv x19, uu, uu, uu, uu, uu, uu] [])) := by
  have hx := Bd.exec
  have hby := Bd.bytes
  have hown : s.vm.findClass cL = some m.cls := findClass_of_methodNamed Bd.named
  have hnm := (name_of_methodNamed Bd.named Bd.method).1
  unfold f0_166
  refine op T0 (mkF m 167 #[lv q0, se, lv q1, se, lv q2, se, iv p3, iv x7, iv x8, iv x9, iv x10, iv x11, iv x12, iv x13, iv x14, iv x15, iv x16, iv x17, rv x18, rv x19, uu, uu, uu, uu, uu, uu] [(.int 3)]) (fun _ k => XS.iconst X0.here hx rfl (hb hby at_166) k) ?_
  obtain ⟨T1, h1, k1, X1, e1, E1, A1, st'⟩ := newP X0 hx hZ (ow hw 16 rfl) e0 (g := (mkF m 167 #[lv q0, se, lv q1, se, lv q2, se, iv p3, iv x7, iv x8, iv x9, iv x10, iv x11, iv x12, iv x13, iv x14, iv x15, iv x16, iv x17, rv x18, rv x19, uu, uu, uu, uu, uu, uu] [(.int 3)])) rfl (hb hby at_167) rfl (by decide) (cap := 3) (by decide) (by decide) (by decide) (by decide)
  obtain ⟨b1, g1⟩ : ∃ z, z = h.size := ⟨_, rfl⟩
  rw [← g1] at A1 st'
  have lt_x18_b1 : x18 < b1 := Nat.lt_of_lt_of_le Jo.lt (Nat.le_of_eq g1.symm)
  have lt_rx18a_b1 : rx18a < b1 := Nat.lt_of_lt_of_le Jp.lt (Nat.le_of_eq g1.symm)
  have lt_rx18b_b1 : rx18b < b1 := Nat.lt_of_lt_of_le Jq.lt (Nat.le_of_eq g1.symm)
  have lt_rx18c_b1 : rx18c < b1 := Nat.lt_of_lt_of_le Jr.lt (Nat.le_of_eq g1.symm)
  have lt_x19_b1 : x19 < b1 := Nat.lt_of_lt_of_le M8.lt (Nat.le_of_eq g1.symm)
  have lt_rx19a_b1 : rx19a < b1 := Nat.lt_of_lt_of_le M9.lt (Nat.le_of_eq g1.symm)
  have lt_rx19b_b1 : rx19b < b1 := Nat.lt_of_lt_of_le Ma.lt (Nat.le_of_eq g1.symm)
  have lt_rx19c_b1 : rx19c < b1 := Nat.lt_of_lt_of_le Mb.lt (Nat.le_of_eq g1.symm)
  have Uy : n0 ≤ b1 := Nat.le_trans SZ0 (Nat.le_of_eq g1.symm)
  have Wx : x18 ≠ b1 := Nat.ne_of_lt (Nat.lt_of_lt_of_le Jo.lt (Nat.le_of_eq g1.symm))
  have Wy : rx18a ≠ b1 := Nat.ne_of_lt (Nat.lt_of_lt_of_le Jp.lt (Nat.le_of_eq g1.symm))
  have Wz : rx18b ≠ b1 := Nat.ne_of_lt (Nat.lt_of_lt_of_le Jq.lt (Nat.le_of_eq g1.symm))
  have Y0 : rx18c ≠ b1 := Nat.ne_of_lt (Nat.lt_of_lt_of_le Jr.lt (Nat.le_of_eq g1.symm))
  have ne_x19_b1 : x19 ≠ b1 := Nat.ne_of_lt (Nat.lt_of_lt_of_le M8.lt (Nat.le_of_eq g1.symm))
  have G1e : rx19a ≠ b1 := Nat.ne_of_lt (Nat.lt_of_lt_of_le M9.lt (Nat.le_of_eq g1.symm))
  have G1f : rx19b ≠ b1 := Nat.ne_of_lt (Nat.lt_of_lt_of_le Ma.lt (Nat.le_of_eq g1.symm))
  have G1g : rx19c ≠ b1 := Nat.ne_of_lt (Nat.lt_of_lt_of_le Mb.lt (Nat.le_of_eq g1.symm))
  have SZ1 : n0 ≤ h1.size := Nat.le_trans SZ0 E1.1
  have f2 := Jo.ext E1
  have f3 := Jp.ext E1
  have f4 := Jq.ext E1
  have f5 := Jr.ext E1
  have f6 := M8.ext E1
  have f7 := M9.ext E1
  have f8 := Ma.ext E1
  have f9 := Mb.ext E1
  have f10 : own_Iv Z h1 b1 (3 : Int32) [(0 : Int32), (0 : Int32), (0 : Int32)] := ⟨_, (Arv.new A1 (by decide)).pad (pad_rep [] (.int 0) 3)⟩
  refine op T1 (mkF m 172 #[lv q0, se, lv q1, se, lv q2, se, iv p3, iv x7, iv x8, iv x9, iv x10, iv x11, iv x12, iv x13, iv x14, iv x15, iv x16, iv x17, rv x18, rv x19, uu, uu, uu, uu, uu, uu] [(.int 0), (.int 0), (.ref b1), (.ref b1)]) (fun _ k => st' _ (XS.dup X1.here hx rfl (hb hby at_169) rfl rfl (XS.iconst X1.here hx rfl (hb hby at_170) (XS.iconst X1.here hx rfl (hb hby at_171) k)))) ?_
  obtain ⟨k11, cl11, Ar11, q11, S11, N11, H11, G11⟩ := id f10
  have hin11 : ¬ ((0 : Int32) < 0 ∨ cl11.slots.size ≤ ((0 : Int32)).toNatClampNeg) := inb_of S11 ⟨by decide, by decide⟩
  obtain ⟨T11, h11, X11, e11, W11, st'⟩ := stI X1 hx hZ e1 Ar11 (j := (0 : Int32)) hin11 (g := (mkF m 172 #[lv q0, se, lv q1, se, lv q2, se, iv p3, iv x7, iv x8, iv x9, iv x10, iv x11, iv x12, iv x13, iv x14, iv x15, iv x16, iv x17, rv x18, rv x19, uu, uu, uu, uu, uu, uu] [(.int 0), (.int 0), (.ref b1), (.ref b1)])) rfl rfl (hb hby at_172)
  have f12 : own_Iv Z h11 b1 (3 : Int32) [(0 : Int32), (0 : Int32), (0 : Int32)] := ⟨_, Arv.set Ar11 q11 S11 N11 H11 G11 rfl W11 0 rfl (Nat.le_of_ble_eq_true rfl)⟩
  have f13 := f2.other W11 Wx
  have f14 := f3.other W11 Wy
  have f15 := f4.other W11 Wz
  have f16 := f5.other W11 Y0
  have f17 := f6.other W11 ne_x19_b1
  have f18 := f7.other W11 G1e
  have f19 := f8.other W11 G1f
  have f20 := f9.other W11 G1g
  have NF11 := Fr.snoc X11 NF0 Uy
  have SZ11 : n0 ≤ h11.size := (Nat.le_trans SZ1 (Keep.of_wr W11).1)
  refine op T11 (mkF m 176 #[lv q0, se, lv q1, se, lv q2, se, iv p3, iv x7, iv x8, iv x9, iv x10, iv x11, iv x12, iv x13, iv x14, iv x15, iv x16, iv x17, rv x18, rv x19, uu, uu, uu, uu, uu, uu] [(.int 1), (.int 1), (.ref b1), (.ref b1)]) (fun _ k => st' _ (XS.dup X11.here hx rfl (hb hby at_173) rfl rfl (XS.iconst X11.here hx rfl (hb hby at_174) (XS.iconst X11.here hx rfl (hb hby at_175) k)))) ?_
  obtain ⟨k21, cl21, Ar21, q21, S21, N21, H21, G21⟩ := id f12
  have hin21 : ¬ ((1 : Int32) < 0 ∨ cl21.slots.size ≤ ((1 : Int32)).toNatClampNeg) := inb_of S21 ⟨by decide, by decide⟩
  obtain ⟨T21, h21, X21, e21, W21, st'⟩ := stI X11 hx hZ e11 Ar21 (j := (1 : Int32)) hin21 (g := (mkF m 176 #[lv q0, se, lv q1, se, lv q2, se, iv p3, iv x7, iv x8, iv x9, iv x10, iv x11, iv x12, iv x13, iv x14, iv x15, iv x16, iv x17, rv x18, rv x19, uu, uu, uu, uu, uu, uu] [(.int 1), (.int 1), (.ref b1), (.ref b1)])) rfl rfl (hb hby at_176)
  have f22 : own_Iv Z h21 b1 (3 : Int32) [(0 : Int32), (1 : Int32), (0 : Int32)] := ⟨_, Arv.set Ar21 q21 S21 N21 H21 G21 rfl W21 1 rfl (Nat.le_of_ble_eq_true rfl)⟩
  have f23 := f13.other W21 Wx
  have f24 := f14.other W21 Wy
  have f25 := f15.other W21 Wz
  have f26 := f16.other W21 Y0
  have f27 := f17.other W21 ne_x19_b1
  have f28 := f18.other W21 G1e
  have f29 := f19.other W21 G1f
  have f30 := f20.other W21 G1g
  have NF21 := Fr.snoc X21 NF11 Uy
  have SZ21 : n0 ≤ h21.size := (Nat.le_trans SZ11 (Keep.of_wr W21).1)
  refine op T21 (mkF m 180 #[lv q0, se, lv q1, se, lv q2, se, iv p3, iv x7, iv x8, iv x9, iv x10, iv x11, iv x12, iv x13, iv x14, iv x15, iv x16, iv x17, rv x18, rv x19, uu, uu, uu, uu, uu, uu] [(.int 2), (.int 2), (.ref b1), (.ref b1)]) (fun _ k => st' _ (XS.dup X21.here hx rfl (hb hby at_177) rfl rfl (XS.iconst X21.here hx rfl (hb hby at_178) (XS.iconst X21.here hx rfl (hb hby at_179) k)))) ?_
  obtain ⟨k31, cl31, Ar31, q31, S31, N31, H31, G31⟩ := id f22
  have hin31 : ¬ ((2 : Int32) < 0 ∨ cl31.slots.size ≤ ((2 : Int32)).toNatClampNeg) := inb_of S31 ⟨by decide, by decide⟩
  obtain ⟨T31, h31, X31, e31, W31, st'⟩ := stI X21 hx hZ e21 Ar31 (j := (2 : Int32)) hin31 (g := (mkF m 180 #[lv q0, se, lv q1, se, lv q2, se, iv p3, iv x7, iv x8, iv x9, iv x10, iv x11, iv x12, iv x13, iv x14, iv x15, iv x16, iv x17, rv x18, rv x19, uu, uu, uu, uu, uu, uu] [(.int 2), (.int 2), (.ref b1), (.ref b1)])) rfl rfl (hb hby at_180)
  have f32 : own_Iv Z h31 b1 (3 : Int32) [(0 : Int32), (1 : Int32), (2 : Int32)] := ⟨_, Arv.set Ar31 q31 S31 N31 H31 G31 rfl W31 2 rfl (Nat.le_of_ble_eq_true rfl)⟩
  have f33 := f23.other W31 Wx
  have f34 := f24.other W31 Wy
  have f35 := f25.other W31 Wz
  have f36 := f26.other W31 Y0
  have f37 := f27.other W31 ne_x19_b1
  have f38 := f28.other W31 G1e
  have f39 := f29.other W31 G1f
  have f40 := f30.other W31 G1g
  have NF31 := Fr.snoc X31 NF21 Uy
  have SZ31 : n0 ≤ h31.size := (Nat.le_trans SZ21 (Keep.of_wr W31).1)
  refine op T31 (mkF m 185 #[lv q0, se, lv q1, se, lv q2, se, iv p3, iv x7, iv x8, iv x9, iv x10, iv x11, iv x12, iv x13, iv x14, iv x15, iv x16, iv x17, rv x18, rv x19, rv b1, uu, uu, uu, uu, uu] [(.int x9)]) (fun _ k => st' _ (XS.astore X31.here hx rfl (hb hby at_181) rfl rfl (l' := #[lv q0, se, lv q1, se, lv q2, se, iv p3, iv x7, iv x8, iv x9, iv x10, iv x11, iv x12, iv x13, iv x14, iv x15, iv x16, iv x17, rv x18, rv x19, rv b1, uu, uu, uu, uu, uu]) rfl (XS.iload X31.here hx rfl (hb hby at_183) rfl k))) ?_
  refine own_iteT R0 (K0 Z q0 q1 q2 p3  h0 n0) (fun hc185 => ?_) (fun hc185 => ?_)
  · skip
    refine op T31 (mkF m 201 #[lv q0, se, lv q1, se, lv q2, se, iv p3, iv x7, iv x8, iv x9, iv x10, iv x11, iv x12, iv x13, iv x14, iv x15, iv x16, iv x17, rv x18, rv x19, rv b1, iv 0, uu, uu, uu, uu] []) (fun _ k => XS.ifYes X31.here hx rfl (pc0 := 185) (pc' := 198) rfl (hb hby at_185) rfl ((if0 _ _).trans (teq hc185).1) (by decide) (by decide) (XS.iconst X31.here hx rfl (hb hby at_198) (XS.istore X31.here hx rfl (hb hby at_199) rfl (l' := #[lv q0, se, lv q1, se, lv q2, se, iv p3, iv x7, iv x8, iv x9, iv x10, iv x11, iv x12, iv x13, iv x14, iv x15, iv x16, iv x17, rv x18, rv x19, rv b1, iv 0, uu, uu, uu, uu]) rfl k))) ?_
    exact g0_201a hw q0 q1 q2 p3  x7 x8 x9 x10 x11 x12 x13 x14 x15 x16 x17 x18 x19 b1 rx18a rx18b rx18c rx19a rx19b rx19c HX Bd hml hZ T31 X31 e31 SZ31 NF31 f33 f34 f35 f36 f37 f38 f39 f40 f32
  · skip
    refine op T31 (mkF m 191 #[lv q0, se, lv q1, se, lv q2, se, iv p3, iv x7, iv x8, iv x9, iv x10, iv x11, iv x12, iv x13, iv x14, iv x15, iv x16, iv x17, rv x18, rv x19, rv b1, uu, uu, uu, uu, uu] [(.int 2), (.int x8)]) (fun _ k => XS.ifNo X31.here hx rfl (hb hby at_185) rfl ((if0 _ _).trans (feq hc185).1) (XS.iload X31.here hx rfl (hb hby at_188) rfl (XS.iconst X31.here hx rfl (hb hby at_190) k))) ?_
    refine own_iteT R0 (K0 Z q0 q1 q2 p3  h0 n0) (fun hc191 => ?_) (fun hc191 => ?_)
    · skip
      refine op T31 (mkF m 201 #[lv q0, se, lv q1, se, lv q2, se, iv p3, iv x7, iv x8, iv x9, iv x10, iv x11, iv x12, iv x13, iv x14, iv x15, iv x16, iv x17, rv x18, rv x19, rv b1, iv 0, uu, uu, uu, uu] []) (fun _ k => XS.icmpYes X31.here hx rfl (pc0 := 191) (pc' := 198) rfl (hb hby at_191) rfl (tlt hc191).1 (by decide) (by decide) (XS.iconst X31.here hx rfl (hb hby at_198) (XS.istore X31.here hx rfl (hb hby at_199) rfl (l' := #[lv q0, se, lv q1, se, lv q2, se, iv p3, iv x7, iv x8, iv x9, iv x10, iv x11, iv x12, iv x13, iv x14, iv x15, iv x16, iv x17, rv x18, rv x19, rv b1, iv 0, uu, uu, uu, uu]) rfl k))) ?_
      exact g0_201a hw q0 q1 q2 p3  x7 x8 x9 x10 x11 x12 x13 x14 x15 x16 x17 x18 x19 b1 rx18a rx18b rx18c rx19a rx19b rx19c HX Bd hml hZ T31 X31 e31 SZ31 NF31 f33 f34 f35 f36 f37 f38 f39 f40 f32
    · skip
      refine op T31 (mkF m 201 #[lv q0, se, lv q1, se, lv q2, se, iv p3, iv x7, iv x8, iv x9, iv x10, iv x11, iv x12, iv x13, iv x14, iv x15, iv x16, iv x17, rv x18, rv x19, rv b1, iv 1, uu, uu, uu, uu] []) (fun _ k => XS.icmpNo X31.here hx rfl (hb hby at_191) rfl (flt hc191).1 (XS.iconst X31.here hx rfl (hb hby at_194) (XS.goto X31.here hx rfl (pc0 := 195) (pc' := 199) rfl (hb hby at_195) (by decide) (by decide) (XS.istore X31.here hx rfl (hb hby at_199) rfl (l' := #[lv q0, se, lv q1, se, lv q2, se, iv p3, iv x7, iv x8, iv x9, iv x10, iv x11, iv x12, iv x13, iv x14, iv x15, iv x16, iv x17, rv x18, rv x19, rv b1, iv 1, uu, uu, uu, uu]) rfl k)))) ?_
      exact g0_201b hw q0 q1 q2 p3  x7 x8 x9 x10 x11 x12 x13 x14 x15 x16 x17 x18 x19 b1 rx18a rx18b rx18c rx19a rx19b rx19c HX Bd hml hZ T31 X31 e31 SZ31 NF31 f33 f34 f35 f36 f37 f38 f39 f40 f32
def f0_130 (q0 q1 q2 : Int64) (p3 x7 x8 x9 x10 x11 x12 x13 x14 x15 x16 x17 : Int32) : Int32 := (f0_166 q0 q1 q2 p3 x7 x8 x9 x10 x11 x12 x13 x14 x15 x16 x17)
set_option maxRecDepth 65536 in
set_option maxHeartbeats 40000000 in
theorem g0_130 (hw : HW aw Z) {h0 : Heap} {n0 : Nat} (q0 q1 q2 : Int64) (p3 x7 x8 x9 x10 x11 x12 x13 x14 x15 x16 x17 : Int32) (x18 rx18a rx18b rx18c : Addr) (HX : x10 = 0 ∨ x10 = 1)
    (Bd : BodyLoose p l x (head1 (Jvm.Cond.code x code maxLocals ret :: ws) room_1) code maxLocals ret e s m #[(.long q0), (.long q1), (.long q2), (.int p3)] below meth c s₁) (hml : c.maxLocals = 26) (hZ : Z.Warmed39 s.vm) (T0 : State) {locs : List Loc} (X0 : Stand p l e room_1 s m #[(.long q0), (.long q1), (.long q2), (.int p3)] below meth c T0 locs 4 15) {h : Heap} (e0 : T0.heap = h) (SZ0 : n0 ≤ h.size) (NF0 : Fr n0 locs) (Jo : own_Rv Z h x18 (3 : Int32) [.ref rx18a, .ref rx18b, .ref rx18c]) (Jp : own_G Z h rx18a (own_w x10) x12 (0 : Int32) x12 (0 : Int32)) (Jq : own_G Z h rx18b (own_w x10) x14 (0 : Int32) x14 (0 : Int32)) (Jr : own_G Z h rx18c (own_w x10) x16 (0 : Int32) x16 (0 : Int32)) :
    own_Go p e below s room_1.cells room_1.slots (R0 (f0_130 q0 q1 q2 p3 x7 x8 x9 x10 x11 x12 x13 x14 x15 x16 x17)) (K0 Z q0 q1 q2 p3  h0 n0 (f0_130 q0 q1 q2 p3 x7 x8 x9 x10 x11 x12 x13 x14 x15 x16 x17)) (T0.setTop (mkF m 130 #[lv q0, se, lv q1, se, lv q2, se, iv p3, iv x7, iv x8, iv x9, iv x10, iv x11, iv x12, iv x13, iv x14, iv x15, iv x16, iv x17, rv x18, uu, uu, uu, uu, uu, uu, uu] [])) := by
  have hx := Bd.exec
  have hby := Bd.bytes
  have hown : s.vm.findClass cL = some m.cls := findClass_of_methodNamed Bd.named
  have hnm := (name_of_methodNamed Bd.named Bd.method).1
  unfold f0_130
  refine op T0 (mkF m 131 #[lv q0, se, lv q1, se, lv q2, se, iv p3, iv x7, iv x8, iv x9, iv x10, iv x11, iv x12, iv x13, iv x14, iv x15, iv x16, iv x17, rv x18, uu, uu, uu, uu, uu, uu, uu] [(.int 3)]) (fun _ k => XS.iconst X0.here hx rfl (hb hby at_130) k) ?_
  obtain ⟨T1, h1, k1, X1, e1, E1, A1, -, O1, st'⟩ := newRA X0 hx hZ hown (C := "[I") (ty := .int) rfl (ow hw 11 rfl) (ow hw 12 rfl) e0 (g := (mkF m 131 #[lv q0, se, lv q1, se, lv q2, se, iv p3, iv x7, iv x8, iv x9, iv x10, iv x11, iv x12, iv x13, iv x14, iv x15, iv x16, iv x17, rv x18, uu, uu, uu, uu, uu, uu, uu] [(.int 3)])) rfl (hb hby at_131) rfl (by decide) (cap := 3) (by decide) (by decide) (by decide) (by decide) (ad := "[[I") rfl
  obtain ⟨b1, g1⟩ : ∃ z, z = h.size := ⟨_, rfl⟩
  rw [← g1] at A1 st'
  have lt_x18_b1 : x18 < b1 := Nat.lt_of_lt_of_le Jo.lt (Nat.le_of_eq g1.symm)
  have lt_rx18a_b1 : rx18a < b1 := Nat.lt_of_lt_of_le Jp.lt (Nat.le_of_eq g1.symm)
  have lt_rx18b_b1 : rx18b < b1 := Nat.lt_of_lt_of_le Jq.lt (Nat.le_of_eq g1.symm)
  have lt_rx18c_b1 : rx18c < b1 := Nat.lt_of_lt_of_le Jr.lt (Nat.le_of_eq g1.symm)
  have Uy : n0 ≤ b1 := Nat.le_trans SZ0 (Nat.le_of_eq g1.symm)
  have Wx : x18 ≠ b1 := Nat.ne_of_lt (Nat.lt_of_lt_of_le Jo.lt (Nat.le_of_eq g1.symm))
  have Wy : rx18a ≠ b1 := Nat.ne_of_lt (Nat.lt_of_lt_of_le Jp.lt (Nat.le_of_eq g1.symm))
  have Wz : rx18b ≠ b1 := Nat.ne_of_lt (Nat.lt_of_lt_of_le Jq.lt (Nat.le_of_eq g1.symm))
  have Y0 : rx18c ≠ b1 := Nat.ne_of_lt (Nat.lt_of_lt_of_le Jr.lt (Nat.le_of_eq g1.symm))
  have SZ1 : n0 ≤ h1.size := Nat.le_trans SZ0 E1.1
  have f2 := Jo.ext E1
  have f3 := Jp.ext E1
  have f4 := Jq.ext E1
  have f5 := Jr.ext E1
  have f6 : own_Rv Z h1 b1 (3 : Int32) [.null, .null, .null] := ⟨_, (Arv.new A1 (by decide)).pad (pad_rep [] .null 3), O1⟩
  refine op T1 (mkF m 140 #[lv q0, se, lv q1, se, lv q2, se, iv p3, iv x7, iv x8, iv x9, iv x10, iv x11, iv x12, iv x13, iv x14, iv x15, iv x16, iv x17, rv x18, uu, uu, uu, uu, uu, uu, uu] [(.int x10), (.int x13), (.int 0), (.ref b1), (.ref b1)]) (fun _ k => st' _ (XS.dup X1.here hx rfl (hb hby at_134) rfl rfl (XS.iconst X1.here hx rfl (hb hby at_135) (XS.iload X1.here hx rfl (hb hby at_136) rfl (XS.iload X1.here hx rfl (hb hby at_138) rfl k))))) ?_
  obtain ⟨_, _, ⟨T7, L7, k7, n7⟩, -, X7', ⟨Lc7, hQ7, l7, y7, z7⟩, st'⟩ := Jvm.LawKit.callS X1 hx (y := y16) hown (mvT hZ (ow hw 13 rfl)) (mvT hZ (ow hw 14 rfl)) (mvT hZ (ow hw 2 rfl)) (mvT hZ (ow hw 15 rfl)) (by decide) (backOf (W := 3) (rmgdr l Z aw hw [] x13 x10  h1 n0 SZ1 HX) hZ (ow hw 15 rfl) (ow hw 2 rfl) (by decide) (by decide)) (g := (mkF m 140 #[lv q0, se, lv q1, se, lv q2, se, iv p3, iv x7, iv x8, iv x9, iv x10, iv x11, iv x12, iv x13, iv x14, iv x15, iv x16, iv x17, rv x18, uu, uu, uu, uu, uu, uu, uu] [(.int x10), (.int x13), (.int 0), (.ref b1), (.ref b1)])) rfl (by rw [hml]; rfl) (argsL := [(.int x13), (.int x10)]) (rest := [(.int 0), (.ref b1), (.ref b1)]) (lenOf own_pd12 rfl) rfl (by show 2 * 0 + _ ≤ _; exact Nat.le_of_eq rfl) (hb hby at_140) (fun _ _ => ⟨rfl, e1, (by decide : 5 + 1 ≤ _), (by decide : 18 + 4 ≤ _)⟩)
  dsimp only [Pt.U, Pt.locs, Pt.cells, Pt.slots] at X7' l7 y7 z7 st' hQ7
  subst l7 y7 z7
  obtain ⟨rfl, NFq7, KPq7, p7_0, p7_1⟩ := hQ7
  have X7 : Stand p l e room_1 s m #[(.long q0), (.long q1), (.long q2), (.int p3)] below meth c T7 _ 6 22 := X7'
  have NF7 := Fr.app NF0 NFq7
  have SZ7 : n0 ≤ T7.heap.size := Nat.le_trans SZ1 KPq7.1
  obtain ⟨b7, g7⟩ : ∃ z, z = h1.size := ⟨_, rfl⟩
  simp only [Rgdr, ← g7] at st' p7_0 p7_1
  have g_b7 : n0 ≤ b7 := Nat.le_trans SZ1 (Nat.le_of_eq g7.symm)
  have ne_x18_b7 : x18 ≠ b7 := Nat.ne_of_lt (Nat.lt_of_lt_of_le f2.lt (Nat.le_of_eq g7.symm))
  have ne_rx18a_b7 : rx18a ≠ b7 := Nat.ne_of_lt (Nat.lt_of_lt_of_le f3.lt (Nat.le_of_eq g7.symm))
  have ne_rx18b_b7 : rx18b ≠ b7 := Nat.ne_of_lt (Nat.lt_of_lt_of_le f4.lt (Nat.le_of_eq g7.symm))
  have ne_rx18c_b7 : rx18c ≠ b7 := Nat.ne_of_lt (Nat.lt_of_lt_of_le f5.lt (Nat.le_of_eq g7.symm))
  have ne_b1_b7 : b1 ≠ b7 := Nat.ne_of_lt (Nat.lt_of_lt_of_le f6.lt (Nat.le_of_eq g7.symm))
  have f8 := f2.keep KPq7 nin0
  have f9 := f3.keep KPq7 nin0
  have f10 := f4.keep KPq7 nin0
  have f11 := f5.keep KPq7 nin0
  have f12 := f6.keep KPq7 nin0
  refine op T7 (mkF m 143 #[lv q0, se, lv q1, se, lv q2, se, iv p3, iv x7, iv x8, iv x9, iv x10, iv x11, iv x12, iv x13, iv x14, iv x15, iv x16, iv x17, rv x18, uu, uu, uu, uu, uu, uu, uu] [(.ref b7), (.int 0), (.ref b1), (.ref b1)]) (fun _ k => st' _ k) ?_
  obtain ⟨k13, ⟨cl13, Ar13, q13, S13, N13, H13, G13⟩, O13⟩ := id f12
  have hin13 : ¬ ((0 : Int32) < 0 ∨ cl13.slots.size ≤ ((0 : Int32)).toNatClampNeg) := inb_of S13 ⟨by decide, by decide⟩
  obtain ⟨T13, h13, X13, e13, W13, st'⟩ := stR X7 hx hZ (rfl : T7.heap = T7.heap) Ar13 (j := (0 : Int32)) hin13 rfl (Sto.ofVA Ar13 q13 O13 (Ins.self p7_1)) (g := (mkF m 143 #[lv q0, se, lv q1, se, lv q2, se, iv p3, iv x7, iv x8, iv x9, iv x10, iv x11, iv x12, iv x13, iv x14, iv x15, iv x16, iv x17, rv x18, uu, uu, uu, uu, uu, uu, uu] [(.ref b7), (.int 0), (.ref b1), (.ref b1)])) rfl rfl (hb hby at_143)
  have f14 : own_Rv Z h13 b1 (3 : Int32) [.ref b7, .null, .null] := ⟨_, Arv.set Ar13 q13 S13 N13 H13 G13 rfl W13 0 rfl (Nat.le_of_ble_eq_true rfl), O13⟩
  have f15 := f8.other W13 Wx
  have f16 := f9.other W13 Wy
  have f17 := f10.other W13 Wz
  have f18 := f11.other W13 Y0
  have f19 := p7_0.other W13 (Ne.symm ne_b1_b7)
  have NF13 := Fr.snoc X13 NF7 Uy
  have SZ13 : n0 ≤ h13.size := (Nat.le_trans SZ7 (Keep.of_wr W13).1)
  refine op T13 (mkF m 150 #[lv q0, se, lv q1, se, lv q2, se, iv p3, iv x7, iv x8, iv x9, iv x10, iv x11, iv x12, iv x13, iv x14, iv x15, iv x16, iv x17, rv x18, uu, uu, uu, uu, uu, uu, uu] [(.int x10), (.int x15), (.int 1), (.ref b1), (.ref b1)]) (fun _ k => st' _ (XS.dup X13.here hx rfl (hb hby at_144) rfl rfl (XS.iconst X13.here hx rfl (hb hby at_145) (XS.iload X13.here hx rfl (hb hby at_146) rfl (XS.iload X13.here hx rfl (hb hby at_148) rfl k))))) ?_
  obtain ⟨_, _, ⟨T20, L20, k20, n20⟩, -, X20', ⟨Lc20, hQ20, l20, y20, z20⟩, st'⟩ := Jvm.LawKit.callS X13 hx (y := y16) hown (mvT hZ (ow hw 13 rfl)) (mvT hZ (ow hw 14 rfl)) (mvT hZ (ow hw 2 rfl)) (mvT hZ (ow hw 15 rfl)) (by decide) (backOf (W := 3) (rmgdr l Z aw hw [] x15 x10  h13 n0 SZ13 HX) hZ (ow hw 15 rfl) (ow hw 2 rfl) (by decide) (by decide)) (g := (mkF m 150 #[lv q0, se, lv q1, se, lv q2, se, iv p3, iv x7, iv x8, iv x9, iv x10, iv x11, iv x12, iv x13, iv x14, iv x15, iv x16, iv x17, rv x18, uu, uu, uu, uu, uu, uu, uu] [(.int x10), (.int x15), (.int 1), (.ref b1), (.ref b1)])) rfl (by rw [hml]; rfl) (argsL := [(.int x15), (.int x10)]) (rest := [(.int 1), (.ref b1), (.ref b1)]) (lenOf own_pd12 rfl) rfl (by show 2 * 0 + _ ≤ _; exact Nat.le_of_eq rfl) (hb hby at_150) (fun _ _ => ⟨rfl, e13, (by decide : 6 + 1 ≤ _), (by decide : 22 + 4 ≤ _)⟩)
  dsimp only [Pt.U, Pt.locs, Pt.cells, Pt.slots] at X20' l20 y20 z20 st' hQ20
  subst l20 y20 z20
  obtain ⟨rfl, NFq20, KPq20, p20_0, p20_1⟩ := hQ20
  have X20 : Stand p l e room_1 s m #[(.long q0), (.long q1), (.long q2), (.int p3)] below meth c T20 _ 7 26 := X20'
  have NF20 := Fr.app NF13 NFq20
  have SZ20 : n0 ≤ T20.heap.size := Nat.le_trans SZ13 KPq20.1
  obtain ⟨b20, g20⟩ : ∃ z, z = h13.size := ⟨_, rfl⟩
  simp only [Rgdr, ← g20] at st' p20_0 p20_1
  have g_b20 : n0 ≤ b20 := Nat.le_trans SZ13 (Nat.le_of_eq g20.symm)
  have ne_x18_b20 : x18 ≠ b20 := Nat.ne_of_lt (Nat.lt_of_lt_of_le f15.lt (Nat.le_of_eq g20.symm))
  have ne_rx18a_b20 : rx18a ≠ b20 := Nat.ne_of_lt (Nat.lt_of_lt_of_le f16.lt (Nat.le_of_eq g20.symm))
  have ne_rx18b_b20 : rx18b ≠ b20 := Nat.ne_of_lt (Nat.lt_of_lt_of_le f17.lt (Nat.le_of_eq g20.symm))
  have ne_rx18c_b20 : rx18c ≠ b20 := Nat.ne_of_lt (Nat.lt_of_lt_of_le f18.lt (Nat.le_of_eq g20.symm))
  have ne_b1_b20 : b1 ≠ b20 := Nat.ne_of_lt (Nat.lt_of_lt_of_le f14.lt (Nat.le_of_eq g20.symm))
  have ne_b7_b20 : b7 ≠ b20 := Nat.ne_of_lt (Nat.lt_of_lt_of_le f19.lt (Nat.le_of_eq g20.symm))
  have f21 := f15.keep KPq20 nin0
  have f22 := f16.keep KPq20 nin0
  have f23 := f17.keep KPq20 nin0
  have f24 := f18.keep KPq20 nin0
  have f25 := f14.keep KPq20 nin0
  have f26 := f19.keep KPq20 nin0
  refine op T20 (mkF m 153 #[lv q0, se, lv q1, se, lv q2, se, iv p3, iv x7, iv x8, iv x9, iv x10, iv x11, iv x12, iv x13, iv x14, iv x15, iv x16, iv x17, rv x18, uu, uu, uu, uu, uu, uu, uu] [(.ref b20), (.int 1), (.ref b1), (.ref b1)]) (fun _ k => st' _ k) ?_
  obtain ⟨k27, ⟨cl27, Ar27, q27, S27, N27, H27, G27⟩, O27⟩ := id f25
  have hin27 : ¬ ((1 : Int32) < 0 ∨ cl27.slots.size ≤ ((1 : Int32)).toNatClampNeg) := inb_of S27 ⟨by decide, by decide⟩
  obtain ⟨T27, h27, X27, e27, W27, st'⟩ := stR X20 hx hZ (rfl : T20.heap = T20.heap) Ar27 (j := (1 : Int32)) hin27 rfl (Sto.ofVA Ar27 q27 O27 (Ins.self p20_1)) (g := (mkF m 153 #[lv q0, se, lv q1, se, lv q2, se, iv p3, iv x7, iv x8, iv x9, iv x10, iv x11, iv x12, iv x13, iv x14, iv x15, iv x16, iv x17, rv x18, uu, uu, uu, uu, uu, uu, uu] [(.ref b20), (.int 1), (.ref b1), (.ref b1)])) rfl rfl (hb hby at_153)
  have f28 : own_Rv Z h27 b1 (3 : Int32) [.ref b7, .ref b20, .null] := ⟨_, Arv.set Ar27 q27 S27 N27 H27 G27 rfl W27 1 rfl (Nat.le_of_ble_eq_true rfl), O27⟩
  have f29 := f21.other W27 Wx
  have f30 := f22.other W27 Wy
  have f31 := f23.other W27 Wz
  have f32 := f24.other W27 Y0
  have f33 := f26.other W27 (Ne.symm ne_b1_b7)
  have f34 := p20_0.other W27 (Ne.symm ne_b1_b20)
  have NF27 := Fr.snoc X27 NF20 Uy
  have SZ27 : n0 ≤ h27.size := (Nat.le_trans SZ20 (Keep.of_wr W27).1)
  refine op T27 (mkF m 160 #[lv q0, se, lv q1, se, lv q2, se, iv p3, iv x7, iv x8, iv x9, iv x10, iv x11, iv x12, iv x13, iv x14, iv x15, iv x16, iv x17, rv x18, uu, uu, uu, uu, uu, uu, uu] [(.int x10), (.int x17), (.int 2), (.ref b1), (.ref b1)]) (fun _ k => st' _ (XS.dup X27.here hx rfl (hb hby at_154) rfl rfl (XS.iconst X27.here hx rfl (hb hby at_155) (XS.iload X27.here hx rfl (hb hby at_156) rfl (XS.iload X27.here hx rfl (hb hby at_158) rfl k))))) ?_
  obtain ⟨_, _, ⟨T35, L35, k35, n35⟩, -, X35', ⟨Lc35, hQ35, l35, y35, z35⟩, st'⟩ := Jvm.LawKit.callS X27 hx (y := y16) hown (mvT hZ (ow hw 13 rfl)) (mvT hZ (ow hw 14 rfl)) (mvT hZ (ow hw 2 rfl)) (mvT hZ (ow hw 15 rfl)) (by decide) (backOf (W := 3) (rmgdr l Z aw hw [] x17 x10  h27 n0 SZ27 HX) hZ (ow hw 15 rfl) (ow hw 2 rfl) (by decide) (by decide)) (g := (mkF m 160 #[lv q0, se, lv q1, se, lv q2, se, iv p3, iv x7, iv x8, iv x9, iv x10, iv x11, iv x12, iv x13, iv x14, iv x15, iv x16, iv x17, rv x18, uu, uu, uu, uu, uu, uu, uu] [(.int x10), (.int x17), (.int 2), (.ref b1), (.ref b1)])) rfl (by rw [hml]; rfl) (argsL := [(.int x17), (.int x10)]) (rest := [(.int 2), (.ref b1), (.ref b1)]) (lenOf own_pd12 rfl) rfl (by show 2 * 0 + _ ≤ _; exact Nat.le_of_eq rfl) (hb hby at_160) (fun _ _ => ⟨rfl, e27, (by decide : 7 + 1 ≤ _), (by decide : 26 + 4 ≤ _)⟩)
  dsimp only [Pt.U, Pt.locs, Pt.cells, Pt.slots] at X35' l35 y35 z35 st' hQ35
  subst l35 y35 z35
  obtain ⟨rfl, NFq35, KPq35, p35_0, p35_1⟩ := hQ35
  have X35 : Stand p l e room_1 s m #[(.long q0), (.long q1), (.long q2), (.int p3)] below meth c T35 _ 8 30 := X35'
  have NF35 := Fr.app NF27 NFq35
  have SZ35 : n0 ≤ T35.heap.size := Nat.le_trans SZ27 KPq35.1
  obtain ⟨b35, g35⟩ : ∃ z, z = h27.size := ⟨_, rfl⟩
  simp only [Rgdr, ← g35] at st' p35_0 p35_1
  have g_b35 : n0 ≤ b35 := Nat.le_trans SZ27 (Nat.le_of_eq g35.symm)
  have ne_x18_b35 : x18 ≠ b35 := Nat.ne_of_lt (Nat.lt_of_lt_of_le f29.lt (Nat.le_of_eq g35.symm))
  have ne_rx18a_b35 : rx18a ≠ b35 := Nat.ne_of_lt (Nat.lt_of_lt_of_le f30.lt (Nat.le_of_eq g35.symm))
  have ne_rx18b_b35 : rx18b ≠ b35 := Nat.ne_of_lt (Nat.lt_of_lt_of_le f31.lt (Nat.le_of_eq g35.symm))
  have ne_rx18c_b35 : rx18c ≠ b35 := Nat.ne_of_lt (Nat.lt_of_lt_of_le f32.lt (Nat.le_of_eq g35.symm))
  have ne_b1_b35 : b1 ≠ b35 := Nat.ne_of_lt (Nat.lt_of_lt_of_le f28.lt (Nat.le_of_eq g35.symm))
  have ne_b7_b35 : b7 ≠ b35 := Nat.ne_of_lt (Nat.lt_of_lt_of_le f33.lt (Nat.le_of_eq g35.symm))
  have ne_b20_b35 : b20 ≠ b35 := Nat.ne_of_lt (Nat.lt_of_lt_of_le f34.lt (Nat.le_of_eq g35.symm))
  have f36 := f29.keep KPq35 nin0
  have f37 := f30.keep KPq35 nin0
  have f38 := f31.keep KPq35 nin0
  have f39 := f32.keep KPq35 nin0
  have f40 := f28.keep KPq35 nin0
  have f41 := f33.keep KPq35 nin0
  have f42 := f34.keep KPq35 nin0
  refine op T35 (mkF m 163 #[lv q0, se, lv q1, se, lv q2, se, iv p3, iv x7, iv x8, iv x9, iv x10, iv x11, iv x12, iv x13, iv x14, iv x15, iv x16, iv x17, rv x18, uu, uu, uu, uu, uu, uu, uu] [(.ref b35), (.int 2), (.ref b1), (.ref b1)]) (fun _ k => st' _ k) ?_
  obtain ⟨k43, ⟨cl43, Ar43, q43, S43, N43, H43, G43⟩, O43⟩ := id f40
  have hin43 : ¬ ((2 : Int32) < 0 ∨ cl43.slots.size ≤ ((2 : Int32)).toNatClampNeg) := inb_of S43 ⟨by decide, by decide⟩
  obtain ⟨T43, h43, X43, e43, W43, st'⟩ := stR X35 hx hZ (rfl : T35.heap = T35.heap) Ar43 (j := (2 : Int32)) hin43 rfl (Sto.ofVA Ar43 q43 O43 (Ins.self p35_1)) (g := (mkF m 163 #[lv q0, se, lv q1, se, lv q2, se, iv p3, iv x7, iv x8, iv x9, iv x10, iv x11, iv x12, iv x13, iv x14, iv x15, iv x16, iv x17, rv x18, uu, uu, uu, uu, uu, uu, uu] [(.ref b35), (.int 2), (.ref b1), (.ref b1)])) rfl rfl (hb hby at_163)
  have f44 : own_Rv Z h43 b1 (3 : Int32) [.ref b7, .ref b20, .ref b35] := ⟨_, Arv.set Ar43 q43 S43 N43 H43 G43 rfl W43 2 rfl (Nat.le_of_ble_eq_true rfl), O43⟩
  have f45 := f36.other W43 Wx
  have f46 := f37.other W43 Wy
  have f47 := f38.other W43 Wz
  have f48 := f39.other W43 Y0
  have f49 := f41.other W43 (Ne.symm ne_b1_b7)
  have f50 := f42.other W43 (Ne.symm ne_b1_b20)
  have f51 := p35_0.other W43 (Ne.symm ne_b1_b35)
  have NF43 := Fr.snoc X43 NF35 Uy
  have SZ43 : n0 ≤ h43.size := (Nat.le_trans SZ35 (Keep.of_wr W43).1)
  refine op T43 (mkF m 166 #[lv q0, se, lv q1, se, lv q2, se, iv p3, iv x7, iv x8, iv x9, iv x10, iv x11, iv x12, iv x13, iv x14, iv x15, iv x16, iv x17, rv x18, rv b1, uu, uu, uu, uu, uu, uu] []) (fun _ k => st' _ (XS.astore X43.here hx rfl (hb hby at_164) rfl rfl (l' := #[lv q0, se, lv q1, se, lv q2, se, iv p3, iv x7, iv x8, iv x9, iv x10, iv x11, iv x12, iv x13, iv x14, iv x15, iv x16, iv x17, rv x18, rv b1, uu, uu, uu, uu, uu, uu]) rfl k)) ?_
  exact g0_166 hw q0 q1 q2 p3  x7 x8 x9 x10 x11 x12 x13 x14 x15 x16 x17 x18 b1 rx18a rx18b rx18c b7 b20 b35 HX Bd hml hZ T43 X43 e43 SZ43 NF43 f45 f46 f47 f48 f44 f49 f50 f51
def f0_94 (q0 q1 q2 : Int64) (p3 x7 x8 x9 x10 x11 x12 x13 x14 x15 x16 x17 : Int32) : Int32 := (f0_130 q0 q1 q2 p3 x7 x8 x9 x10 x11 x12 x13 x14 x15 x16 x17)
set_option maxRecDepth 65536 in
set_option maxHeartbeats 40000000 in
theorem g0_94 (hw : HW aw Z) {h0 : Heap} {n0 : Nat} (q0 q1 q2 : Int64) (p3 x7 x8 x9 x10 x11 x12 x13 x14 x15 x16 x17 : Int32) (HX : x10 = 0 ∨ x10 = 1)
    (Bd : BodyLoose p l x (head1 (Jvm.Cond.code x code maxLocals ret :: ws) room_1) code maxLocals ret e s m #[(.long q0), (.long q1), (.long q2), (.int p3)] below meth c s₁) (hml : c.maxLocals = 26) (hZ : Z.Warmed39 s.vm) (T0 : State) {locs : List Loc} (X0 : Stand p l e room_1 s m #[(.long q0), (.long q1), (.long q2), (.int p3)] below meth c T0 locs 0 0) {h : Heap} (e0 : T0.heap = h) (SZ0 : n0 ≤ h.size) (NF0 : Fr n0 locs) :
    own_Go p e below s room_1.cells room_1.slots (R0 (f0_94 q0 q1 q2 p3 x7 x8 x9 x10 x11 x12 x13 x14 x15 x16 x17)) (K0 Z q0 q1 q2 p3  h0 n0 (f0_94 q0 q1 q2 p3 x7 x8 x9 x10 x11 x12 x13 x14 x15 x16 x17)) (T0.setTop (mkF m 94 #[lv q0, se, lv q1, se, lv q2, se, iv p3, iv x7, iv x8, iv x9, iv x10, iv x11, iv x12, iv x13, iv x14, iv x15, iv x16, iv x17, uu, uu, uu, uu, uu, uu, uu, uu] [])) := by
  have hx := Bd.exec
  have hby := Bd.bytes
  have hown : s.vm.findClass cL = some m.cls := findClass_of_methodNamed Bd.named
  have hnm := (name_of_methodNamed Bd.named Bd.method).1
  unfold f0_94
  refine op T0 (mkF m 95 #[lv q0, se, lv q1, se, lv q2, se, iv p3, iv x7, iv x8, iv x9, iv x10, iv x11, iv x12, iv x13, iv x14, iv x15, iv x16, iv x17, uu, uu, uu, uu, uu, uu, uu, uu] [(.int 3)]) (fun _ k => XS.iconst X0.here hx rfl (hb hby at_94) k) ?_
  obtain ⟨T1, h1, k1, X1, e1, E1, A1, -, O1, st'⟩ := newRA X0 hx hZ hown (C := "[I") (ty := .int) rfl (ow hw 11 rfl) (ow hw 12 rfl) e0 (g := (mkF m 95 #[lv q0, se, lv q1, se, lv q2, se, iv p3, iv x7, iv x8, iv x9, iv x10, iv x11, iv x12, iv x13, iv x14, iv x15, iv x16, iv x17, uu, uu, uu, uu, uu, uu, uu, uu] [(.int 3)])) rfl (hb hby at_95) rfl (by decide) (cap := 3) (by decide) (by decide) (by decide) (by decide) (ad := "[[I") rfl
  obtain ⟨b1, g1⟩ : ∃ z, z = h.size := ⟨_, rfl⟩
  rw [← g1] at A1 st'
  have Uy : n0 ≤ b1 := Nat.le_trans SZ0 (Nat.le_of_eq g1.symm)
  have SZ1 : n0 ≤ h1.size := Nat.le_trans SZ0 E1.1
  have f2 : own_Rv Z h1 b1 (3 : Int32) [.null, .null, .null] := ⟨_, (Arv.new A1 (by decide)).pad (pad_rep [] .null 3), O1⟩
  refine op T1 (mkF m 104 #[lv q0, se, lv q1, se, lv q2, se, iv p3, iv x7, iv x8, iv x9, iv x10, iv x11, iv x12, iv x13, iv x14, iv x15, iv x16, iv x17, uu, uu, uu, uu, uu, uu, uu, uu] [(.int x10), (.int x12), (.int 0), (.ref b1), (.ref b1)]) (fun _ k => st' _ (XS.dup X1.here hx rfl (hb hby at_98) rfl rfl (XS.iconst X1.here hx rfl (hb hby at_99) (XS.iload X1.here hx rfl (hb hby at_100) rfl (XS.iload X1.here hx rfl (hb hby at_102) rfl k))))) ?_
  obtain ⟨_, _, ⟨T3, L3, k3, n3⟩, -, X3', ⟨Lc3, hQ3, l3, y3, z3⟩, st'⟩ := Jvm.LawKit.callS X1 hx (y := y16) hown (mvT hZ (ow hw 13 rfl)) (mvT hZ (ow hw 14 rfl)) (mvT hZ (ow hw 2 rfl)) (mvT hZ (ow hw 15 rfl)) (by decide) (backOf (W := 3) (rmgdr l Z aw hw [] x12 x10  h1 n0 SZ1 HX) hZ (ow hw 15 rfl) (ow hw 2 rfl) (by decide) (by decide)) (g := (mkF m 104 #[lv q0, se, lv q1, se, lv q2, se, iv p3, iv x7, iv x8, iv x9, iv x10, iv x11, iv x12, iv x13, iv x14, iv x15, iv x16, iv x17, uu, uu, uu, uu, uu, uu, uu, uu] [(.int x10), (.int x12), (.int 0), (.ref b1), (.ref b1)])) rfl (by rw [hml]; rfl) (argsL := [(.int x12), (.int x10)]) (rest := [(.int 0), (.ref b1), (.ref b1)]) (lenOf own_pd12 rfl) rfl (by show 2 * 0 + _ ≤ _; exact Nat.le_of_eq rfl) (hb hby at_104) (fun _ _ => ⟨rfl, e1, (by decide : 1 + 1 ≤ _), (by decide : 3 + 4 ≤ _)⟩)
  dsimp only [Pt.U, Pt.locs, Pt.cells, Pt.slots] at X3' l3 y3 z3 st' hQ3
  subst l3 y3 z3
  obtain ⟨rfl, NFq3, KPq3, p3_0, p3_1⟩ := hQ3
  have X3 : Stand p l e room_1 s m #[(.long q0), (.long q1), (.long q2), (.int p3)] below meth c T3 _ 2 7 := X3'
  have NF3 := Fr.app NF0 NFq3
  have SZ3 : n0 ≤ T3.heap.size := Nat.le_trans SZ1 KPq3.1
  obtain ⟨b3, g3⟩ : ∃ z, z = h1.size := ⟨_, rfl⟩
  simp only [Rgdr, ← g3] at st' p3_0 p3_1
  have g_b3 : n0 ≤ b3 := Nat.le_trans SZ1 (Nat.le_of_eq g3.symm)
  have ne_b1_b3 : b1 ≠ b3 := Nat.ne_of_lt (Nat.lt_of_lt_of_le f2.lt (Nat.le_of_eq g3.symm))
  have f4 := f2.keep KPq3 nin0
  refine op T3 (mkF m 107 #[lv q0, se, lv q1, se, lv q2, se, iv p3, iv x7, iv x8, iv x9, iv x10, iv x11, iv x12, iv x13, iv x14, iv x15, iv x16, iv x17, uu, uu, uu, uu, uu, uu, uu, uu] [(.ref b3), (.int 0), (.ref b1), (.ref b1)]) (fun _ k => st' _ k) ?_
  obtain ⟨k5, ⟨cl5, Ar5, q5, S5, N5, H5, G5⟩, O5⟩ := id f4
  have hin5 : ¬ ((0 : Int32) < 0 ∨ cl5.slots.size ≤ ((0 : Int32)).toNatClampNeg) := inb_of S5 ⟨by decide, by decide⟩
  obtain ⟨T5, h5, X5, e5, W5, st'⟩ := stR X3 hx hZ (rfl : T3.heap = T3.heap) Ar5 (j := (0 : Int32)) hin5 rfl (Sto.ofVA Ar5 q5 O5 (Ins.self p3_1)) (g := (mkF m 107 #[lv q0, se, lv q1, se, lv q2, se, iv p3, iv x7, iv x8, iv x9, iv x10, iv x11, iv x12, iv x13, iv x14, iv x15, iv x16, iv x17, uu, uu, uu, uu, uu, uu, uu, uu] [(.ref b3), (.int 0), (.ref b1), (.ref b1)])) rfl rfl (hb hby at_107)
  have f6 : own_Rv Z h5 b1 (3 : Int32) [.ref b3, .null, .null] := ⟨_, Arv.set Ar5 q5 S5 N5 H5 G5 rfl W5 0 rfl (Nat.le_of_ble_eq_true rfl), O5⟩
  have f7 := p3_0.other W5 (Ne.symm ne_b1_b3)
  have NF5 := Fr.snoc X5 NF3 Uy
  have SZ5 : n0 ≤ h5.size := (Nat.le_trans SZ3 (Keep.of_wr W5).1)
  refine op T5 (mkF m 114 #[lv q0, se, lv q1, se, lv q2, se, iv p3, iv x7, iv x8, iv x9, iv x10, iv x11, iv x12, iv x13, iv x14, iv x15, iv x16, iv x17, uu, uu, uu, uu, uu, uu, uu, uu] [(.int x10), (.int x14), (.int 1), (.ref b1), (.ref b1)]) (fun _ k => st' _ (XS.dup X5.here hx rfl (hb hby at_108) rfl rfl (XS.iconst X5.here hx rfl (hb hby at_109) (XS.iload X5.here hx rfl (hb hby at_110) rfl (XS.iload X5.here hx rfl (hb hby at_112) rfl k))))) ?_
  obtain ⟨_, _, ⟨T8, L8, k8, n8⟩, -, X8', ⟨Lc8, hQ8, l8, y8, z8⟩, st'⟩ := Jvm.LawKit.callS X5 hx (y := y16) hown (mvT hZ (ow hw 13 rfl)) (mvT hZ (ow hw 14 rfl)) (mvT hZ (ow hw 2 rfl)) (mvT hZ (ow hw 15 rfl)) (by decide) (backOf (W := 3) (rmgdr l Z aw hw [] x14 x10  h5 n0 SZ5 HX) hZ (ow hw 15 rfl) (ow hw 2 rfl) (by decide) (by decide)) (g := (mkF m 114 #[lv q0, se, lv q1, se, lv q2, se, iv p3, iv x7, iv x8, iv x9, iv x10, iv x11, iv x12, iv x13, iv x14, iv x15, iv x16, iv x17, uu, uu, uu, uu, uu, uu, uu, uu] [(.int x10), (.int x14), (.int 1), (.ref b1), (.ref b1)])) rfl (by rw [hml]; rfl) (argsL := [(.int x14), (.int x10)]) (rest := [(.int 1), (.ref b1), (.ref b1)]) (lenOf own_pd12 rfl) rfl (by show 2 * 0 + _ ≤ _; exact Nat.le_of_eq rfl) (hb hby at_114) (fun _ _ => ⟨rfl, e5, (by decide : 2 + 1 ≤ _), (by decide : 7 + 4 ≤ _)⟩)
  dsimp only [Pt.U, Pt.locs, Pt.cells, Pt.slots] at X8' l8 y8 z8 st' hQ8
  subst l8 y8 z8
  obtain ⟨rfl, NFq8, KPq8, p8_0, p8_1⟩ := hQ8
  have X8 : Stand p l e room_1 s m #[(.long q0), (.long q1), (.long q2), (.int p3)] below meth c T8 _ 3 11 := X8'
  have NF8 := Fr.app NF5 NFq8
  have SZ8 : n0 ≤ T8.heap.size := Nat.le_trans SZ5 KPq8.1
  obtain ⟨b8, g8⟩ : ∃ z, z = h5.size := ⟨_, rfl⟩
  simp only [Rgdr, ← g8] at st' p8_0 p8_1
  have g_b8 : n0 ≤ b8 := Nat.le_trans SZ5 (Nat.le_of_eq g8.symm)
  have ne_b1_b8 : b1 ≠ b8 := Nat.ne_of_lt (Nat.lt_of_lt_of_le f6.lt (Nat.le_of_eq g8.symm))
  have ne_b3_b8 : b3 ≠ b8 := Nat.ne_of_lt (Nat.lt_of_lt_of_le f7.lt (Nat.le_of_eq g8.symm))
  have f9 := f6.keep KPq8 nin0
  have f10 := f7.keep KPq8 nin0
  refine op T8 (mkF m 117 #[lv q0, se, lv q1, se, lv q2, se, iv p3, iv x7, iv x8, iv x9, iv x10, iv x11, iv x12, iv x13, iv x14, iv x15, iv x16, iv x17, uu, uu, uu, uu, uu, uu, uu, uu] [(.ref b8), (.int 1), (.ref b1), (.ref b1)]) (fun _ k => st' _ k) ?_
  obtain ⟨k11, ⟨cl11, Ar11, q11, S11, N11, H11, G11⟩, O11⟩ := id f9
  have hin11 : ¬ ((1 : Int32) < 0 ∨ cl11.slots.size ≤ ((1 : Int32)).toNatClampNeg) := inb_of S11 ⟨by decide, by decide⟩
  obtain ⟨T11, h11, X11, e11, W11, st'⟩ := stR X8 hx hZ (rfl : T8.heap = T8.heap) Ar11 (j := (1 : Int32)) hin11 rfl (Sto.ofVA Ar11 q11 O11 (Ins.self p8_1)) (g := (mkF m 117 #[lv q0, se, lv q1, se, lv q2, se, iv p3, iv x7, iv x8, iv x9, iv x10, iv x11, iv x12, iv x13, iv x14, iv x15, iv x16, iv x17, uu, uu, uu, uu, uu, uu, uu, uu] [(.ref b8), (.int 1), (.ref b1), (.ref b1)])) rfl rfl (hb hby at_117)
  have f12 : own_Rv Z h11 b1 (3 : Int32) [.ref b3, .ref b8, .null] := ⟨_, Arv.set Ar11 q11 S11 N11 H11 G11 rfl W11 1 rfl (Nat.le_of_ble_eq_true rfl), O11⟩
  have f13 := f10.other W11 (Ne.symm ne_b1_b3)
  have f14 := p8_0.other W11 (Ne.symm ne_b1_b8)
  have NF11 := Fr.snoc X11 NF8 Uy
  have SZ11 : n0 ≤ h11.size := (Nat.le_trans SZ8 (Keep.of_wr W11).1)
  refine op T11 (mkF m 124 #[lv q0, se, lv q1, se, lv q2, se, iv p3, iv x7, iv x8, iv x9, iv x10, iv x11, iv x12, iv x13, iv x14, iv x15, iv x16, iv x17, uu, uu, uu, uu, uu, uu, uu, uu] [(.int x10), (.int x16), (.int 2), (.ref b1), (.ref b1)]) (fun _ k => st' _ (XS.dup X11.here hx rfl (hb hby at_118) rfl rfl (XS.iconst X11.here hx rfl (hb hby at_119) (XS.iload X11.here hx rfl (hb hby at_120) rfl (XS.iload X11.here hx rfl (hb hby at_122) rfl k))))) ?_
  obtain ⟨_, _, ⟨T15, L15, k15, n15⟩, -, X15', ⟨Lc15, hQ15, l15, y15, z15⟩, st'⟩ := Jvm.LawKit.callS X11 hx (y := y16) hown (mvT hZ (ow hw 13 rfl)) (mvT hZ (ow hw 14 rfl)) (mvT hZ (ow hw 2 rfl)) (mvT hZ (ow hw 15 rfl)) (by decide) (backOf (W := 3) (rmgdr l Z aw hw [] x16 x10  h11 n0 SZ11 HX) hZ (ow hw 15 rfl) (ow hw 2 rfl) (by decide) (by decide)) (g := (mkF m 124 #[lv q0, se, lv q1, se, lv q2, se, iv p3, iv x7, iv x8, iv x9, iv x10, iv x11, iv x12, iv x13, iv x14, iv x15, iv x16, iv x17, uu, uu, uu, uu, uu, uu, uu, uu] [(.int x10), (.int x16), (.int 2), (.ref b1), (.ref b1)])) rfl (by rw [hml]; rfl) (argsL := [(.int x16), (.int x10)]) (rest := [(.int 2), (.ref b1), (.ref b1)]) (lenOf own_pd12 rfl) rfl (by show 2 * 0 + _ ≤ _; exact Nat.le_of_eq rfl) (hb hby at_124) (fun _ _ => ⟨rfl, e11, (by decide : 3 + 1 ≤ _), (by decide : 11 + 4 ≤ _)⟩)
  dsimp only [Pt.U, Pt.locs, Pt.cells, Pt.slots] at X15' l15 y15 z15 st' hQ15
  subst l15 y15 z15
  obtain ⟨rfl, NFq15, KPq15, p15_0, p15_1⟩ := hQ15
  have X15 : Stand p l e room_1 s m #[(.long q0), (.long q1), (.long q2), (.int p3)] below meth c T15 _ 4 15 := X15'
  have NF15 := Fr.app NF11 NFq15
  have SZ15 : n0 ≤ T15.heap.size := Nat.le_trans SZ11 KPq15.1
  obtain ⟨b15, g15⟩ : ∃ z, z = h11.size := ⟨_, rfl⟩
  simp only [Rgdr, ← g15] at st' p15_0 p15_1
  have g_b15 : n0 ≤ b15 := Nat.le_trans SZ11 (Nat.le_of_eq g15.symm)
  have ne_b1_b15 : b1 ≠ b15 := Nat.ne_of_lt (Nat.lt_of_lt_of_le f12.lt (Nat.le_of_eq g15.symm))
  have ne_b3_b15 : b3 ≠ b15 := Nat.ne_of_lt (Nat.lt_of_lt_of_le f13.lt (Nat.le_of_eq g15.symm))
  have ne_b8_b15 : b8 ≠ b15 := Nat.ne_of_lt (Nat.lt_of_lt_of_le f14.lt (Nat.le_of_eq g15.symm))
  have f16 := f12.keep KPq15 nin0
  have f17 := f13.keep KPq15 nin0
  have f18 := f14.keep KPq15 nin0
  refine op T15 (mkF m 127 #[lv q0, se, lv q1, se, lv q2, se, iv p3, iv x7, iv x8, iv x9, iv x10, iv x11, iv x12, iv x13, iv x14, iv x15, iv x16, iv x17, uu, uu, uu, uu, uu, uu, uu, uu] [(.ref b15), (.int 2), (.ref b1), (.ref b1)]) (fun _ k => st' _ k) ?_
  obtain ⟨k19, ⟨cl19, Ar19, q19, S19, N19, H19, G19⟩, O19⟩ := id f16
  have hin19 : ¬ ((2 : Int32) < 0 ∨ cl19.slots.size ≤ ((2 : Int32)).toNatClampNeg) := inb_of S19 ⟨by decide, by decide⟩
  obtain ⟨T19, h19, X19, e19, W19, st'⟩ := stR X15 hx hZ (rfl : T15.heap = T15.heap) Ar19 (j := (2 : Int32)) hin19 rfl (Sto.ofVA Ar19 q19 O19 (Ins.self p15_1)) (g := (mkF m 127 #[lv q0, se, lv q1, se, lv q2, se, iv p3, iv x7, iv x8, iv x9, iv x10, iv x11, iv x12, iv x13, iv x14, iv x15, iv x16, iv x17, uu, uu, uu, uu, uu, uu, uu, uu] [(.ref b15), (.int 2), (.ref b1), (.ref b1)])) rfl rfl (hb hby at_127)
  have f20 : own_Rv Z h19 b1 (3 : Int32) [.ref b3, .ref b8, .ref b15] := ⟨_, Arv.set Ar19 q19 S19 N19 H19 G19 rfl W19 2 rfl (Nat.le_of_ble_eq_true rfl), O19⟩
  have f21 := f17.other W19 (Ne.symm ne_b1_b3)
  have f22 := f18.other W19 (Ne.symm ne_b1_b8)
  have f23 := p15_0.other W19 (Ne.symm ne_b1_b15)
  have NF19 := Fr.snoc X19 NF15 Uy
  have SZ19 : n0 ≤ h19.size := (Nat.le_trans SZ15 (Keep.of_wr W19).1)
  refine op T19 (mkF m 130 #[lv q0, se, lv q1, se, lv q2, se, iv p3, iv x7, iv x8, iv x9, iv x10, iv x11, iv x12, iv x13, iv x14, iv x15, iv x16, iv x17, rv b1, uu, uu, uu, uu, uu, uu, uu] []) (fun _ k => st' _ (XS.astore X19.here hx rfl (hb hby at_128) rfl rfl (l' := #[lv q0, se, lv q1, se, lv q2, se, iv p3, iv x7, iv x8, iv x9, iv x10, iv x11, iv x12, iv x13, iv x14, iv x15, iv x16, iv x17, rv b1, uu, uu, uu, uu, uu, uu, uu]) rfl k)) ?_
  exact g0_130 hw q0 q1 q2 p3  x7 x8 x9 x10 x11 x12 x13 x14 x15 x16 x17 b1 b3 b8 b15 HX Bd hml hZ T19 X19 e19 SZ19 NF19 f20 f21 f22 f23
def f0_42 (q0 q1 q2 : Int64) (p3 x7 x8 x9 y0 : Int32) : Int32 := (f0_94 q0 q1 q2 p3 x7 x8 x9 y0 ((((p3.toUInt32 >>> ((6 : Int32) &&& 31).toUInt32).toInt32) &&& (32767 : Int32)).toUInt32.toUInt16.toUInt32.toInt32) (f1_0 q0) (f3_0 q0) (f1_0 q1) (f3_0 q1) (f1_0 q2) (f3_0 q2))
set_option maxRecDepth 65536 in
set_option maxHeartbeats 40000000 in
theorem g0_42 (hw : HW aw Z) {h0 : Heap} {n0 : Nat} (q0 q1 q2 : Int64) (p3 x7 x8 x9 y0 : Int32) (HX : y0 = 0 ∨ y0 = 1)
    (Bd : BodyLoose p l x (head1 (Jvm.Cond.code x code maxLocals ret :: ws) room_1) code maxLocals ret e s m #[(.long q0), (.long q1), (.long q2), (.int p3)] below meth c s₁) (hml : c.maxLocals = 26) (hZ : Z.Warmed39 s.vm) (T0 : State) {locs : List Loc} (X0 : Stand p l e room_1 s m #[(.long q0), (.long q1), (.long q2), (.int p3)] below meth c T0 locs 0 0) {h : Heap} (e0 : T0.heap = h) (SZ0 : n0 ≤ h.size) (NF0 : Fr n0 locs) :
    own_Go p e below s room_1.cells room_1.slots (R0 (f0_42 q0 q1 q2 p3 x7 x8 x9 y0)) (K0 Z q0 q1 q2 p3  h0 n0 (f0_42 q0 q1 q2 p3 x7 x8 x9 y0)) (T0.setTop (mkF m 42 #[lv q0, se, lv q1, se, lv q2, se, iv p3, iv x7, iv x8, iv x9, uu, uu, uu, uu, uu, uu, uu, uu, uu, uu, uu, uu, uu, uu, uu, uu] [(.int y0)])) := by
  have hx := Bd.exec
  have hby := Bd.bytes
  have hown : s.vm.findClass cL = some m.cls := findClass_of_methodNamed Bd.named
  have hnm := (name_of_methodNamed Bd.named Bd.method).1
  unfold f0_42
  refine op T0 (mkF m 56 #[lv q0, se, lv q1, se, lv q2, se, iv p3, iv x7, iv x8, iv x9, iv y0, iv ((((p3.toUInt32 >>> ((6 : Int32) &&& 31).toUInt32).toInt32) &&& (32767 : Int32)).toUInt32.toUInt16.toUInt32.toInt32), uu, uu, uu, uu, uu, uu, uu, uu, uu, uu, uu, uu, uu, uu] []) (fun _ k => XS.istore X0.here hx rfl (hb hby at_42) rfl (l' := #[lv q0, se, lv q1, se, lv q2, se, iv p3, iv x7, iv x8, iv x9, iv y0, uu, uu, uu, uu, uu, uu, uu, uu, uu, uu, uu, uu, uu, uu, uu]) rfl (XS.iload X0.here hx rfl (hb hby at_44) rfl (XS.bipush X0.here hx rfl (hb hby at_46) (XS.iushr X0.here hx rfl (hb hby at_48) rfl (XS.sipush X0.here hx rfl (hb hby at_49) (XS.iand X0.here hx rfl (hb hby at_52) rfl (XS.i2c X0.here hx rfl (hb hby at_53) rfl (XS.istore X0.here hx rfl (hb hby at_54) rfl (l' := #[lv q0, se, lv q1, se, lv q2, se, iv p3, iv x7, iv x8, iv x9, iv y0, iv ((((p3.toUInt32 >>> ((6 : Int32) &&& 31).toUInt32).toInt32) &&& (32767 : Int32)).toUInt32.toUInt16.toUInt32.toInt32), uu, uu, uu, uu, uu, uu, uu, uu, uu, uu, uu, uu, uu, uu]) rfl k)))))))) ?_
  refine op T0 (mkF m 57 #[lv q0, se, lv q1, se, lv q2, se, iv p3, iv x7, iv x8, iv x9, iv y0, iv ((((p3.toUInt32 >>> ((6 : Int32) &&& 31).toUInt32).toInt32) &&& (32767 : Int32)).toUInt32.toUInt16.toUInt32.toInt32), uu, uu, uu, uu, uu, uu, uu, uu, uu, uu, uu, uu, uu, uu] [(.long q0)]) (fun _ k => XS.lloadN X0.here hx rfl (hb hby at_56) rfl k) ?_
  obtain ⟨_, _, ⟨T1, L1, k1, n1⟩, -, X1', ⟨Lc1, hQ1, l1, y1, z1⟩, st'⟩ := Jvm.LawKit.callS X0 hx (y := y18) hown (mvT hZ (ow hw 0 rfl)) (mvT hZ (ow hw 1 rfl)) (mvT hZ (ow hw 2 rfl)) (mvT hZ (ow hw 3 rfl)) (by decide) (backOf (W := 0) (rm1 l Z aw hw [] q0 h) hZ (ow hw 3 rfl) (ow hw 2 rfl) (by decide) (by decide)) (g := (mkF m 57 #[lv q0, se, lv q1, se, lv q2, se, iv p3, iv x7, iv x8, iv x9, iv y0, iv ((((p3.toUInt32 >>> ((6 : Int32) &&& 31).toUInt32).toInt32) &&& (32767 : Int32)).toUInt32.toUInt16.toUInt32.toInt32), uu, uu, uu, uu, uu, uu, uu, uu, uu, uu, uu, uu, uu, uu] [(.long q0)])) rfl (by rw [hml]; rfl) (argsL := [(.long q0)]) (rest := []) (lenOf own_pd11 rfl) rfl (by show 2 * 0 + _ ≤ _; exact Nat.le_of_eq rfl) (hb hby at_57) (fun _ _ => ⟨rfl, e0, (by decide : 0 + 0 ≤ _), (by decide : 0 + 0 ≤ _)⟩)
  dsimp only [Pt.U, Pt.locs, Pt.cells, Pt.slots] at X1' l1 y1 z1 st' hQ1
  subst l1 y1 z1
  obtain ⟨rfl, rfl, e1⟩ := hQ1
  have X1 : Stand p l e room_1 s m #[(.long q0), (.long q1), (.long q2), (.int p3)] below meth c T1 _ 0 0 := own_locs X1'
  refine op T1 (mkF m 63 #[lv q0, se, lv q1, se, lv q2, se, iv p3, iv x7, iv x8, iv x9, iv y0, iv ((((p3.toUInt32 >>> ((6 : Int32) &&& 31).toUInt32).toInt32) &&& (32767 : Int32)).toUInt32.toUInt16.toUInt32.toInt32), iv (f1_0 q0), uu, uu, uu, uu, uu, uu, uu, uu, uu, uu, uu, uu, uu] [(.long q0)]) (fun _ k => st' _ (XS.istore X1.here hx rfl (hb hby at_60) rfl (l' := #[lv q0, se, lv q1, se, lv q2, se, iv p3, iv x7, iv x8, iv x9, iv y0, iv ((((p3.toUInt32 >>> ((6 : Int32) &&& 31).toUInt32).toInt32) &&& (32767 : Int32)).toUInt32.toUInt16.toUInt32.toInt32), iv (f1_0 q0), uu, uu, uu, uu, uu, uu, uu, uu, uu, uu, uu, uu, uu]) rfl (XS.lloadN X1.here hx rfl (hb hby at_62) rfl k))) ?_
  obtain ⟨_, _, ⟨T2, L2, k2, n2⟩, -, X2', ⟨Lc2, hQ2, l2, y2, z2⟩, st'⟩ := Jvm.LawKit.callS X1 hx (y := y19) hown (mvT hZ (ow hw 8 rfl)) (mvT hZ (ow hw 9 rfl)) (mvT hZ (ow hw 2 rfl)) (mvT hZ (ow hw 10 rfl)) (by decide) (backOf (W := 0) (rm3 l Z aw hw [] q0 h) hZ (ow hw 10 rfl) (ow hw 2 rfl) (by decide) (by decide)) (g := (mkF m 63 #[lv q0, se, lv q1, se, lv q2, se, iv p3, iv x7, iv x8, iv x9, iv y0, iv ((((p3.toUInt32 >>> ((6 : Int32) &&& 31).toUInt32).toInt32) &&& (32767 : Int32)).toUInt32.toUInt16.toUInt32.toInt32), iv (f1_0 q0), uu, uu, uu, uu, uu, uu, uu, uu, uu, uu, uu, uu, uu] [(.long q0)])) rfl (by rw [hml]; rfl) (argsL := [(.long q0)]) (rest := []) (lenOf own_pd11 rfl) rfl (by show 2 * 0 + _ ≤ _; exact Nat.le_of_eq rfl) (hb hby at_63) (fun _ _ => ⟨rfl, e1, (by decide : 0 + 0 ≤ _), (by decide : 0 + 0 ≤ _)⟩)
  dsimp only [Pt.U, Pt.locs, Pt.cells, Pt.slots] at X2' l2 y2 z2 st' hQ2
  subst l2 y2 z2
  obtain ⟨rfl, rfl, e2⟩ := hQ2
  have X2 : Stand p l e room_1 s m #[(.long q0), (.long q1), (.long q2), (.int p3)] below meth c T2 _ 0 0 := own_locs X2'
  refine op T2 (mkF m 69 #[lv q0, se, lv q1, se, lv q2, se, iv p3, iv x7, iv x8, iv x9, iv y0, iv ((((p3.toUInt32 >>> ((6 : Int32) &&& 31).toUInt32).toInt32) &&& (32767 : Int32)).toUInt32.toUInt16.toUInt32.toInt32), iv (f1_0 q0), iv (f3_0 q0), uu, uu, uu, uu, uu, uu, uu, uu, uu, uu, uu, uu] [(.long q1)]) (fun _ k => st' _ (XS.istore X2.here hx rfl (hb hby at_66) rfl (l' := #[lv q0, se, lv q1, se, lv q2, se, iv p3, iv x7, iv x8, iv x9, iv y0, iv ((((p3.toUInt32 >>> ((6 : Int32) &&& 31).toUInt32).toInt32) &&& (32767 : Int32)).toUInt32.toUInt16.toUInt32.toInt32), iv (f1_0 q0), iv (f3_0 q0), uu, uu, uu, uu, uu, uu, uu, uu, uu, uu, uu, uu]) rfl (XS.lloadN X2.here hx rfl (hb hby at_68) rfl k))) ?_
  obtain ⟨_, _, ⟨T3, L3, k3, n3⟩, -, X3', ⟨Lc3, hQ3, l3, y3, z3⟩, st'⟩ := Jvm.LawKit.callS X2 hx (y := y18) hown (mvT hZ (ow hw 0 rfl)) (mvT hZ (ow hw 1 rfl)) (mvT hZ (ow hw 2 rfl)) (mvT hZ (ow hw 3 rfl)) (by decide) (backOf (W := 0) (rm1 l Z aw hw [] q1 h) hZ (ow hw 3 rfl) (ow hw 2 rfl) (by decide) (by decide)) (g := (mkF m 69 #[lv q0, se, lv q1, se, lv q2, se, iv p3, iv x7, iv x8, iv x9, iv y0, iv ((((p3.toUInt32 >>> ((6 : Int32) &&& 31).toUInt32).toInt32) &&& (32767 : Int32)).toUInt32.toUInt16.toUInt32.toInt32), iv (f1_0 q0), iv (f3_0 q0), uu, uu, uu, uu, uu, uu, uu, uu, uu, uu, uu, uu] [(.long q1)])) rfl (by rw [hml]; rfl) (argsL := [(.long q1)]) (rest := []) (lenOf own_pd11 rfl) rfl (by show 2 * 0 + _ ≤ _; exact Nat.le_of_eq rfl) (hb hby at_69) (fun _ _ => ⟨rfl, e2, (by decide : 0 + 0 ≤ _), (by decide : 0 + 0 ≤ _)⟩)
  dsimp only [Pt.U, Pt.locs, Pt.cells, Pt.slots] at X3' l3 y3 z3 st' hQ3
  subst l3 y3 z3
  obtain ⟨rfl, rfl, e3⟩ := hQ3
  have X3 : Stand p l e room_1 s m #[(.long q0), (.long q1), (.long q2), (.int p3)] below meth c T3 _ 0 0 := own_locs X3'
  refine op T3 (mkF m 75 #[lv q0, se, lv q1, se, lv q2, se, iv p3, iv x7, iv x8, iv x9, iv y0, iv ((((p3.toUInt32 >>> ((6 : Int32) &&& 31).toUInt32).toInt32) &&& (32767 : Int32)).toUInt32.toUInt16.toUInt32.toInt32), iv (f1_0 q0), iv (f3_0 q0), iv (f1_0 q1), uu, uu, uu, uu, uu, uu, uu, uu, uu, uu, uu] [(.long q1)]) (fun _ k => st' _ (XS.istore X3.here hx rfl (hb hby at_72) rfl (l' := #[lv q0, se, lv q1, se, lv q2, se, iv p3, iv x7, iv x8, iv x9, iv y0, iv ((((p3.toUInt32 >>> ((6 : Int32) &&& 31).toUInt32).toInt32) &&& (32767 : Int32)).toUInt32.toUInt16.toUInt32.toInt32), iv (f1_0 q0), iv (f3_0 q0), iv (f1_0 q1), uu, uu, uu, uu, uu, uu, uu, uu, uu, uu, uu]) rfl (XS.lloadN X3.here hx rfl (hb hby at_74) rfl k))) ?_
  obtain ⟨_, _, ⟨T4, L4, k4, n4⟩, -, X4', ⟨Lc4, hQ4, l4, y4, z4⟩, st'⟩ := Jvm.LawKit.callS X3 hx (y := y19) hown (mvT hZ (ow hw 8 rfl)) (mvT hZ (ow hw 9 rfl)) (mvT hZ (ow hw 2 rfl)) (mvT hZ (ow hw 10 rfl)) (by decide) (backOf (W := 0) (rm3 l Z aw hw [] q1 h) hZ (ow hw 10 rfl) (ow hw 2 rfl) (by decide) (by decide)) (g := (mkF m 75 #[lv q0, se, lv q1, se, lv q2, se, iv p3, iv x7, iv x8, iv x9, iv y0, iv ((((p3.toUInt32 >>> ((6 : Int32) &&& 31).toUInt32).toInt32) &&& (32767 : Int32)).toUInt32.toUInt16.toUInt32.toInt32), iv (f1_0 q0), iv (f3_0 q0), iv (f1_0 q1), uu, uu, uu, uu, uu, uu, uu, uu, uu, uu, uu] [(.long q1)])) rfl (by rw [hml]; rfl) (argsL := [(.long q1)]) (rest := []) (lenOf own_pd11 rfl) rfl (by show 2 * 0 + _ ≤ _; exact Nat.le_of_eq rfl) (hb hby at_75) (fun _ _ => ⟨rfl, e3, (by decide : 0 + 0 ≤ _), (by decide : 0 + 0 ≤ _)⟩)
  dsimp only [Pt.U, Pt.locs, Pt.cells, Pt.slots] at X4' l4 y4 z4 st' hQ4
  subst l4 y4 z4
  obtain ⟨rfl, rfl, e4⟩ := hQ4
  have X4 : Stand p l e room_1 s m #[(.long q0), (.long q1), (.long q2), (.int p3)] below meth c T4 _ 0 0 := own_locs X4'
  refine op T4 (mkF m 82 #[lv q0, se, lv q1, se, lv q2, se, iv p3, iv x7, iv x8, iv x9, iv y0, iv ((((p3.toUInt32 >>> ((6 : Int32) &&& 31).toUInt32).toInt32) &&& (32767 : Int32)).toUInt32.toUInt16.toUInt32.toInt32), iv (f1_0 q0), iv (f3_0 q0), iv (f1_0 q1), iv (f3_0 q1), uu, uu, uu, uu, uu, uu, uu, uu, uu, uu] [(.long q2)]) (fun _ k => st' _ (XS.istore X4.here hx rfl (hb hby at_78) rfl (l' := #[lv q0, se, lv q1, se, lv q2, se, iv p3, iv x7, iv x8, iv x9, iv y0, iv ((((p3.toUInt32 >>> ((6 : Int32) &&& 31).toUInt32).toInt32) &&& (32767 : Int32)).toUInt32.toUInt16.toUInt32.toInt32), iv (f1_0 q0), iv (f3_0 q0), iv (f1_0 q1), iv (f3_0 q1), uu, uu, uu, uu, uu, uu, uu, uu, uu, uu]) rfl (XS.lload X4.here hx rfl (hb hby at_80) rfl k))) ?_
  obtain ⟨_, _, ⟨T5, L5, k5, n5⟩, -, X5', ⟨Lc5, hQ5, l5, y5, z5⟩, st'⟩ := Jvm.LawKit.callS X4 hx (y := y18) hown (mvT hZ (ow hw 0 rfl)) (mvT hZ (ow hw 1 rfl)) (mvT hZ (ow hw 2 rfl)) (mvT hZ (ow hw 3 rfl)) (by decide) (backOf (W := 0) (rm1 l Z aw hw [] q2 h) hZ (ow hw 3 rfl) (ow hw 2 rfl) (by decide) (by decide)) (g := (mkF m 82 #[lv q0, se, lv q1, se, lv q2, se, iv p3, iv x7, iv x8, iv x9, iv y0, iv ((((p3.toUInt32 >>> ((6 : Int32) &&& 31).toUInt32).toInt32) &&& (32767 : Int32)).toUInt32.toUInt16.toUInt32.toInt32), iv (f1_0 q0), iv (f3_0 q0), iv (f1_0 q1), iv (f3_0 q1), uu, uu, uu, uu, uu, uu, uu, uu, uu, uu] [(.long q2)])) rfl (by rw [hml]; rfl) (argsL := [(.long q2)]) (rest := []) (lenOf own_pd11 rfl) rfl (by show 2 * 0 + _ ≤ _; exact Nat.le_of_eq rfl) (hb hby at_82) (fun _ _ => ⟨rfl, e4, (by decide : 0 + 0 ≤ _), (by decide : 0 + 0 ≤ _)⟩)
  dsimp only [Pt.U, Pt.locs, Pt.cells, Pt.slots] at X5' l5 y5 z5 st' hQ5
  subst l5 y5 z5
  obtain ⟨rfl, rfl, e5⟩ := hQ5
  have X5 : Stand p l e room_1 s m #[(.long q0), (.long q1), (.long q2), (.int p3)] below meth c T5 _ 0 0 := own_locs X5'
  refine op T5 (mkF m 89 #[lv q0, se, lv q1, se, lv q2, se, iv p3, iv x7, iv x8, iv x9, iv y0, iv ((((p3.toUInt32 >>> ((6 : Int32) &&& 31).toUInt32).toInt32) &&& (32767 : Int32)).toUInt32.toUInt16.toUInt32.toInt32), iv (f1_0 q0), iv (f3_0 q0), iv (f1_0 q1), iv (f3_0 q1), iv (f1_0 q2), uu, uu, uu, uu, uu, uu, uu, uu, uu] [(.long q2)]) (fun _ k => st' _ (XS.istore X5.here hx rfl (hb hby at_85) rfl (l' := #[lv q0, se, lv q1, se, lv q2, se, iv p3, iv x7, iv x8, iv x9, iv y0, iv ((((p3.toUInt32 >>> ((6 : Int32) &&& 31).toUInt32).toInt32) &&& (32767 : Int32)).toUInt32.toUInt16.toUInt32.toInt32), iv (f1_0 q0), iv (f3_0 q0), iv (f1_0 q1), iv (f3_0 q1), iv (f1_0 q2), uu, uu, uu, uu, uu, uu, uu, uu, uu]) rfl (XS.lload X5.here hx rfl (hb hby at_87) rfl k))) ?_
  obtain ⟨_, _, ⟨T6, L6, k6, n6⟩, -, X6', ⟨Lc6, hQ6, l6, y6, z6⟩, st'⟩ := Jvm.LawKit.callS X5 hx (y := y19) hown (mvT hZ (ow hw 8 rfl)) (mvT hZ (ow hw 9 rfl)) (mvT hZ (ow hw 2 rfl)) (mvT hZ (ow hw 10 rfl)) (by decide) (backOf (W := 0) (rm3 l Z aw hw [] q2 h) hZ (ow hw 10 rfl) (ow hw 2 rfl) (by decide) (by decide)) (g := (mkF m 89 #[lv q0, se, lv q1, se, lv q2, se, iv p3, iv x7, iv x8, iv x9, iv y0, iv ((((p3.toUInt32 >>> ((6 : Int32) &&& 31).toUInt32).toInt32) &&& (32767 : Int32)).toUInt32.toUInt16.toUInt32.toInt32), iv (f1_0 q0), iv (f3_0 q0), iv (f1_0 q1), iv (f3_0 q1), iv (f1_0 q2), uu, uu, uu, uu, uu, uu, uu, uu, uu] [(.long q2)])) rfl (by rw [hml]; rfl) (argsL := [(.long q2)]) (rest := []) (lenOf own_pd11 rfl) rfl (by show 2 * 0 + _ ≤ _; exact Nat.le_of_eq rfl) (hb hby at_89) (fun _ _ => ⟨rfl, e5, (by decide : 0 + 0 ≤ _), (by decide : 0 + 0 ≤ _)⟩)
  dsimp only [Pt.U, Pt.locs, Pt.cells, Pt.slots] at X6' l6 y6 z6 st' hQ6
  subst l6 y6 z6
  obtain ⟨rfl, rfl, e6⟩ := hQ6
  have X6 : Stand p l e room_1 s m #[(.long q0), (.long q1), (.long q2), (.int p3)] below meth c T6 _ 0 0 := own_locs X6'
  refine op T6 (mkF m 94 #[lv q0, se, lv q1, se, lv q2, se, iv p3, iv x7, iv x8, iv x9, iv y0, iv ((((p3.toUInt32 >>> ((6 : Int32) &&& 31).toUInt32).toInt32) &&& (32767 : Int32)).toUInt32.toUInt16.toUInt32.toInt32), iv (f1_0 q0), iv (f3_0 q0), iv (f1_0 q1), iv (f3_0 q1), iv (f1_0 q2), iv (f3_0 q2), uu, uu, uu, uu, uu, uu, uu, uu] []) (fun _ k => st' _ (XS.istore X6.here hx rfl (hb hby at_92) rfl (l' := #[lv q0, se, lv q1, se, lv q2, se, iv p3, iv x7, iv x8, iv x9, iv y0, iv ((((p3.toUInt32 >>> ((6 : Int32) &&& 31).toUInt32).toInt32) &&& (32767 : Int32)).toUInt32.toUInt16.toUInt32.toInt32), iv (f1_0 q0), iv (f3_0 q0), iv (f1_0 q1), iv (f3_0 q1), iv (f1_0 q2), iv (f3_0 q2), uu, uu, uu, uu, uu, uu, uu, uu]) rfl k)) ?_
  exact g0_94 hw q0 q1 q2 p3  x7 x8 x9 y0 ((((p3.toUInt32 >>> ((6 : Int32) &&& 31).toUInt32).toInt32) &&& (32767 : Int32)).toUInt32.toUInt16.toUInt32.toInt32) (f1_0 q0) (f3_0 q0) (f1_0 q1) (f3_0 q1) (f1_0 q2) (f3_0 q2) HX Bd hml hZ T6 X6 e6 SZ0 NF0
def f0_27 (q0 q1 q2 : Int64) (p3 x7 x8 y0 : Int32) : Int32 := (if (p3 &&& (32 : Int32)) = (0 : Int32) then (f0_42 q0 q1 q2 p3 x7 x8 y0 (0 : Int32)) else (f0_42 q0 q1 q2 p3 x7 x8 y0 (1 : Int32)))
set_option maxRecDepth 65536 in
set_option maxHeartbeats 40000000 in
theorem g0_27 (hw : HW aw Z) {h0 : Heap} {n0 : Nat} (q0 q1 q2 : Int64) (p3 x7 x8 y0 : Int32)
    (Bd : BodyLoose p l x (head1 (Jvm.Cond.code x code maxLocals ret :: ws) room_1) code maxLocals ret e s m #[(.long q0), (.long q1), (.long q2), (.int p3)] below meth c s₁) (hml : c.maxLocals = 26) (hZ : Z.Warmed39 s.vm) (T0 : State) {locs : List Loc} (X0 : Stand p l e room_1 s m #[(.long q0), (.long q1), (.long q2), (.int p3)] below meth c T0 locs 0 0) {h : Heap} (e0 : T0.heap = h) (SZ0 : n0 ≤ h.size) (NF0 : Fr n0 locs) :
    own_Go p e below s room_1.cells room_1.slots (R0 (f0_27 q0 q1 q2 p3 x7 x8 y0)) (K0 Z q0 q1 q2 p3  h0 n0 (f0_27 q0 q1 q2 p3 x7 x8 y0)) (T0.setTop (mkF m 27 #[lv q0, se, lv q1, se, lv q2, se, iv p3, iv x7, iv x8, uu, uu, uu, uu, uu, uu, uu, uu, uu, uu, uu, uu, uu, uu, uu, uu, uu] [(.int y0)])) := by
  have hx := Bd.exec
  have hby := Bd.bytes
  have hown : s.vm.findClass cL = some m.cls := findClass_of_methodNamed Bd.named
  have hnm := (name_of_methodNamed Bd.named Bd.method).1
  unfold f0_27
  refine op T0 (mkF m 34 #[lv q0, se, lv q1, se, lv q2, se, iv p3, iv x7, iv x8, iv y0, uu, uu, uu, uu, uu, uu, uu, uu, uu, uu, uu, uu, uu, uu, uu, uu] [(.int (p3 &&& (32 : Int32)))]) (fun _ k => XS.istore X0.here hx rfl (hb hby at_27) rfl (l' := #[lv q0, se, lv q1, se, lv q2, se, iv p3, iv x7, iv x8, iv y0, uu, uu, uu, uu, uu, uu, uu, uu, uu, uu, uu, uu, uu, uu, uu, uu]) rfl (XS.iload X0.here hx rfl (hb hby at_29) rfl (XS.bipush X0.here hx rfl (hb hby at_31) (XS.iand X0.here hx rfl (hb hby at_33) rfl k)))) ?_
  refine own_iteT R0 (K0 Z q0 q1 q2 p3  h0 n0) (fun hc34 => ?_) (fun hc34 => ?_)
  · skip
    refine op T0 (mkF m 42 #[lv q0, se, lv q1, se, lv q2, se, iv p3, iv x7, iv x8, iv y0, uu, uu, uu, uu, uu, uu, uu, uu, uu, uu, uu, uu, uu, uu, uu, uu] [(.int 0)]) (fun _ k => XS.ifYes X0.here hx rfl (pc0 := 34) (pc' := 41) rfl (hb hby at_34) rfl ((if0 _ _).trans (teq hc34).1) (by decide) (by decide) (XS.iconst X0.here hx rfl (hb hby at_41) k)) ?_
    exact g0_42 hw q0 q1 q2 p3  x7 x8 y0 (0 : Int32) (by decide) Bd hml hZ T0 X0 e0 SZ0 NF0
  · skip
    refine op T0 (mkF m 42 #[lv q0, se, lv q1, se, lv q2, se, iv p3, iv x7, iv x8, iv y0, uu, uu, uu, uu, uu, uu, uu, uu, uu, uu, uu, uu, uu, uu, uu, uu] [(.int 1)]) (fun _ k => XS.ifNo X0.here hx rfl (hb hby at_34) rfl ((if0 _ _).trans (feq hc34).1) (XS.iconst X0.here hx rfl (hb hby at_37) (XS.goto X0.here hx rfl (pc0 := 38) (pc' := 42) rfl (hb hby at_38) (by decide) (by decide) k))) ?_
    exact g0_42 hw q0 q1 q2 p3  x7 x8 y0 (1 : Int32) (by decide) Bd hml hZ T0 X0 e0 SZ0 NF0
def f0_0 (q0 q1 q2 : Int64) (p3 : Int32) : Int32 := (if (p3 &&& (16 : Int32)) = (0 : Int32) then (f0_27 q0 q1 q2 p3 (p3 &&& (3 : Int32)) (((p3.toUInt32 >>> ((2 : Int32) &&& 31).toUInt32).toInt32) &&& (3 : Int32)) (0 : Int32)) else (f0_27 q0 q1 q2 p3 (p3 &&& (3 : Int32)) (((p3.toUInt32 >>> ((2 : Int32) &&& 31).toUInt32).toInt32) &&& (3 : Int32)) (1 : Int32)))
set_option maxRecDepth 65536 in
set_option maxHeartbeats 40000000 in
theorem g0_0 (hw : HW aw Z) {h0 : Heap} {n0 : Nat} (q0 q1 q2 : Int64) (p3 : Int32) 
    (Bd : BodyLoose p l x (head1 (Jvm.Cond.code x code maxLocals ret :: ws) room_1) code maxLocals ret e s m #[(.long q0), (.long q1), (.long q2), (.int p3)] below meth c s₁) (hml : c.maxLocals = 26) (hZ : Z.Warmed39 s.vm) (T0 : State) {locs : List Loc} (X0 : Stand p l e room_1 s m #[(.long q0), (.long q1), (.long q2), (.int p3)] below meth c T0 locs 0 0) (e0 : T0.heap = h0) (SZ0 : n0 ≤ h0.size) (NF0 : Fr n0 locs) :
    own_Go p e below s room_1.cells room_1.slots (R0 (f0_0 q0 q1 q2 p3)) (K0 Z q0 q1 q2 p3  h0 n0 (f0_0 q0 q1 q2 p3)) (T0.setTop (mkF m 0 #[lv q0, se, lv q1, se, lv q2, se, iv p3, uu, uu, uu, uu, uu, uu, uu, uu, uu, uu, uu, uu, uu, uu, uu, uu, uu, uu, uu] [])) := by
  have hx := Bd.exec
  have hby := Bd.bytes
  have hown : s.vm.findClass cL = some m.cls := findClass_of_methodNamed Bd.named
  have hnm := (name_of_methodNamed Bd.named Bd.method).1
  unfold f0_0
  refine op T0 (mkF m 11 #[lv q0, se, lv q1, se, lv q2, se, iv p3, iv (p3 &&& (3 : Int32)), uu, uu, uu, uu, uu, uu, uu, uu, uu, uu, uu, uu, uu, uu, uu, uu, uu, uu] [(.int 3), (.int ((p3.toUInt32 >>> ((2 : Int32) &&& 31).toUInt32).toInt32))]) (fun _ k => XS.iload X0.here hx rfl (hb hby at_0) rfl (XS.iconst X0.here hx rfl (hb hby at_2) (XS.iand X0.here hx rfl (hb hby at_3) rfl (XS.istore X0.here hx rfl (hb hby at_4) rfl (l' := #[lv q0, se, lv q1, se, lv q2, se, iv p3, iv (p3 &&& (3 : Int32)), uu, uu, uu, uu, uu, uu, uu, uu, uu, uu, uu, uu, uu, uu, uu, uu, uu, uu]) rfl (XS.iload X0.here hx rfl (hb hby at_6) rfl (XS.iconst X0.here hx rfl (hb hby at_8) (XS.iushr X0.here hx rfl (hb hby at_9) rfl (XS.iconst X0.here hx rfl (hb hby at_10) k)))))))) ?_
  refine op T0 (mkF m 19 #[lv q0, se, lv q1, se, lv q2, se, iv p3, iv (p3 &&& (3 : Int32)), iv (((p3.toUInt32 >>> ((2 : Int32) &&& 31).toUInt32).toInt32) &&& (3 : Int32)), uu, uu, uu, uu, uu, uu, uu, uu, uu, uu, uu, uu, uu, uu, uu, uu, uu] [(.int (p3 &&& (16 : Int32)))]) (fun _ k => XS.iand X0.here hx rfl (hb hby at_11) rfl (XS.istore X0.here hx rfl (hb hby at_12) rfl (l' := #[lv q0, se, lv q1, se, lv q2, se, iv p3, iv (p3 &&& (3 : Int32)), iv (((p3.toUInt32 >>> ((2 : Int32) &&& 31).toUInt32).toInt32) &&& (3 : Int32)), uu, uu, uu, uu, uu, uu, uu, uu, uu, uu, uu, uu, uu, uu, uu, uu, uu]) rfl (XS.iload X0.here hx rfl (hb hby at_14) rfl (XS.bipush X0.here hx rfl (hb hby at_16) (XS.iand X0.here hx rfl (hb hby at_18) rfl k))))) ?_
  refine own_iteT R0 (K0 Z q0 q1 q2 p3  h0 n0) (fun hc19 => ?_) (fun hc19 => ?_)
  · skip
    refine op T0 (mkF m 27 #[lv q0, se, lv q1, se, lv q2, se, iv p3, iv (p3 &&& (3 : Int32)), iv (((p3.toUInt32 >>> ((2 : Int32) &&& 31).toUInt32).toInt32) &&& (3 : Int32)), uu, uu, uu, uu, uu, uu, uu, uu, uu, uu, uu, uu, uu, uu, uu, uu, uu] [(.int 0)]) (fun _ k => XS.ifYes X0.here hx rfl (pc0 := 19) (pc' := 26) rfl (hb hby at_19) rfl ((if0 _ _).trans (teq hc19).1) (by decide) (by decide) (XS.iconst X0.here hx rfl (hb hby at_26) k)) ?_
    exact g0_27 hw q0 q1 q2 p3  (p3 &&& (3 : Int32)) (((p3.toUInt32 >>> ((2 : Int32) &&& 31).toUInt32).toInt32) &&& (3 : Int32)) (0 : Int32) Bd hml hZ T0 X0 e0 SZ0 NF0
  · skip
    refine op T0 (mkF m 27 #[lv q0, se, lv q1, se, lv q2, se, iv p3, iv (p3 &&& (3 : Int32)), iv (((p3.toUInt32 >>> ((2 : Int32) &&& 31).toUInt32).toInt32) &&& (3 : Int32)), uu, uu, uu, uu, uu, uu, uu, uu, uu, uu, uu, uu, uu, uu, uu, uu, uu] [(.int 1)]) (fun _ k => XS.ifNo X0.here hx rfl (hb hby at_19) rfl ((if0 _ _).trans (feq hc19).1) (XS.iconst X0.here hx rfl (hb hby at_22) (XS.goto X0.here hx rfl (pc0 := 23) (pc' := 27) rfl (hb hby at_23) (by decide) (by decide) k))) ?_
    exact g0_27 hw q0 q1 q2 p3  (p3 &&& (3 : Int32)) (((p3.toUInt32 >>> ((2 : Int32) &&& 31).toUInt32).toInt32) &&& (3 : Int32)) (1 : Int32) Bd hml hZ T0 X0 e0 SZ0 NF0
theorem ef_0 (m : MethodId) (q0 q1 q2 : Int64) (p3 : Int32) : entryFrame m #[(.long q0), (.long q1), (.long q2), (.int p3)] maxLocals = mkF m 0 #[lv q0, se, lv q1, se, lv q2, se, iv p3, uu, uu, uu, uu, uu, uu, uu, uu, uu, uu, uu, uu, uu, uu, uu, uu, uu, uu, uu] [] := by first | (simp [entryFrame, mkF, argsToLocals, Value.category, maxLocals]; done) | rfl
set_option maxRecDepth 65536 in
set_option maxHeartbeats 40000000 in
theorem rm0 (l : Launch) (Z : State) (aw : Array Value) (hw : HW aw Z) (ws : List Jvm.Cond) (q0 q1 q2 : Int64) (p3 : Int32)  (h0 : Heap) (n0 : Nat) (SZ0 : n0 ≤ h0.size) :
    MetFree l x (head1 (Jvm.Cond.code x code maxLocals ret :: ws) room_1) (fun a U => a = #[(.long q0), (.long q1), (.long q2), (.int p3)] ∧ Z.Warmed39 U.vm ∧ U.heap = h0) (fun _ _ _ _ _ => True) (fun _ U o U' => ∃ v L, o = .returned v ∧ own_Q (R0 (f0_0 q0 q1 q2 p3)) (K0 Z q0 q1 q2 p3  h0 n0 (f0_0 q0 q1 q2 p3)) v U'.heap L ∧ FrameEnd U o U' L room_1.cells room_1.slots) := by
  refine MetFree.of_bodySF (plainFor_of_name own_pn4) hisR ?_
  intro p e s m args below meth c s₁ Bd hml0 hP hK
  obtain ⟨rfl, hZ, hh⟩ := hP
  have hml : c.maxLocals = 26 := hml0
  have e0 : s₁.heap = h0 := by rw [← hh, Bd.state]; rfl
  exact own_pre (fun t k => castTop (ef_0 m q0 q1 q2 p3) k) (g0_0 hw q0 q1 q2 p3  Bd hml hZ s₁ (Stand.of_body Bd) e0 SZ0 (Fr.nil n0))
theorem own_xmin (x : Int32) : (0 ≤ x.toInt → (x ^^^ (-2147483648 : Int32)).toInt = x.toInt - 2147483648) ∧ (x.toInt < 0 → (x ^^^ (-2147483648 : Int32)).toInt = x.toInt + 2147483648) := by
  have h0 : (x ^^^ (-2147483648 : Int32)).toBitVec.toNat = x.toBitVec.toNat ^^^ 2147483648 := by
    show (x.toBitVec ^^^ (-2147483648 : Int32).toBitVec).toNat = _
    rw [BitVec.toNat_xor, show (-2147483648 : Int32).toBitVec.toNat = 2147483648 from by decide]
  have hx := x.toBitVec.isLt
  have hd := Nat.xor_div_two_pow (a := x.toBitVec.toNat) (b := 2147483648) (n := 31)
  have hm := Nat.xor_mod_two_pow (a := x.toBitVec.toNat) (b := 2147483648) (n := 31)
  rw [show 2147483648 / 2 ^ 31 = 1 from rfl] at hd
  rw [show 2147483648 % 2 ^ 31 = 0 from rfl, Nat.xor_zero] at hm
  have hc : x.toBitVec.toNat / 2 ^ 31 = 0 ∨ x.toBitVec.toNat / 2 ^ 31 = 1 := by omega
  show (0 ≤ x.toBitVec.toInt → (x ^^^ (-2147483648 : Int32)).toBitVec.toInt = x.toBitVec.toInt - 2147483648) ∧ (x.toBitVec.toInt < 0 → (x ^^^ (-2147483648 : Int32)).toBitVec.toInt = x.toBitVec.toInt + 2147483648)
  rw [BitVec.toInt_eq_toNat_cond, BitVec.toInt_eq_toNat_cond, h0]
  generalize x.toBitVec.toNat ^^^ 2147483648 = y at *
  generalize x.toBitVec.toNat = n at *
  rcases hc with hc | hc
  · rw [hc, show (0 ^^^ 1 : Nat) = 1 from rfl] at hd
    split <;> split <;> omega
  · rw [hc, show (1 ^^^ 1 : Nat) = 0 from rfl] at hd
    split <;> split <;> omega
theorem own_adi (x y : Int32) : -2147483648 ≤ x.toInt ∧ x.toInt ≤ 2147483647 ∧ (x + y).toInt = (x.toInt + y.toInt + 2147483648) % 4294967296 - 2147483648 := by
  have h1 := Int32.le_toInt x
  have h2 := Int32.toInt_lt x
  refine ⟨by omega, by omega, ?_⟩
  rw [Int32.toInt_add, Int.bmod_def]
  split <;> omega
theorem own_xa (x : Int32) : x ^^^ (-2147483648 : Int32) = x + (-2147483648 : Int32) := by
  have h := own_xmin x
  have a := own_adi x (-2147483648 : Int32)
  rw [show (-2147483648 : Int32).toInt = -2147483648 from by decide] at a
  rw [← Int32.toInt_inj]
  by_cases c : 0 ≤ x.toInt
  · have := h.1 c; omega
  · have := h.2 (by omega); omega
theorem own_U0 (e s : Int32) : f2_0 e s = 0 ∨ f2_0 e s = 1 := by unfold f2_0; split <;> simp
theorem own_U3 (a b : Int32) : f16_0 a b = 0 ↔ a = b := by
  unfold f16_0 f17_0
  constructor
  · intro h
    split at h
    · exact absurd h (by decide)
    · split at h
      · rename_i q
        have ha := own_adi a (-2147483648 : Int32)
        have hb := own_adi b (-2147483648 : Int32)
        rw [q] at ha
        rw [← Int32.toInt_inj]
        omega
      · exact absurd h (by decide)
  · rintro rfl
    rw [if_neg Int32.lt_irrefl, if_pos rfl]
theorem own_lt (a b : Int32) : a + (-2147483648 : Int32) < b + (-2147483648 : Int32) ↔ (a.toInt % 4294967296 < b.toInt % 4294967296) := by
  have ha := own_adi a (-2147483648 : Int32)
  have hb := own_adi b (-2147483648 : Int32)
  rw [show (-2147483648 : Int32).toInt = -2147483648 from by decide] at ha hb
  rw [Int32.lt_iff_toInt_lt]
  omega
theorem own_f2 (e s : Int32) : f2_0 e s = if e.toInt % 4294967296 < s.toInt % 4294967296 then 1 else 0 := by
  unfold f2_0
  rw [own_xa, own_xa]
  simp only [own_lt]
theorem own_f23 (a b : Int32) : f16_0 a b < 0 ↔ a.toInt % 4294967296 < b.toInt % 4294967296 := by
  unfold f16_0 f17_0
  rw [← own_lt]
  split
  · rename_i h; exact ⟨fun _ => h, fun _ => by decide⟩
  · rename_i h; refine ⟨fun q => ?_, fun q => absurd q h⟩
    split at q <;> exact absurd q (by decide)
theorem own_un1 (e : Int32) : (e + 1).toInt % 4294967296 = (e.toInt + 1) % 4294967296 := by
  have := own_adi e 1
  rw [show (1 : Int32).toInt = 1 from by decide] at this
  omega
theorem own_un0 (e : Int32) : e + 1 = 0 ↔ e.toInt % 4294967296 = 4294967295 := by
  have := own_adi e 1
  rw [show (1 : Int32).toInt = 1 from by decide] at this
  rw [← Int32.toInt_inj, show (0 : Int32).toInt = 0 from by decide]
  omega
theorem own_U1 (e s : Int32) (h : e + 1 = 0) : f2_0 e s = 0 := by
  rw [own_f2, if_neg]
  have := (own_un0 e).1 h; omega
theorem own_U2 (e s : Int32) (h : ¬ e + 1 = 0) : f16_0 s (e + 1) < 0 ↔ f2_0 e s = 0 := by
  rw [own_f2, own_f23, own_un1]
  have q := mt (own_un0 e).2 h
  by_cases c : e.toInt % 4294967296 < s.toInt % 4294967296
  · rw [if_pos c]; exact ⟨fun _ => by omega, fun k => absurd k (by decide)⟩
  · rw [if_neg c]; exact ⟨fun _ => rfl, fun _ => by omega⟩
def own_F (e : Int32) : Int32 := if e + 1 = 0 then 1 else 0
def own_T (l : Int32) : Int32 := if l = 0 then 0 else 1
theorem own_A0 (p q w alc cnt siz dif sz rng tsz ful nC nT nB t0 t1 t2 t3 l0 l1 l2 l3 r0 r1 r2 r3 : Int32) :
    sad p q (w, 0, alc, cnt, siz, dif, sz, rng, tsz, ful, nC, nT, nB, t0, t1, t2, t3) l0 l1 l2 l3 r0 r1 r2 r3 = (w, 0, alc, cnt, siz + 1, dif, sz, rng, tsz, ful, nC, nT, nB, t0, t1, t2, t3) := by
  simp only [sad, fad_0, fad_134, if_true, ite_self]
theorem own_A1_1 (p q alc cnt siz dif ful nC nT nB t0 t1 t2 t3 l0 l1 l2 l3 r0 r1 r2 r3 : Int32) :
    sad p q (1, 1, alc, cnt, siz, dif, 0, 0, 0, ful, nC, nT, nB, t0, t1, t2, t3) l0 l1 l2 l3 r0 r1 r2 r3 = (1, 1, alc, cnt, siz + 1, dif, 1, 1, 0, own_F r0, nC, nT, nB, r0 + 1, t1, t2, t3) := by
  simp only [sad, fad_0, fad_134, fab_0, fab_31, fgap_0, fap1_0, fap1_35, fap1_43, fpu1a_0, fpu1a_44, fpu1a_125, ite_self]
  unfold own_F
  by_cases hr : r0 + 1 = 0 <;> simp [hr]
theorem own_A2n_1 (p q alc cnt siz dif sz rng tsz nC nT nB t1 t2 t3 e s l1 l2 l3 r0 r1 r2 r3 : Int32) (hr : ¬ rng = 0) (h : f2_0 e s = 0) :
    sad p q (1, 1, alc, cnt, siz, dif, sz, rng, tsz, own_F e, nC, nT, nB, e + 1, t1, t2, t3) s l1 l2 l3 r0 r1 r2 r3 = (1, if alc = 0 then 0 else 1, alc, cnt, siz + 1, if alc = 0 then dif else 1, sz, rng, tsz, own_F e, nC, nT, nB, e + 1, t1, t2, t3) := by
  have a : fab_0 rng (own_F e) 1 s l1 l2 l3 (e + 1) t1 t2 t3 = 0 := by
    unfold fab_0 own_F
    rw [if_neg hr]
    by_cases c : e + 1 = 0
    · rw [if_pos c]; rfl
    · rw [if_neg c, if_pos rfl, gcm, if_pos rfl, fcm1_0, if_pos ((own_U2 e s c).2 h)]; rfl
  simp only [sad, fad_0, fad_134, a, if_true]
  by_cases ha : alc = 0 <;> simp [ha]
theorem own_A2y_1 (p q alc cnt siz dif sz rng tsz nC nT nB t1 t2 t3 e s l1 l2 l3 r0 r1 r2 r3 : Int32) (hr : ¬ rng = 0) (hr' : 0 < rng) (h : ¬ f2_0 e s = 0) :
    sad p q (1, 1, alc, cnt, siz, dif, sz, rng, tsz, own_F e, nC, nT, nB, e + 1, t1, t2, t3) s l1 l2 l3 r0 r1 r2 r3 = (1, 1, alc, cnt, siz + 1, dif, if s = e + 1 then sz + 1 else sz + 1 + 1, rng + 1, tsz, own_F r0, nC, nT, nB, r0 + 1, t1, t2, t3) := by
  have c : ¬ e + 1 = 0 := fun k => h (own_U1 e s k)
  have a : fab_0 rng (own_F e) 1 s l1 l2 l3 (e + 1) t1 t2 t3 = 1 := by
    unfold fab_0 own_F
    rw [if_neg hr, if_neg c, if_pos rfl, gcm, if_pos rfl, fcm1_0, if_neg (fun k => h ((own_U2 e s c).1 k))]; rfl
  have g : fgap_0 p sz rng tsz (own_F e) nC nT 1 s l1 l2 l3 r0 r1 r2 r3 (e + 1) t1 t2 t3 = (if s = e + 1 then sz + 1 else sz + 1 + 1, rng + 1, tsz, own_F r0, r0 + 1, t1, t2, t3) := by
    simp only [fgap_0, fap1_0, fap1_35, fap1_43, fpu1a_0, fpu1a_44, fpu1a_125, ite_self, if_true, fcm1_0, own_U3, hr']
    unfold own_F
    by_cases c1 : s = e + 1 <;> by_cases c2 : r0 + 1 = 0 <;> simp only [c1, c2, if_true, if_false]
  simp only [sad, fad_0, fad_134, a, g, if_false, show ¬ (1 : Int32) = 0 from by decide]
theorem own_L0 (w alc cnt siz dif sz rng tsz ful nC nT nB t0 t1 t2 t3 : Int32) : sal (w, 0, alc, cnt, siz, dif, sz, rng, tsz, ful, nC, nT, nB, t0, t1, t2, t3) = (w, 0, 1, siz, 0, dif, sz, rng, tsz, ful, nC, nT, siz, t0, t1, t2, t3) := by
  simp only [sal, fwal, if_true]
theorem own_L1 (w alc cnt siz dif sz rng tsz ful nC nT nB t0 t1 t2 t3 : Int32) : sal (w, 1, alc, cnt, siz, dif, sz, rng, tsz, ful, nC, nT, nB, t0, t1, t2, t3) = (w, 1, 1, siz, 0, dif, 0, 0, 0, ful, sz + fga_0 rng ful, tsz + ftl_0 rng ful w t0 t1 t2 t3, nB, t0, t1, t2, t3) := by
  simp only [sal, fwal, fbi_0, fsal_0, fsal_20, if_false, show ¬ (1 : Int32) = 0 from by decide]
theorem own_K (w ino alc cnt siz dif sz rng tsz ful nC nT nB t0 t1 t2 t3 : Int32) : ska (w, ino, alc, cnt, siz, dif, sz, rng, tsz, ful, nC, nT, nB, t0, t1, t2, t3) = if dif = 0 then if siz = cnt then if ino = 0 then 1 else if sz + fga_0 rng ful = nC then if tsz + ftl_0 rng ful w t0 t1 t2 t3 = nT then 1 else 0 else 0 else 0 else 0 := by
  simp only [ska, fka_0, fka_35, fka_39, fac_0, fac_38]
  by_cases a : sz + fga_0 rng ful = nC <;> by_cases b : tsz + ftl_0 rng ful w t0 t1 t2 t3 = nT <;> simp [a, b]
theorem own_A1_4 (p q alc cnt siz dif ful nC nT nB t0 t1 t2 t3 l r : Int32) :
    sad p q (4, 1, alc, cnt, siz, dif, 0, 0, 0, ful, nC, nT, nB, t0, t1, t2, t3) l 0 l 0 r 0 r 0 = (4, 1, alc, cnt, siz + 1, dif, 1, 1, own_T l, 0, nC, nT, nB, r, 0, r, 1) := by
  simp only [sad, fad_0, fad_134, fab_0, fab_31, fgap_0, fap4_0, fap4_35, fap4_43, fpu4a_0, fpu4a_44, fpu4a_115, fpu4a_125, fht4a_0, ite_self]
  unfold own_T
  by_cases hl : l = 0 <;> simp [hl]
theorem own_C4 (e s : Int32) : fcm4_0 s 0 s 0 e 0 e 1 < 0 ↔ f2_0 e s = 0 := by
  have z : f16_0 0 0 = 0 := by decide
  have o : f16_0 0 1 < 0 := by decide
  rw [fcm4_0, own_f2]
  by_cases d : f16_0 s e = 0
  · rw [if_pos d, if_pos z, if_pos d]
    have := (own_U3 s e).1 d
    subst this
    exact ⟨fun _ => if_neg (by omega), fun _ => o⟩
  · rw [if_neg d, own_f23]
    have n : ¬ s.toInt % 4294967296 = e.toInt % 4294967296 := fun q => d ((own_U3 s e).2 (by
      have a := own_adi s 0
      have b := own_adi e 0
      rw [← Int32.toInt_inj]; omega))
    by_cases c : e.toInt % 4294967296 < s.toInt % 4294967296
    · rw [if_pos c]; exact ⟨fun _ => by omega, fun k => absurd k (by decide)⟩
    · rw [if_neg c]; exact ⟨fun _ => rfl, fun _ => by omega⟩
theorem own_A2n_4 (p q alc cnt siz dif sz rng tsz nC nT nB e s r : Int32) (hr : ¬ rng = 0) (h : f2_0 e s = 0) :
    sad p q (4, 1, alc, cnt, siz, dif, sz, rng, tsz, 0, nC, nT, nB, e, 0, e, 1) s 0 s 0 r 0 r 0 = (4, if alc = 0 then 0 else 1, alc, cnt, siz + 1, if alc = 0 then dif else 1, sz, rng, tsz, 0, nC, nT, nB, e, 0, e, 1) := by
  have a : fab_0 rng 0 4 s 0 s 0 e 0 e 1 = 0 := by
    unfold fab_0
    rw [if_neg hr, if_pos rfl, gcm, if_neg (show ¬ (4 : Int32) = 1 from by decide), if_pos ((own_C4 e s).2 h)]; rfl
  simp only [sad, fad_0, fad_134, a, if_true]
  by_cases ha : alc = 0 <;> simp [ha]
theorem own_A2y_4 (p q alc cnt siz dif sz rng tsz nC nT nB e s r : Int32) (hr : ¬ rng = 0) (hr' : 0 < rng) (h : ¬ f2_0 e s = 0) :
    sad p q (4, 1, alc, cnt, siz, dif, sz, rng, tsz, 0, nC, nT, nB, e, 0, e, 1) s 0 s 0 r 0 r 0 = (4, 1, alc, cnt, siz + 1, dif, sz + 1 + 1, rng + 1, tsz + 1 + own_T s, 0, nC, nT, nB, r, 0, r, 1) := by
  have k := fun k => h ((own_C4 e s).1 k)
  have a : fab_0 rng 0 4 s 0 s 0 e 0 e 1 = 1 := by
    unfold fab_0
    rw [if_neg hr, if_pos rfl, gcm, if_neg (show ¬ (4 : Int32) = 1 from by decide), if_neg k]; rfl
  have m : ¬ fcm4_0 s 0 s 0 e 0 e 1 = 0 := by
    have z : f16_0 0 0 = 0 := by decide
    have o : ¬ f16_0 0 1 = 0 := by decide
    rw [fcm4_0]
    by_cases d : f16_0 s e = 0
    · rw [if_pos d, if_pos z, if_pos d]; exact o
    · rw [if_neg d]; exact d
  have g : fgap_0 p sz rng tsz 0 nC nT 4 s 0 s 0 r 0 r 0 e 0 e 1 = (sz + 1 + 1, rng + 1, tsz + 1 + own_T s, 0, r, 0, r, 1) := by
    simp only [fgap_0, fap4_0, fap4_35, fap4_43, fpu4a_0, fpu4a_44, fpu4a_115, fpu4a_125, fht4a_0, ite_self, if_true, m, hr', if_false]
    unfold own_T
    by_cases c1 : s = 0 <;> simp [c1]
  simp only [sad, fad_0, fad_134, a, g, if_false, show ¬ (1 : Int32) = 0 from by decide]
theorem own_sz (p q : Int32) (S : St) (l0 l1 l2 l3 r0 r1 r2 r3 : Int32) : (sad p q S l0 l1 l2 l3 r0 r1 r2 r3).2.2.2.2.1 = S.2.2.2.2.1 + 1 := by
  simp only [sad, fad_0, fad_134]
  split
  · rw [ite_self]
  · split
    · split <;> rfl
    · rfl
theorem own_cn (p q : Int32) (S : St) (l0 l1 l2 l3 r0 r1 r2 r3 : Int32) : (sad p q S l0 l1 l2 l3 r0 r1 r2 r3).2.2.2.1 = S.2.2.2.1 := rfl
theorem own_dd (p q : Int32) (S : St) (l0 l1 l2 l3 r0 r1 r2 r3 : Int32) (h : S.2.2.2.2.2.1 = 1) : (sad p q S l0 l1 l2 l3 r0 r1 r2 r3).2.2.2.2.2.1 = 1 := by
  simp only [sad, fad_0, fad_134]
  split
  · rw [ite_self]; exact h
  · split
    · split
      · exact h
      · rfl
    · exact h
theorem own_K0 (S : St) (h : S.2.2.2.2.2.1 = 1) : ska S = 0 := by
  unfold ska fka_0; rw [h, if_neg (by decide)]; rfl
theorem own_K1 (S : St) (h : ¬ S.2.2.2.2.1 = S.2.2.2.1) : ska S = 0 := by
  unfold ska fka_0; rw [if_neg h, fka_39, ite_self]
theorem own_nfe0 (k c : Int32) (S : St) (w s0 s1 s2 e0 e1 e2 : Int32) (hk : k = 0 ∨ k = 1 ∨ k = 2 ∨ k = 3) : (ffe0_0 k c S w s0 s1 s2 e0 e1 e2).2.2.2.2.1 = S.2.2.2.2.1 + k ∧ (ffe0_0 k c S w s0 s1 s2 e0 e1 e2).2.2.2.1 = S.2.2.2.1 := by
  unfold ffe0_0 ffe0_28 ffe0_57 ffe0_86
  rcases hk with rfl | rfl | rfl | rfl
  · simp
  · simp [own_sz, own_cn]
  · simp [own_sz, own_cn, Int32.add_assoc]
  · simp [own_sz, own_cn, Int32.add_assoc]
theorem own_zfe0 (k c w alc cnt siz dif sz rng tsz ful nC nT nB t0 t1 t2 t3 w' s0 s1 s2 e0 e1 e2 : Int32) (hk : k = 0 ∨ k = 1 ∨ k = 2 ∨ k = 3) : ffe0_0 k c (w, 0, alc, cnt, siz, dif, sz, rng, tsz, ful, nC, nT, nB, t0, t1, t2, t3) w' s0 s1 s2 e0 e1 e2 = (w, 0, alc, cnt, siz + k, dif, sz, rng, tsz, ful, nC, nT, nB, t0, t1, t2, t3) := by
  unfold ffe0_0 ffe0_28 ffe0_57 ffe0_86
  rcases hk with rfl | rfl | rfl | rfl
  · simp
  · simp [own_A0]
  · simp [own_A0, Int32.add_assoc]
  · simp [own_A0, Int32.add_assoc]
theorem own_nfe1 (k c : Int32) (S : St) (w s0 s1 s2 e0 e1 e2 : Int32) (hk : k = 0 ∨ k = 1 ∨ k = 2 ∨ k = 3) : (ffe1_0 k c S w s0 s1 s2 e0 e1 e2).2.2.2.2.1 = S.2.2.2.2.1 + k ∧ (ffe1_0 k c S w s0 s1 s2 e0 e1 e2).2.2.2.1 = S.2.2.2.1 := by
  unfold ffe1_0 ffe1_28 ffe1_57 ffe1_86
  rcases hk with rfl | rfl | rfl | rfl
  · simp
  · simp [own_sz, own_cn]
  · simp [own_sz, own_cn, Int32.add_assoc]
  · simp [own_sz, own_cn, Int32.add_assoc]
theorem own_zfe1 (k c w alc cnt siz dif sz rng tsz ful nC nT nB t0 t1 t2 t3 w' s0 s1 s2 e0 e1 e2 : Int32) (hk : k = 0 ∨ k = 1 ∨ k = 2 ∨ k = 3) : ffe1_0 k c (w, 0, alc, cnt, siz, dif, sz, rng, tsz, ful, nC, nT, nB, t0, t1, t2, t3) w' s0 s1 s2 e0 e1 e2 = (w, 0, alc, cnt, siz + k, dif, sz, rng, tsz, ful, nC, nT, nB, t0, t1, t2, t3) := by
  unfold ffe1_0 ffe1_28 ffe1_57 ffe1_86
  rcases hk with rfl | rfl | rfl | rfl
  · simp
  · simp [own_A0]
  · simp [own_A0, Int32.add_assoc]
  · simp [own_A0, Int32.add_assoc]
theorem own_tl1 (rng ful a b c d : Int32) : ftl_0 rng ful 1 a b c d = 0 := by
  simp only [ftl_0, ftl_23, ght, fht1a_0, if_true, ite_self]
section R
variable (c w s0 s1 s2 e0 e1 e2 : Int32) (S : St)
theorem own_r0 : ffe0_0 0 c S w s0 s1 s2 e0 e1 e2 = S := rfl
theorem own_r1 : ffe0_0 1 c S w s0 s1 s2 e0 e1 e2 = sad c 1 S s0 0 s0 0 e0 0 e0 0 := rfl
theorem own_r2 : ffe0_0 2 c S w s0 s1 s2 e0 e1 e2 = sad c 2 (sad c 1 S s0 0 s0 0 e0 0 e0 0) s1 0 s1 0 e1 0 e1 0 := rfl
theorem own_r3 : ffe0_0 3 c S w s0 s1 s2 e0 e1 e2 = sad c 3 (sad c 2 (sad c 1 S s0 0 s0 0 e0 0 e0 0) s1 0 s1 0 e1 0 e1 0) s2 0 s2 0 e2 0 e2 0 := rfl
theorem own_x2 : ffe1_0 2 c S w s0 s1 s2 e0 e1 e2 = sad c 1 (sad c 2 S s1 0 s1 0 e1 0 e1 0) s0 0 s0 0 e0 0 e0 0 := rfl
theorem own_x3 : ffe1_0 3 c S w s0 s1 s2 e0 e1 e2 = sad c 3 (sad c 1 (sad c 2 S s1 0 s1 0 e1 0 e1 0) s0 0 s0 0 e0 0 e0 0) s2 0 s2 0 e2 0 e2 0 := rfl
end R
abbrev own_E2 (A B : Int32) (f : St → St) (w k : Int32) : Prop := ∀ alc cnt siz dif ful nC nT nB t0 t1 t2 t3 : Int32, ∃ sz rng tsz ful' u0 u1 u2 u3 : Int32, f (w, 1, alc, cnt, siz, dif, 0, 0, 0, ful, nC, nT, nB, t0, t1, t2, t3) = (w, 1, alc, cnt, siz + k, dif, sz, rng, tsz, ful', nC, nT, nB, u0, u1, u2, u3) ∧ sz + fga_0 rng ful' = A ∧ tsz + ftl_0 rng ful' w u0 u1 u2 u3 = B
theorem own_G1 (c x k s0 s1 s2 e0 e1 e2 : Int32) (HX : x = 0 ∨ x = 1) (hk : k = 0 ∨ k = 1 ∨ k = 2 ∨ k = 3) (h1 : k = 2 ∨ k = 3 → ¬ f2_0 e0 s1 = 0) (h2 : k = 3 → ¬ f2_0 e1 s2 = 0) : ∃ A B, own_E2 A B (fun S => ffe0_0 k c S (own_w x) s0 s1 s2 e0 e1 e2) (own_w x) k := by
  have q2 : ∀ y : Int32, y + 1 + 1 = y + 2 := fun y => by rw [Int32.add_assoc]; rfl
  have q3 : ∀ y : Int32, y + 2 + 1 = y + 3 := fun y => by rw [Int32.add_assoc]; rfl
  rcases HX with rfl | rfl
  · rw [show own_w 0 = 1 from rfl]
    rcases hk with rfl | rfl | rfl | rfl
    · refine ⟨0, 0, fun alc cnt siz dif ful nC nT nB t0 t1 t2 t3 => ?_⟩
      dsimp only
      rw [own_r0, Int32.add_zero]
      exact ⟨_, _, _, _, _, _, _, _, rfl, rfl, (by rw [own_tl1]; rfl)⟩
    · refine ⟨1 + fga_0 1 (own_F e0), 0, fun alc cnt siz dif ful nC nT nB t0 t1 t2 t3 => ?_⟩
      dsimp only
      rw [own_r1, own_A1_1]
      exact ⟨_, _, _, _, _, _, _, _, rfl, rfl, (by rw [own_tl1]; rfl)⟩
    · refine ⟨(if s1 = e0 + 1 then 1 + 1 else 1 + 1 + 1) + fga_0 (1 + 1) (own_F e1), 0, fun alc cnt siz dif ful nC nT nB t0 t1 t2 t3 => ?_⟩
      dsimp only
      rw [own_r2, own_A1_1, own_A2y_1 _ _ _ _ _ _ _ _ _ _ _ _ _ _ _ _ _ _ _ _ _ _ _ _ (by decide) (by decide) (h1 (Or.inl rfl)), q2 siz]
      exact ⟨_, _, _, _, _, _, _, _, rfl, rfl, (by rw [own_tl1]; rfl)⟩
    · refine ⟨(if s2 = e1 + 1 then (if s1 = e0 + 1 then 1 + 1 else 1 + 1 + 1) + 1 else (if s1 = e0 + 1 then 1 + 1 else 1 + 1 + 1) + 1 + 1) + fga_0 (1 + 1 + 1) (own_F e2), 0, fun alc cnt siz dif ful nC nT nB t0 t1 t2 t3 => ?_⟩
      dsimp only
      rw [own_r3, own_A1_1, own_A2y_1 _ _ _ _ _ _ _ _ _ _ _ _ _ _ _ _ _ _ _ _ _ _ _ _ (by decide) (by decide) (h1 (Or.inr rfl)), own_A2y_1 _ _ _ _ _ _ _ _ _ _ _ _ _ _ _ _ _ _ _ _ _ _ _ _ (by decide) (by decide) (h2 rfl), q2 siz, q3]
      exact ⟨_, _, _, _, _, _, _, _, rfl, rfl, (by rw [own_tl1]; rfl)⟩
  · rw [show own_w 1 = 4 from rfl]
    rcases hk with rfl | rfl | rfl | rfl
    · refine ⟨0, 0, fun alc cnt siz dif ful nC nT nB t0 t1 t2 t3 => ?_⟩
      dsimp only
      rw [own_r0, Int32.add_zero]
      exact ⟨_, _, _, _, _, _, _, _, rfl, rfl, rfl⟩
    · refine ⟨1 + fga_0 1 0, own_T s0 + ftl_0 1 0 4 e0 0 e0 1, fun alc cnt siz dif ful nC nT nB t0 t1 t2 t3 => ?_⟩
      dsimp only
      rw [own_r1, own_A1_4]
      exact ⟨_, _, _, _, _, _, _, _, rfl, rfl, rfl⟩
    · refine ⟨1 + 1 + 1 + fga_0 (1 + 1) 0, own_T s0 + 1 + own_T s1 + ftl_0 (1 + 1) 0 4 e1 0 e1 1, fun alc cnt siz dif ful nC nT nB t0 t1 t2 t3 => ?_⟩
      dsimp only
      rw [own_r2, own_A1_4, own_A2y_4 _ _ _ _ _ _ _ _ _ _ _ _ _ _ _ (by decide) (by decide) (h1 (Or.inl rfl)), q2 siz]
      exact ⟨_, _, _, _, _, _, _, _, rfl, rfl, rfl⟩
    · refine ⟨1 + 1 + 1 + 1 + 1 + fga_0 (1 + 1 + 1) 0, own_T s0 + 1 + own_T s1 + 1 + own_T s2 + ftl_0 (1 + 1 + 1) 0 4 e2 0 e2 1, fun alc cnt siz dif ful nC nT nB t0 t1 t2 t3 => ?_⟩
      dsimp only
      rw [own_r3, own_A1_4, own_A2y_4 _ _ _ _ _ _ _ _ _ _ _ _ _ _ _ (by decide) (by decide) (h1 (Or.inr rfl)), own_A2y_4 _ _ _ _ _ _ _ _ _ _ _ _ _ _ _ (by decide) (by decide) (h2 rfl), q2 siz, q3]
      exact ⟨_, _, _, _, _, _, _, _, rfl, rfl, rfl⟩
theorem own_G2 (c x k s0 s1 s2 e0 e1 e2 cnt siz dif ful nC nT nB t0 t1 t2 t3 : Int32) (HX : x = 0 ∨ x = 1) (h : k = 2 ∧ f2_0 e0 s1 = 0 ∨ k = 3 ∧ (f2_0 e0 s1 = 0 ∨ f2_0 e1 s2 = 0)) : ∃ sz rng tsz ful' u0 u1 u2 u3 : Int32, ffe0_0 k c (own_w x, 1, 0, cnt, siz, dif, 0, 0, 0, ful, nC, nT, nB, t0, t1, t2, t3) (own_w x) s0 s1 s2 e0 e1 e2 = (own_w x, 0, 0, cnt, siz + k, dif, sz, rng, tsz, ful', nC, nT, nB, u0, u1, u2, u3) := by
  have q2 : ∀ y : Int32, y + 1 + 1 = y + 2 := fun y => by rw [Int32.add_assoc]; rfl
  have q3 : ∀ y : Int32, y + 2 + 1 = y + 3 := fun y => by rw [Int32.add_assoc]; rfl
  rcases HX with rfl | rfl
  · rw [show own_w 0 = 1 from rfl]
    rcases h with ⟨rfl, h⟩ | ⟨rfl, h⟩
    · rw [own_r2, own_A1_1, own_A2n_1 _ _ _ _ _ _ _ _ _ _ _ _ _ _ _ _ _ _ _ _ _ _ _ _ (by decide) h, q2]
      exact ⟨_, _, _, _, _, _, _, _, rfl⟩
    · by_cases h0 : f2_0 e0 s1 = 0
      · rw [own_r3, own_A1_1, own_A2n_1 _ _ _ _ _ _ _ _ _ _ _ _ _ _ _ _ _ _ _ _ _ _ _ _ (by decide) h0, if_pos rfl, if_pos rfl, own_A0, q2 siz, q3]
        exact ⟨_, _, _, _, _, _, _, _, rfl⟩
      · rw [own_r3, own_A1_1, own_A2y_1 _ _ _ _ _ _ _ _ _ _ _ _ _ _ _ _ _ _ _ _ _ _ _ _ (by decide) (by decide) h0, own_A2n_1 _ _ _ _ _ _ _ _ _ _ _ _ _ _ _ _ _ _ _ _ _ _ _ _ (by decide) (h.resolve_left h0), q2 siz, q3]
        exact ⟨_, _, _, _, _, _, _, _, rfl⟩
  · rw [show own_w 1 = 4 from rfl]
    rcases h with ⟨rfl, h⟩ | ⟨rfl, h⟩
    · rw [own_r2, own_A1_4, own_A2n_4 _ _ _ _ _ _ _ _ _ _ _ _ _ _ _ (by decide) h, q2]
      exact ⟨_, _, _, _, _, _, _, _, rfl⟩
    · by_cases h0 : f2_0 e0 s1 = 0
      · rw [own_r3, own_A1_4, own_A2n_4 _ _ _ _ _ _ _ _ _ _ _ _ _ _ _ (by decide) h0, if_pos rfl, if_pos rfl, own_A0, q2 siz, q3]
        exact ⟨_, _, _, _, _, _, _, _, rfl⟩
      · rw [own_r3, own_A1_4, own_A2y_4 _ _ _ _ _ _ _ _ _ _ _ _ _ _ _ (by decide) (by decide) h0, own_A2n_4 _ _ _ _ _ _ _ _ _ _ _ _ _ _ _ (by decide) (h.resolve_left h0), q2 siz, q3]
        exact ⟨_, _, _, _, _, _, _, _, rfl⟩
theorem own_G3 (c x k s0 s1 s2 e0 e1 e2 cnt siz dif ful nC nT nB t0 t1 t2 t3 : Int32) (HX : x = 0 ∨ x = 1) (hk : k = 2 ∨ k = 3) (h : f2_0 e1 s0 = 0) : (ffe1_0 k c (own_w x, 1, 1, cnt, siz, dif, 0, 0, 0, ful, nC, nT, nB, t0, t1, t2, t3) (own_w x) s0 s1 s2 e0 e1 e2).2.2.2.2.2.1 = 1 := by
  have A : (sad c 1 (sad c 2 (own_w x, 1, 1, cnt, siz, dif, 0, 0, 0, ful, nC, nT, nB, t0, t1, t2, t3) s1 0 s1 0 e1 0 e1 0) s0 0 s0 0 e0 0 e0 0).2.2.2.2.2.1 = 1 := by
    rcases HX with rfl | rfl
    · rw [show own_w 0 = 1 from rfl, own_A1_1, own_A2n_1 _ _ _ _ _ _ _ _ _ _ _ _ _ _ _ _ _ _ _ _ _ _ _ _ (by decide) h]; rfl
    · rw [show own_w 1 = 4 from rfl, own_A1_4, own_A2n_4 _ _ _ _ _ _ _ _ _ _ _ _ _ _ _ (by decide) h]; rfl
  rcases hk with rfl | rfl
  · rw [own_x2]; exact A
  · rw [own_x3]; exact own_dd _ _ _ _ _ _ _ _ _ _ _ A
theorem own_le (q : Int64) : f2_0 (f3_0 q) (f1_0 q) = 0 := by
  unfold f3_0 f1_0
  generalize ((q.toUInt64 >>> ((32 : Int32) &&& 0x3f).toInt64.toUInt64).toInt64).toInt32 = B
  generalize q.toInt32 = A
  by_cases c : f2_0 B A = 0
  · rw [if_pos c, if_pos c]; exact c
  · rw [if_neg c, if_neg c]
    rw [own_f2] at c ⊢
    by_cases d : B.toInt % 4294967296 < A.toInt % 4294967296
    · rw [if_neg (by omega)]
    · rw [if_neg d] at c; exact absurd rfl c
theorem own_chain {s0 e0 s1 e1 : Int32} (a : f2_0 e0 s0 = 0) (b : f2_0 e1 s1 = 0) (h : ¬ f2_0 e0 s1 = 0) : f2_0 e1 s0 = 0 := by
  rw [own_f2] at *
  have o : ¬ (1 : Int32) = 0 := by decide
  by_cases x : e0.toInt % 4294967296 < s0.toInt % 4294967296
  · rw [if_pos x] at a; exact absurd a o
  · by_cases y : e1.toInt % 4294967296 < s1.toInt % 4294967296
    · rw [if_pos y] at b; exact absurd b o
    · by_cases z : e0.toInt % 4294967296 < s1.toInt % 4294967296
      · rw [if_neg (by omega)]
      · rw [if_neg z] at h; exact absurd rfl h
theorem own_main (q0 q1 q2 : Int64) (p3 x n m c s0 s1 s2 e0 e1 e2 : Int32) (HX : x = 0 ∨ x = 1) (hn : n = 0 ∨ n = 1 ∨ n = 2 ∨ n = 3) (hm : m = 0 ∨ m = 1 ∨ m = 2 ∨ m = 3) (sw : Int32) (f : St → St)
    (l0 : f2_0 e0 s0 = 0) (l1 : f2_0 e1 s1 = 0) (hf : sw = 0 ∧ (f = fun S => ffe0_0 m c S (own_w x) s0 s1 s2 e0 e1 e2) ∨ sw = 1 ∧ ¬ m < 2 ∧ (f = fun S => ffe1_0 m c S (own_w x) s0 s1 s2 e0 e1 e2)) :
    f0_282 q0 q1 q2 p3 n m e0 s1 e1 s2 sw (f (sal (ffe0_0 n c (zS (own_w x)) (own_w x) s0 s1 s2 e0 e1 e2))) = 1 := by
  have o : ¬ (1 : Int32) = 0 := by decide
  have o' : ¬ (0 : Int32) = 1 := by decide
  have n3 : n < 3 ∨ n = 3 := by rcases hn with rfl | rfl | rfl | rfl <;> decide
  have n2 : n < 2 ∨ n = 2 ∨ n = 3 := by rcases hn with rfl | rfl | rfl | rfl <;> decide
  -- what the second feed does to the counts
  have cn : ∀ S, (f S).2.2.2.2.1 = S.2.2.2.2.1 + m ∧ (f S).2.2.2.1 = S.2.2.2.1 := by
    intro S
    rcases hf with ⟨-, rfl⟩ | ⟨-, -, rfl⟩
    · exact own_nfe0 _ _ _ _ _ _ _ _ _ _ hm
    · exact own_nfe1 _ _ _ _ _ _ _ _ _ _ hm
  by_cases io : n = 2 ∧ f2_0 e0 s1 = 0 ∨ n = 3 ∧ (f2_0 e0 s1 = 0 ∨ f2_0 e1 s2 = 0)
  · -- not in order
    obtain ⟨sz, rng, tsz, ful, u0, u1, u2, u3, E⟩ := own_G2 c x n s0 s1 s2 e0 e1 e2 0 0 0 0 0 0 0 0 0 0 0 HX io
    have R : ska (f (sal (ffe0_0 n c (zS (own_w x)) (own_w x) s0 s1 s2 e0 e1 e2))) = if m = n then 1 else 0 := by
      have E' : f (sal (ffe0_0 n c (zS (own_w x)) (own_w x) s0 s1 s2 e0 e1 e2)) = (own_w x, 0, 1, 0 + n, 0 + m, 0, sz, rng, tsz, ful, 0, 0, 0 + n, u0, u1, u2, u3) := by
        rw [zS, E, own_L0]
        rcases hf with ⟨-, rfl⟩ | ⟨-, -, rfl⟩
        · exact own_zfe0 _ _ _ _ _ _ _ _ _ _ _ _ _ _ _ _ _ _ _ _ _ _ _ _ _ hm
        · exact own_zfe1 _ _ _ _ _ _ _ _ _ _ _ _ _ _ _ _ _ _ _ _ _ _ _ _ _ hm
      rw [E', own_K, if_pos rfl, if_pos rfl, Int32.zero_add, Int32.zero_add]
    have F : ∀ S, f0_282 q0 q1 q2 p3 n m e0 s1 e1 s2 sw S = f0_319 q0 q1 q2 p3 n m sw 0 S := by
      intro S
      unfold f0_282
      rcases io with ⟨rfl, h⟩ | ⟨rfl, h⟩
      · rw [if_neg (by decide), if_pos h]
      · rw [if_neg (by decide)]
        by_cases h0 : f2_0 e0 s1 = 0
        · rw [if_pos h0]
        · rw [if_neg h0, if_neg (by decide), if_pos (h.resolve_left h0)]
    rw [F, f0_319]
    by_cases k : m = n
    · rw [if_pos k, if_pos rfl, f0_343, R, if_pos k, if_pos rfl]
    · rw [if_neg k, f0_343, R, if_neg k, if_pos rfl]
  · have h1 : n = 2 ∨ n = 3 → ¬ f2_0 e0 s1 = 0 := fun a b => io (a.elim (fun a => Or.inl ⟨a, b⟩) (fun a => Or.inr ⟨a, Or.inl b⟩))
    have h2 : n = 3 → ¬ f2_0 e1 s2 = 0 := fun a b => io (Or.inr ⟨a, Or.inr b⟩)
    have F : ∀ S, f0_282 q0 q1 q2 p3 n m e0 s1 e1 s2 sw S = f0_319 q0 q1 q2 p3 n m sw 1 S := by
      intro S
      unfold f0_282
      rcases n2 with k | k | k
      · rw [if_pos k]
      · rw [if_neg (h1 (Or.inl k)), if_pos (show n < 3 by rw [k]; decide), ite_self]
      · rw [if_neg (h1 (Or.inr k)), if_neg (h2 k), ite_self, ite_self]
    obtain ⟨A, B, G⟩ := own_G1 c x n s0 s1 s2 e0 e1 e2 HX hn h1 h2
    obtain ⟨sz, rng, tsz, ful, u0, u1, u2, u3, E, EA, EB⟩ := G 0 0 0 0 0 0 0 0 0 0 0 0
    dsimp only at E
    rw [F, f0_319, zS, E, own_L1, EA, EB]
    by_cases k : m = n
    · subst k
      rw [if_pos rfl, if_neg o]
      rcases hf with ⟨rfl, hf⟩ | ⟨rfl, hm2, hf⟩
      · obtain ⟨sz', rng', tsz', ful', v0, v1, v2, v3, E', EA', EB'⟩ := G 1 (0 + m) 0 0 ful A B 0 u0 u1 u2 u3
        rw [← hf] at E'
        rw [if_pos rfl, f0_343, E', own_K, if_pos rfl, if_pos rfl, if_neg o, EA', EB', if_pos rfl, if_pos rfl, if_pos rfl]
      · have mm : m = 2 ∨ m = 3 := by rcases n2 with k | k; exact absurd k hm2; exact k
        have D := own_G3 c x m s0 s1 s2 e0 e1 e2 (0 + m) 0 0 ful A B 0 u0 u1 u2 u3 HX mm (own_chain l0 l1 (h1 mm))
        have D' : (f (own_w x, 1, 1, 0 + m, 0, 0, 0, 0, 0, ful, A, B, 0, u0, u1, u2, u3)).2.2.2.2.2.1 = 1 := by rw [hf]; exact D
        rw [if_neg o, f0_343, own_K0 _ D', if_pos rfl]
    · rw [if_neg k, f0_343, own_K1 _ ?_, if_pos rfl]
      rw [(cn _).1, (cn _).2]
      show ¬ 0 + m = 0 + n
      rw [Int32.zero_add, Int32.zero_add]; exact k
theorem own_and3 (x : Int32) : x &&& 3 = 0 ∨ x &&& 3 = 1 ∨ x &&& 3 = 2 ∨ x &&& 3 = 3 := by
  have e : (x &&& 3).toBitVec.toNat = x.toBitVec.toNat % 4 := by
    show (x.toBitVec &&& 3#32).toNat = _
    rw [BitVec.toNat_and]
    exact Nat.and_two_pow_sub_one_eq_mod _ 2
  have q : ∀ k : Int32, (x &&& 3).toBitVec.toNat = k.toBitVec.toNat → x &&& 3 = k := fun k h => Int32.toBitVec_inj.1 (BitVec.eq_of_toNat_eq h)
  have c : (x &&& 3).toBitVec.toNat = 0 ∨ (x &&& 3).toBitVec.toNat = 1 ∨ (x &&& 3).toBitVec.toNat = 2 ∨ (x &&& 3).toBitVec.toNat = 3 := by omega
  rcases c with c | c | c | c
  · exact Or.inl (q 0 c)
  · exact Or.inr (Or.inl (q 1 c))
  · exact Or.inr (Or.inr (Or.inl (q 2 c)))
  · exact Or.inr (Or.inr (Or.inr (q 3 c)))
theorem own_94 (q0 q1 q2 : Int64) (p3 x9 x10 n m c s0 e0 s1 e1 s2 e2 : Int32) (HX : x10 = 0 ∨ x10 = 1) (hn : n = 0 ∨ n = 1 ∨ n = 2 ∨ n = 3) (hm : m = 0 ∨ m = 1 ∨ m = 2 ∨ m = 3) (l0 : f2_0 e0 s0 = 0) (l1 : f2_0 e1 s1 = 0) : f0_94 q0 q1 q2 p3 n m x9 x10 c s0 e0 s1 e1 s2 e2 = 1 := by
  have a : f0_201a q0 q1 q2 p3 n m x10 c s0 e0 s1 e1 s2 e2 = 1 := by
    have M := own_main q0 q1 q2 p3 x10 n m c s0 s1 s2 e0 e1 e2 HX hn hm 0 _ l0 l1 (Or.inl ⟨rfl, rfl⟩)
    unfold f0_201a f0_247a f0_262a f0_267a
    rcases HX with rfl | rfl
    · rw [if_pos rfl]; exact M
    · rw [if_neg (by decide)]; exact M
  unfold f0_94 f0_130 f0_166
  split
  · exact a
  · split
    · exact a
    · rename_i h
      have M := own_main q0 q1 q2 p3 x10 n m c s0 s1 s2 e0 e1 e2 HX hn hm 1 _ l0 l1 (Or.inr ⟨rfl, h, rfl⟩)
      unfold f0_201b f0_247b f0_262b f0_267b
      rcases HX with rfl | rfl
      · rw [if_pos rfl]; exact M
      · rw [if_neg (by decide)]; exact M
theorem own_law (q0 q1 q2 : Int64) (p3 : Int32) : f0_0 q0 q1 q2 p3 = 1 := by
  have N : ∀ (x9 x10 n m : Int32), (x10 = 0 ∨ x10 = 1) → (n = 0 ∨ n = 1 ∨ n = 2 ∨ n = 3) → (m = 0 ∨ m = 1 ∨ m = 2 ∨ m = 3) → f0_42 q0 q1 q2 p3 n m x9 x10 = 1 := by
    intro x9 x10 n m HX hn hm
    exact own_94 q0 q1 q2 p3 x9 x10 n m _ _ _ _ _ _ _ HX hn hm (own_le q0) (own_le q1)
  unfold f0_0
  split <;> unfold f0_27 <;> split <;> exact N _ _ _ _ (by decide) (own_and3 _) (own_and3 _)
set_option maxRecDepth 65536 in
set_option maxHeartbeats 40000000 in
theorem comes_1 {Post : Tables → Env → Array Value → State → Outcome → State → Prop} (hpost : ∀ tb e args s v u, (limb_1_1.after args s (.returned v) u = true ∧ limb_1_2.after args s (.returned v) u = true ∧ True) → FrameEnd s (.returned v) u (Jvm.fieldLocs frame_1_writes args s ++ Jvm.arrayLocs frame_1_arrays args s ++ Jvm.staticLocs frame_1_statics s) 64 256 → Post tb e args s (.returned v) u) :
    ArmFor flags0 classFile x code maxLocals ret World_1 tables_1 room_1 Calls_1 rest_1 Pre_1 Post := by
  intro l hfl _ _ p e ha hc hk s m args below hf hA hF happ hP
  obtain ⟨hcalls, hrest, hpre⟩ := hP
  obtain ⟨-, -, -, hnamed, -, -, -, hat⟩ := (Spec.applies_iff hf).mp happ
  obtain ⟨hg, hn⟩ := and_e (Cond.before_iff.mp (show (Jvm.Cond.and given_1 narrow_1).before args s = true from hpre))
  obtain ⟨g1, g2⟩ := and_e hg
  obtain ⟨g3, g4⟩ := and_e g2
  obtain ⟨g5, g6⟩ := and_e g4
  obtain ⟨g7, g8⟩ := and_e g6
  obtain ⟨w0, w1, w2, w3, rfl⟩ : ∃ w0 w1 w2 w3 : Value, args = #[w0, w1, w2, w3] := by
    have hs : args.size = 4 := by simpa [Cond.value, given_1] using g1
    obtain ⟨L⟩ := args
    match L, hs with
    | [w0, w1, w2, w3], _ => exact ⟨w0, w1, w2, w3, rfl⟩
  have hw := fun d (hd : d ∈ tables_1) => atoms_spec (ws := Jvm.Cond.code x code maxLocals ret :: tables_1) hat d (List.mem_cons_of_mem _ hd)
  have hfit : Fit s := fun {y c} hc i hi => by
    obtain ⟨ha, rfl⟩ := Array.getElem?_eq_some_iff.mp hc
    have q := List.all_eq_true.mp ((Array.all_eq_true_iff_forall_mem.mp hF) _ (Array.getElem_mem ha)) i (List.mem_range.mpr hi)
    simpa [Array.getElem?_eq_getElem hi] using q
  obtain ⟨i0, ei0⟩ := isL_v g3
  obtain rfl : w0 = (.long i0) := Option.some.inj ei0
  obtain ⟨i1, ei1⟩ := isL_v g5
  obtain rfl : w1 = (.long i1) := Option.some.inj ei1
  obtain ⟨i2, ei2⟩ := isL_v g7
  obtain rfl : w2 = (.long i2) := Option.some.inj ei2
  obtain ⟨i3, ei3⟩ := is_v g8
  obtain rfl : w3 = (.int i3) := Option.some.inj ei3
  obtain ⟨n, o, h1, h2, h3, v, L, rfl, ⟨hv, hK⟩, hq⟩ := rm0 l s _ hw tables_1 i0 i1 i2 i3 s.heap s.heap.size (Nat.le_refl _) p e ha hc hk s m _ below hf ((Spec.applies_iff_loose hf).mp happ).1 ⟨rfl, State.Warmed39.refl s, rfl⟩ trivial
  rw [R0, own_law] at hv
  subst hv
  refine ⟨n, _, h1, h2, h3, hpost _ _ _ _ _ _ ⟨Cond.after_iff.mpr rfl, Cond.after_iff.mpr (eq_i res_at (Term.int_eval (1)) rfl), trivial⟩ ⟨hq.1, hq.2.1, (hq.2.2.sift fun y hy => ?_).mono (by decide) (by decide)⟩⟩
  exact Or.inr (hK y hy)
theorem main_1_1 : Claimed_1_1 := comes_1 fun _ _ _ _ _ _ h hF => ⟨h.1, hF⟩
theorem main_1_2 : Claimed_1_2 := comes_1 fun _ _ _ _ _ _ h hF => ⟨h.2.1, hF⟩
end Jvm.Pilot.@@N@@
namespace Jvm.Pilot.@@N@@
open Jvm Jvm.ClassFile Sem Op Lib Jvm.Free Jvm.Stand Jvm.Pilot.@@N@@.Jvm.D
/-! MADE BY PROGRAM (witnessworld.py) out of the Statement's table words and the real class files: 20 classes; the members and pool entries that the words name. The judged class is class 1, her method 6. -/
namespace start1
open Jvm.ClassFile
def u (s : String) : CpInfo := .utf8 (stringToUtf16 s)
/-- a pool by its gaps: so many unusable entries, then the entry; so many at the end -/
def gap : Nat → List CpInfo → List CpInfo
  | 0, r => r
  | n + 1, r => .unusable :: gap n r
def poolList (es : List (Nat × CpInfo)) (last : Nat) : List CpInfo := es.foldr (fun e r => gap e.1 (e.2 :: r)) (gap last [])
def pool (es : List (Nat × CpInfo)) (last : Nat) : Array CpInfo := ⟨poolList es last⟩
def fileOf (pool : Array CpInfo) (this : Nat) (attrs : Array Attribute := #[]) (ms : Array MethodInfo := #[]) (fl : Nat := 33) (sup : Nat := 0) (ifs : Array Nat := #[]) (fds : Array FieldInfo := #[]) : ClassFile where
  minorVersion := 0
  majorVersion := 65
  constantPool := pool
  accessFlags := fl
  thisClass := this
  superClass := sup
  interfaces := ifs
  fields := fds
  methods := ms
  attributes := attrs
def plain (name : String) (sup : Option ClassId) : Class where
  name := name
  kind := .ordinary
  loader := none
  accessFlags := 33
  super := sup
  interfaces := #[]
  cf := none
  fields := #[]
  methods := #[]
  instanceTypes := #[]
  staticTypes := #[]
  resolved := #[]
  callSites := []
  init := .initialized
  statics := none
  mirror := none

def pool0 : Array CpInfo := pool [(5, u "<init>"), (0, u "()V"), (1, .class_ 10), (1, u "java/lang/Object")] 113

def k0c0 : Code := { maxStack := 0, maxLocals := 1, code := object_method_1_code, exceptionTable := #[], attributes := #[] }
def k0m0 : Method := { name := "<init>", desc := "()V", sig := { parameters := [], returnType := none }, accessFlags := 1, code := some k0c0 }
/-- java/lang/Object -/
def k0 : Class := { plain "java/lang/Object" none with
  accessFlags := 33
  interfaces := #[]
  cf := some (fileOf pool0 8 #[] #[{ accessFlags := 1, nameIndex := 5, descriptorIndex := 6, attributes := #[] }] 33 0 #[] #[])
  fields := #[]
  methods := #[k0m0]
  instanceTypes := #[]
  staticTypes := #[]
  resolved := Array.replicate 124 none
  statics := none }

def pool1 : Array CpInfo := pool [(2, .class_ 4), (1, u "java/lang/Object"), (0, u "<init>"), (0, u "()V"), (2, .integer 2147483648), (0, .methodref 11 12), (0, .class_ 13), (0, .nameAndType 14 15), (0, u "com/example/gentle_endpoints/gentleendpoints/BuilderAllocatePinLaw"), (0, u "ult"), (0, u "(II)Z"), (0, .methodref 17 18), (0, .class_ 19), (0, .nameAndType 20 21), (0, u "com/example/gentle_endpoints/gentleendpoints/RangeTable$Builder"), (0, u "add"), (0, u "([I[ICI)V"), (0, .methodref 11 23), (0, .nameAndType 24 25), (0, u "lo"), (0, u "(J)I"), (0, .methodref 11 27), (0, .nameAndType 28 25), (0, u "hi"), (0, .class_ 30), (0, u "[I"), (0, .methodref 11 32), (0, .nameAndType 33 34), (0, u "addr"), (0, u "(IZ)[I"), (0, .methodref 17 36), (0, .nameAndType 5 37), (0, u "(I)V"), (0, .methodref 11 39), (0, .nameAndType 40 41), (0, u "feed"), (0, u "(Lcom/example/gentle_endpoints/gentleendpoints/RangeTable$Builder;I[[I[[I[IC)V"), (0, .methodref 17 43), (0, .nameAndType 44 6), (0, u "allocate"), (0, .methodref 17 46), (0, .nameAndType 47 48), (0, u "keptAsCounted"), (0, u "()Z"), (3, u "law"), (0, u "(JJJI)Z")] 8

def k1m0 : Method := { name := "<init>", desc := "()V", sig := { parameters := [], returnType := none }, accessFlags := 1, code := none }
def k1c1 : Code := { maxStack := 3, maxLocals := 2, code := method_2_code, exceptionTable := #[], attributes := #[] }
def k1m1 : Method := { name := "ult", desc := "(II)Z", sig := { parameters := [.int, .int], returnType := some .boolean }, accessFlags := 10, code := some k1c1 }
def k1c2 : Code := { maxStack := 3, maxLocals := 4, code := method_3_code, exceptionTable := #[], attributes := #[] }
def k1m2 : Method := { name := "lo", desc := "(J)I", sig := { parameters := [.long], returnType := some .int }, accessFlags := 10, code := some k1c2 }
def k1c3 : Code := { maxStack := 3, maxLocals := 4, code := method_4_code, exceptionTable := #[], attributes := #[] }
def k1m3 : Method := { name := "hi", desc := "(J)I", sig := { parameters := [.long], returnType := some .int }, accessFlags := 10, code := some k1c3 }
def k1c4 : Code := { maxStack := 4, maxLocals := 2, code := method_5_code, exceptionTable := #[], attributes := #[] }
def k1m4 : Method := { name := "addr", desc := "(IZ)[I", sig := { parameters := [.int, .boolean], returnType := some (.array .int) }, accessFlags := 10, code := some k1c4 }
def k1c5 : Code := { maxStack := 6, maxLocals := 6, code := method_6_code, exceptionTable := #[], attributes := #[] }
def k1m5 : Method := { name := "feed", desc := "(Lcom/example/gentle_endpoints/gentleendpoints/RangeTable$Builder;I[[I[[I[IC)V", sig := { parameters := [(.object "com/example/gentle_endpoints/gentleendpoints/RangeTable$Builder"), .int, (.array (.array .int)), (.array (.array .int)), (.array .int), .char], returnType := none }, accessFlags := 10, code := some k1c5 }
def k1c6 : Code := { maxStack := 6, maxLocals := 26, code := code, exceptionTable := #[], attributes := #[] }
def k1m6 : Method := { name := "law", desc := "(JJJI)Z", sig := { parameters := [.long, .long, .long, .int], returnType := some .boolean }, accessFlags := 9, code := some k1c6 }
/-- com/example/gentle_endpoints/gentleendpoints/BuilderAllocatePinLaw -/
def k1 : Class := { plain "com/example/gentle_endpoints/gentleendpoints/BuilderAllocatePinLaw" (some 0) with
  accessFlags := 49
  interfaces := #[]
  cf := some (fileOf pool1 11 #[] #[{ accessFlags := 1, nameIndex := 5, descriptorIndex := 6, attributes := #[] }, { accessFlags := 10, nameIndex := 14, descriptorIndex := 15, attributes := #[] }, { accessFlags := 10, nameIndex := 24, descriptorIndex := 25, attributes := #[] }, { accessFlags := 10, nameIndex := 28, descriptorIndex := 25, attributes := #[] }, { accessFlags := 10, nameIndex := 33, descriptorIndex := 34, attributes := #[] }, { accessFlags := 10, nameIndex := 40, descriptorIndex := 41, attributes := #[] }, { accessFlags := 9, nameIndex := 52, descriptorIndex := 53, attributes := #[] }] 49 2 #[] #[])
  fields := #[]
  methods := #[k1m0, k1m1, k1m2, k1m3, k1m4, k1m5, k1m6]
  instanceTypes := #[]
  staticTypes := #[]
  resolved := Array.replicate 62 none
  statics := none }

def pool2 : Array CpInfo := pool [(1, .methodref 2 3), (0, .class_ 4), (0, .nameAndType 5 6), (0, u "java/lang/Object"), (0, u "<init>"), (0, u "()V"), (0, .fieldref 8 9), (0, .class_ 10), (0, .nameAndType 11 12), (0, u "com/example/gentle_endpoints/gentleendpoints/RangeTable$Builder"), (0, u "inOrder"), (0, u "Z"), (0, .fieldref 8 14), (0, .nameAndType 15 16), (0, u "starts"), (0, u "[I"), (0, .fieldref 8 18), (0, .nameAndType 19 16), (0, u "ends"), (0, .fieldref 8 21), (0, .nameAndType 22 23), (0, u "countries"), (0, u "[C"), (0, .fieldref 8 25), (0, .nameAndType 26 16), (0, u "lineNumbers"), (0, .fieldref 8 28), (0, .nameAndType 29 30), (0, u "width"), (0, u "I"), (0, .class_ 32), (0, u "com/example/gentle_endpoints/gentleendpoints/RangeTable$Segments"), (0, .methodref 31 34), (0, .nameAndType 5 35), (0, u "(I)V"), (0, .fieldref 8 37), (0, .nameAndType 38 39), (0, u "segments"), (0, u "Lcom/example/gentle_endpoints/gentleendpoints/RangeTable$Segments;"), (0, .fieldref 8 41), (0, .nameAndType 42 30), (0, u "size"), (0, .methodref 44 45), (0, .class_ 46), (0, .nameAndType 47 48), (0, u "java/lang/System"), (0, u "arraycopy"), (0, u "(Ljava/lang/Object;ILjava/lang/Object;II)V"), (0, .methodref 31 50), (0, .nameAndType 51 52), (0, u "above"), (0, u "([II)Z"), (0, .methodref 31 54), (0, .nameAndType 55 56), (0, u "append"), (0, u "([II[IIC)V"), (0, .fieldref 8 58), (0, .nameAndType 59 12), (0, u "allocated"), (0, .fieldref 8 61), (0, .nameAndType 62 12), (0, u "differs"), (0, .fieldref 8 64), (0, .nameAndType 65 30), (0, u "counted"), (0, .methodref 31 67), (0, .nameAndType 68 6), (0, u "allocate"), (0, .methodref 31 70), (0, .nameAndType 71 72), (0, u "appendedAsCounted"), (0, u "()Z"), (46, .class_ 121), (1, u "com/example/gentle_endpoints/gentleendpoints/RangeTable"), (11, u "add"), (0, u "([I[ICI)V"), (1, u "keptAsCounted")] 48

def k2c0 : Code := { maxStack := 4, maxLocals := 2, code := prog_18_method_1_code, exceptionTable := #[], attributes := #[] }
def k2m0 : Method := { name := "<init>", desc := "(I)V", sig := { parameters := [.int], returnType := none }, accessFlags := 0, code := some k2c0 }
def k2c1 : Code := { maxStack := 6, maxLocals := 5, code := prog_18_method_2_code, exceptionTable := #[], attributes := #[] }
def k2m1 : Method := { name := "add", desc := "([I[ICI)V", sig := { parameters := [(.array .int), (.array .int), .char, .int], returnType := none }, accessFlags := 0, code := some k2c1 }
def k2c2 : Code := { maxStack := 3, maxLocals := 1, code := prog_18_method_3_code, exceptionTable := #[], attributes := #[] }
def k2m2 : Method := { name := "allocate", desc := "()V", sig := { parameters := [], returnType := none }, accessFlags := 0, code := some k2c2 }
def k2c3 : Code := { maxStack := 2, maxLocals := 1, code := prog_18_method_4_code, exceptionTable := #[], attributes := #[] }
def k2m3 : Method := { name := "keptAsCounted", desc := "()Z", sig := { parameters := [], returnType := some .boolean }, accessFlags := 0, code := some k2c3 }
/-- com/example/gentle_endpoints/gentleendpoints/RangeTable$Builder -/
def k2 : Class := { plain "com/example/gentle_endpoints/gentleendpoints/RangeTable$Builder" (some 0) with
  accessFlags := 32
  interfaces := #[]
  cf := some (fileOf pool2 8 #[.nestHost 119] #[{ accessFlags := 0, nameIndex := 5, descriptorIndex := 35, attributes := #[] }, { accessFlags := 0, nameIndex := 133, descriptorIndex := 134, attributes := #[] }, { accessFlags := 0, nameIndex := 68, descriptorIndex := 6, attributes := #[] }, { accessFlags := 0, nameIndex := 136, descriptorIndex := 72, attributes := #[] }] 32 2 #[] #[{ accessFlags := 18, nameIndex := 29, descriptorIndex := 30, attributes := #[] }, { accessFlags := 18, nameIndex := 38, descriptorIndex := 39, attributes := #[] }, { accessFlags := 2, nameIndex := 11, descriptorIndex := 12, attributes := #[] }, { accessFlags := 2, nameIndex := 59, descriptorIndex := 12, attributes := #[] }, { accessFlags := 2, nameIndex := 65, descriptorIndex := 30, attributes := #[] }, { accessFlags := 2, nameIndex := 42, descriptorIndex := 30, attributes := #[] }, { accessFlags := 2, nameIndex := 62, descriptorIndex := 12, attributes := #[] }, { accessFlags := 2, nameIndex := 15, descriptorIndex := 16, attributes := #[] }, { accessFlags := 2, nameIndex := 19, descriptorIndex := 16, attributes := #[] }, { accessFlags := 2, nameIndex := 22, descriptorIndex := 23, attributes := #[] }, { accessFlags := 2, nameIndex := 26, descriptorIndex := 16, attributes := #[] }])
  fields := #[{ name := "width", type := .int, accessFlags := 18, slot := 0, constantValue := 0 }, { name := "segments", type := (.object "com/example/gentle_endpoints/gentleendpoints/RangeTable$Segments"), accessFlags := 18, slot := 1, constantValue := 0 }, { name := "inOrder", type := .boolean, accessFlags := 2, slot := 2, constantValue := 0 }, { name := "allocated", type := .boolean, accessFlags := 2, slot := 3, constantValue := 0 }, { name := "counted", type := .int, accessFlags := 2, slot := 4, constantValue := 0 }, { name := "size", type := .int, accessFlags := 2, slot := 5, constantValue := 0 }, { name := "differs", type := .boolean, accessFlags := 2, slot := 6, constantValue := 0 }, { name := "starts", type := (.array .int), accessFlags := 2, slot := 7, constantValue := 0 }, { name := "ends", type := (.array .int), accessFlags := 2, slot := 8, constantValue := 0 }, { name := "countries", type := (.array .char), accessFlags := 2, slot := 9, constantValue := 0 }, { name := "lineNumbers", type := (.array .int), accessFlags := 2, slot := 10, constantValue := 0 }]
  methods := #[k2m0, k2m1, k2m2, k2m3]
  instanceTypes := #[.int, (.object "com/example/gentle_endpoints/gentleendpoints/RangeTable$Segments"), .boolean, .boolean, .int, .int, .boolean, (.array .int), (.array .int), (.array .char), (.array .int)]
  staticTypes := #[]
  resolved := Array.replicate 185 none
  statics := none }

def pool3 : Array CpInfo := pool [(1, .class_ 2), (0, u "com/example/gentle_endpoints/gentleendpoints/RangeTable"), (0, .methodref 4 5), (0, .class_ 6), (0, .nameAndType 7 8), (0, u "java/lang/Object"), (0, u "<init>"), (0, u "()V"), (0, .fieldref 10 11), (0, .class_ 12), (0, .nameAndType 13 14), (0, u "com/example/gentle_endpoints/gentleendpoints/RangeTable$Segments"), (0, u "starts"), (0, u "[I"), (0, .fieldref 10 16), (0, .nameAndType 17 14), (0, u "tailed"), (0, .fieldref 10 19), (0, .nameAndType 20 14), (0, u "tails"), (0, .fieldref 10 22), (0, .nameAndType 23 24), (0, u "countries"), (0, u "[C"), (0, .fieldref 10 26), (0, .nameAndType 27 28), (0, u "width"), (0, u "I"), (0, .methodref 30 31), (0, .class_ 32), (0, .nameAndType 33 34), (0, u "java/lang/Math"), (0, u "min"), (0, u "(II)I"), (0, .fieldref 10 36), (0, .nameAndType 37 28), (0, u "head"), (0, .fieldref 10 39), (0, .nameAndType 40 14), (0, u "after"), (0, .fieldref 10 42), (0, .nameAndType 43 28), (0, u "ranges"), (0, .fieldref 10 45), (0, .nameAndType 46 47), (0, u "full"), (0, u "Z"), (0, .methodref 1 49), (0, .nameAndType 50 51), (0, u "compare"), (0, u "([II[III)I"), (0, .integer 65535), (0, .methodref 10 54), (0, .nameAndType 55 56), (0, u "put"), (0, u "([IIC)V"), (0, .methodref 58 59), (0, .class_ 60), (0, .nameAndType 61 62), (0, u "java/lang/System"), (0, u "arraycopy"), (0, u "(Ljava/lang/Object;ILjava/lang/Object;II)V"), (0, .fieldref 10 64), (0, .nameAndType 65 28), (0, u "size"), (0, .methodref 10 67), (0, .nameAndType 68 69), (0, u "gapAfterLast"), (0, u "()I"), (0, .fieldref 10 71), (0, .nameAndType 72 28), (0, u "tailedSize"), (0, .methodref 10 74), (0, .nameAndType 75 69), (0, u "tailedAfterLast"), (3, .methodref 10 80), (0, .nameAndType 81 82), (0, u "hasTail"), (0, u "([II)Z"), (0, u "(I)V"), (2, u "above"), (1, u "append"), (0, u "([II[IIC)V"), (0, u "allocate"), (0, u "appendedAsCounted"), (0, u "()Z")] 7

def k3c0 : Code := { maxStack := 3, maxLocals := 2, code := prog_20_method_1_code, exceptionTable := #[], attributes := #[] }
def k3m0 : Method := { name := "<init>", desc := "(I)V", sig := { parameters := [.int], returnType := none }, accessFlags := 0, code := some k3c0 }
def k3c1 : Code := { maxStack := 5, maxLocals := 3, code := prog_20_method_2_code, exceptionTable := #[], attributes := #[] }
def k3m1 : Method := { name := "above", desc := "([II)Z", sig := { parameters := [(.array .int), .int], returnType := some .boolean }, accessFlags := 0, code := some k3c1 }
def k3c2 : Code := { maxStack := 5, maxLocals := 8, code := prog_20_method_3_code, exceptionTable := #[], attributes := #[] }
def k3m2 : Method := { name := "append", desc := "([II[IIC)V", sig := { parameters := [(.array .int), .int, (.array .int), .int, .char], returnType := none }, accessFlags := 0, code := some k3c2 }
def k3c3 : Code := { maxStack := 4, maxLocals := 3, code := prog_20_method_4_code, exceptionTable := #[], attributes := #[] }
def k3m3 : Method := { name := "allocate", desc := "()V", sig := { parameters := [], returnType := none }, accessFlags := 0, code := some k3c3 }
def k3c4 : Code := { maxStack := 2, maxLocals := 1, code := prog_20_method_5_code, exceptionTable := #[], attributes := #[] }
def k3m4 : Method := { name := "appendedAsCounted", desc := "()Z", sig := { parameters := [], returnType := some .boolean }, accessFlags := 0, code := some k3c4 }
def k3c5 : Code := { maxStack := 1, maxLocals := 1, code := prog_20_method_7_code, exceptionTable := #[], attributes := #[] }
def k3m5 : Method := { name := "gapAfterLast", desc := "()I", sig := { parameters := [], returnType := some .int }, accessFlags := 2, code := some k3c5 }
def k3c6 : Code := { maxStack := 3, maxLocals := 1, code := prog_20_method_8_code, exceptionTable := #[], attributes := #[] }
def k3m6 : Method := { name := "tailedAfterLast", desc := "()I", sig := { parameters := [], returnType := some .int }, accessFlags := 2, code := some k3c6 }
def k3c7 : Code := { maxStack := 6, maxLocals := 4, code := prog_20_method_9_code, exceptionTable := #[], attributes := #[] }
def k3m7 : Method := { name := "put", desc := "([IIC)V", sig := { parameters := [(.array .int), .int, .char], returnType := none }, accessFlags := 2, code := some k3c7 }
def k3c8 : Code := { maxStack := 3, maxLocals := 5, code := prog_20_method_10_code, exceptionTable := #[], attributes := #[] }
def k3m8 : Method := { name := "hasTail", desc := "([II)Z", sig := { parameters := [(.array .int), .int], returnType := some .boolean }, accessFlags := 2, code := some k3c8 }
/-- com/example/gentle_endpoints/gentleendpoints/RangeTable$Segments -/
def k3 : Class := { plain "com/example/gentle_endpoints/gentleendpoints/RangeTable$Segments" (some 0) with
  accessFlags := 32
  interfaces := #[]
  cf := some (fileOf pool3 10 #[.nestHost 1] #[{ accessFlags := 0, nameIndex := 7, descriptorIndex := 83, attributes := #[] }, { accessFlags := 0, nameIndex := 86, descriptorIndex := 82, attributes := #[] }, { accessFlags := 0, nameIndex := 88, descriptorIndex := 89, attributes := #[] }, { accessFlags := 0, nameIndex := 90, descriptorIndex := 8, attributes := #[] }, { accessFlags := 0, nameIndex := 91, descriptorIndex := 92, attributes := #[] }, { accessFlags := 2, nameIndex := 68, descriptorIndex := 69, attributes := #[] }, { accessFlags := 2, nameIndex := 75, descriptorIndex := 69, attributes := #[] }, { accessFlags := 2, nameIndex := 55, descriptorIndex := 56, attributes := #[] }, { accessFlags := 2, nameIndex := 81, descriptorIndex := 82, attributes := #[] }] 32 4 #[] #[{ accessFlags := 18, nameIndex := 27, descriptorIndex := 28, attributes := #[] }, { accessFlags := 18, nameIndex := 37, descriptorIndex := 28, attributes := #[] }, { accessFlags := 18, nameIndex := 40, descriptorIndex := 14, attributes := #[] }, { accessFlags := 2, nameIndex := 46, descriptorIndex := 47, attributes := #[] }, { accessFlags := 2, nameIndex := 43, descriptorIndex := 28, attributes := #[] }, { accessFlags := 2, nameIndex := 13, descriptorIndex := 14, attributes := #[] }, { accessFlags := 2, nameIndex := 17, descriptorIndex := 14, attributes := #[] }, { accessFlags := 2, nameIndex := 20, descriptorIndex := 14, attributes := #[] }, { accessFlags := 2, nameIndex := 23, descriptorIndex := 24, attributes := #[] }, { accessFlags := 2, nameIndex := 65, descriptorIndex := 28, attributes := #[] }, { accessFlags := 2, nameIndex := 72, descriptorIndex := 28, attributes := #[] }])
  fields := #[{ name := "width", type := .int, accessFlags := 18, slot := 0, constantValue := 0 }, { name := "head", type := .int, accessFlags := 18, slot := 1, constantValue := 0 }, { name := "after", type := (.array .int), accessFlags := 18, slot := 2, constantValue := 0 }, { name := "full", type := .boolean, accessFlags := 2, slot := 3, constantValue := 0 }, { name := "ranges", type := .int, accessFlags := 2, slot := 4, constantValue := 0 }, { name := "starts", type := (.array .int), accessFlags := 2, slot := 5, constantValue := 0 }, { name := "tailed", type := (.array .int), accessFlags := 2, slot := 6, constantValue := 0 }, { name := "tails", type := (.array .int), accessFlags := 2, slot := 7, constantValue := 0 }, { name := "countries", type := (.array .char), accessFlags := 2, slot := 8, constantValue := 0 }, { name := "size", type := .int, accessFlags := 2, slot := 9, constantValue := 0 }, { name := "tailedSize", type := .int, accessFlags := 2, slot := 10, constantValue := 0 }]
  methods := #[k3m0, k3m1, k3m2, k3m3, k3m4, k3m5, k3m6, k3m7, k3m8]
  instanceTypes := #[.int, .int, (.array .int), .boolean, .int, (.array .int), (.array .int), (.array .int), (.array .char), .int, .int]
  staticTypes := #[]
  resolved := Array.replicate 100 none
  statics := none }

def pool4 : Array CpInfo := pool [(1, .class_ 2), (0, u "java/lang/Math"), (1, .class_ 6), (1, u "java/lang/Object"), (0, u "<init>"), (0, u "()V"), (89, .class_ 100), (1, u "java/lang/Math$RandomNumberGeneratorHolder"), (71, u "negativeZeroFloatBits"), (0, u "J"), (2, u "negativeZeroDoubleBits"), (24, u "min"), (43, u "$assertionsDisabled"), (0, u "Z"), (88, u "(II)I"), (2, u "twoToTheDoubleScaleDown"), (0, u "D"), (4, u "twoToTheDoubleScaleUp"), (9, u "E"), (3, u "PI"), (2, u "TAU"), (2, u "DEGREES_TO_RADIANS"), (0, u "RADIANS_TO_DEGREES")] 94

def k4m0 : Method := { name := "<init>", desc := "()V", sig := { parameters := [], returnType := none }, accessFlags := 2, code := none }
def k4c1 : Code := { maxStack := 2, maxLocals := 2, code := jdk_29_method_69_code, exceptionTable := #[], attributes := #[] }
def k4m1 : Method := { name := "min", desc := "(II)I", sig := { parameters := [.int, .int], returnType := some .int }, accessFlags := 9, code := some k4c1 }
/-- java/lang/Math -/
def k4 : Class := { plain "java/lang/Math" (some 0) with
  accessFlags := 49
  interfaces := #[]
  cf := some (fileOf pool4 1 #[.nestMembers #[98]] #[{ accessFlags := 2, nameIndex := 7, descriptorIndex := 8, attributes := #[] }, { accessFlags := 9, nameIndex := 201, descriptorIndex := 335, attributes := #[] }] 49 4 #[] #[{ accessFlags := 25, nameIndex := 354, descriptorIndex := 339, attributes := #[] }, { accessFlags := 25, nameIndex := 358, descriptorIndex := 339, attributes := #[] }, { accessFlags := 25, nameIndex := 361, descriptorIndex := 339, attributes := #[] }, { accessFlags := 26, nameIndex := 364, descriptorIndex := 339, attributes := #[] }, { accessFlags := 26, nameIndex := 365, descriptorIndex := 339, attributes := #[] }, { accessFlags := 26, nameIndex := 172, descriptorIndex := 173, attributes := #[] }, { accessFlags := 26, nameIndex := 176, descriptorIndex := 173, attributes := #[] }, { accessFlags := 8, nameIndex := 344, descriptorIndex := 339, attributes := #[] }, { accessFlags := 8, nameIndex := 338, descriptorIndex := 339, attributes := #[] }, { accessFlags := 4120, nameIndex := 245, descriptorIndex := 246, attributes := #[] }])
  fields := #[{ name := "E", type := .double, accessFlags := 25, slot := 0, constantValue := 0 }, { name := "PI", type := .double, accessFlags := 25, slot := 1, constantValue := 0 }, { name := "TAU", type := .double, accessFlags := 25, slot := 2, constantValue := 0 }, { name := "DEGREES_TO_RADIANS", type := .double, accessFlags := 26, slot := 3, constantValue := 0 }, { name := "RADIANS_TO_DEGREES", type := .double, accessFlags := 26, slot := 4, constantValue := 0 }, { name := "negativeZeroFloatBits", type := .long, accessFlags := 26, slot := 5, constantValue := 0 }, { name := "negativeZeroDoubleBits", type := .long, accessFlags := 26, slot := 6, constantValue := 0 }, { name := "twoToTheDoubleScaleUp", type := .double, accessFlags := 8, slot := 7, constantValue := 0 }, { name := "twoToTheDoubleScaleDown", type := .double, accessFlags := 8, slot := 8, constantValue := 0 }, { name := "$assertionsDisabled", type := .boolean, accessFlags := 4120, slot := 9, constantValue := 0 }]
  methods := #[k4m0, k4m1]
  instanceTypes := #[]
  staticTypes := #[.double, .double, .double, .double, .double, .long, .long, .double, .double, .boolean]
  resolved := Array.replicate 460 none
  statics := none }

def pool5 : Array CpInfo := pool [(2, .class_ 4), (1, u "java/lang/Object"), (0, u "<init>"), (0, u "()V"), (1, .class_ 10), (1, u "java/lang/System"), (0, u "allowSecurityManager"), (0, u "I"), (16, u "cons"), (0, u "Ljava/io/Console;"), (77, .class_ 110), (1, u "java/lang/System$CallersHolder"), (43, u "initialErrStream"), (0, u "Ljava/io/PrintStream;"), (19, u "security"), (0, u "Ljava/lang/SecurityManager;"), (31, .class_ 209), (0, u "java/lang/System$1"), (7, u "props"), (0, u "Ljava/util/Properties;"), (2, u "lineSeparator"), (0, u "Ljava/lang/String;"), (96, .class_ 321), (1, u "java/lang/System$LoggerFinder"), (5, .class_ 328), (0, u "java/lang/System$Logger"), (67, u "err"), (2, u "out"), (91, u "notSupportedJnuEncoding"), (15, u "in"), (17, u "initialIn"), (0, u "Ljava/io/InputStream;"), (35, u "bootLayer"), (0, u "Ljava/lang/ModuleLayer;"), (99, .class_ 664), (0, u "java/lang/System$2"), (9, u "NEVER"), (2, u "MAYBE"), (49, u "arraycopy"), (0, u "(Ljava/lang/Object;ILjava/lang/Object;II)V"), (72, .class_ 802), (0, u "java/lang/System$Logger$Level")] 31

def k5m0 : Method := { name := "<init>", desc := "()V", sig := { parameters := [], returnType := none }, accessFlags := 2, code := none }
def k5m1 : Method := { name := "arraycopy", desc := "(Ljava/lang/Object;ILjava/lang/Object;II)V", sig := { parameters := [(.object "java/lang/Object"), .int, (.object "java/lang/Object"), .int, .int], returnType := none }, accessFlags := 265, code := none }
/-- java/lang/System -/
def k5 : Class := { plain "java/lang/System" (some 0) with
  accessFlags := 49
  interfaces := #[]
  cf := some (fileOf pool5 8 #[.nestMembers #[319, 327, 801, 108, 663, 208]] #[{ accessFlags := 2, nameIndex := 5, descriptorIndex := 6, attributes := #[] }, { accessFlags := 265, nameIndex := 727, descriptorIndex := 728, attributes := #[] }] 49 2 #[] #[{ accessFlags := 25, nameIndex := 507, descriptorIndex := 526, attributes := #[] }, { accessFlags := 25, nameIndex := 399, descriptorIndex := 155, attributes := #[] }, { accessFlags := 25, nameIndex := 396, descriptorIndex := 155, attributes := #[] }, { accessFlags := 10, nameIndex := 525, descriptorIndex := 526, attributes := #[] }, { accessFlags := 26, nameIndex := 674, descriptorIndex := 12, attributes := #[] }, { accessFlags := 26, nameIndex := 677, descriptorIndex := 12, attributes := #[] }, { accessFlags := 10, nameIndex := 11, descriptorIndex := 12, attributes := #[] }, { accessFlags := 74, nameIndex := 175, descriptorIndex := 176, attributes := #[] }, { accessFlags := 10, nameIndex := 491, descriptorIndex := 222, attributes := #[] }, { accessFlags := 74, nameIndex := 29, descriptorIndex := 30, attributes := #[] }, { accessFlags := 74, nameIndex := 154, descriptorIndex := 155, attributes := #[] }, { accessFlags := 10, nameIndex := 217, descriptorIndex := 218, attributes := #[] }, { accessFlags := 10, nameIndex := 221, descriptorIndex := 222, attributes := #[] }, { accessFlags := 8, nameIndex := 562, descriptorIndex := 563, attributes := #[] }])
  fields := #[{ name := "in", type := (.object "java/io/InputStream"), accessFlags := 25, slot := 0, constantValue := 0 }, { name := "out", type := (.object "java/io/PrintStream"), accessFlags := 25, slot := 1, constantValue := 0 }, { name := "err", type := (.object "java/io/PrintStream"), accessFlags := 25, slot := 2, constantValue := 0 }, { name := "initialIn", type := (.object "java/io/InputStream"), accessFlags := 10, slot := 3, constantValue := 0 }, { name := "NEVER", type := .int, accessFlags := 26, slot := 4, constantValue := 0 }, { name := "MAYBE", type := .int, accessFlags := 26, slot := 5, constantValue := 0 }, { name := "allowSecurityManager", type := .int, accessFlags := 10, slot := 6, constantValue := 0 }, { name := "security", type := (.object "java/lang/SecurityManager"), accessFlags := 74, slot := 7, constantValue := 0 }, { name := "notSupportedJnuEncoding", type := (.object "java/lang/String"), accessFlags := 10, slot := 8, constantValue := 0 }, { name := "cons", type := (.object "java/io/Console"), accessFlags := 74, slot := 9, constantValue := 0 }, { name := "initialErrStream", type := (.object "java/io/PrintStream"), accessFlags := 74, slot := 10, constantValue := 0 }, { name := "props", type := (.object "java/util/Properties"), accessFlags := 10, slot := 11, constantValue := 0 }, { name := "lineSeparator", type := (.object "java/lang/String"), accessFlags := 10, slot := 12, constantValue := 0 }, { name := "bootLayer", type := (.object "java/lang/ModuleLayer"), accessFlags := 8, slot := 13, constantValue := 0 }]
  methods := #[k5m0, k5m1]
  instanceTypes := #[]
  staticTypes := #[(.object "java/io/InputStream"), (.object "java/io/PrintStream"), (.object "java/io/PrintStream"), (.object "java/io/InputStream"), .int, .int, .int, (.object "java/lang/SecurityManager"), (.object "java/lang/String"), (.object "java/io/Console"), (.object "java/io/PrintStream"), (.object "java/util/Properties"), (.object "java/lang/String"), (.object "java/lang/ModuleLayer")]
  resolved := Array.replicate 834 none
  statics := none }

def pool6 : Array CpInfo := pool [(4, .class_ 6), (1, u "java/lang/Object"), (3, .class_ 12), (1, u "com/example/gentle_endpoints/gentleendpoints/RangeTable$Segments"), (0, u "width"), (0, u "I"), (1, .class_ 17), (0, u "com/example/gentle_endpoints/gentleendpoints/RangeTable"), (2, u "head"), (3, u "starts"), (0, u "[I"), (3, u "tailed"), (3, u "tails"), (3, u "countries"), (0, u "[C"), (3, u "ranges"), (8, u "compare"), (0, u "([II[III)I"), (6, .methodref 60 61), (0, .class_ 62), (0, .nameAndType 63 64), (0, u "java/lang/Integer"), (0, u "compareUnsigned"), (0, u "(II)I"), (0, u "GAP"), (0, u "C"), (1, u "HEAD_WIDTH"), (14, .class_ 84), (0, u "com/example/gentle_endpoints/gentleendpoints/RangeTable$Builder"), (0, .class_ 86), (0, u "com/example/gentle_endpoints/gentleendpoints/RangeTable$Overlap")] 4

def k6c0 : Code := { maxStack := 4, maxLocals := 7, code := prog_17_method_6_code, exceptionTable := #[], attributes := #[] }
def k6m0 : Method := { name := "compare", desc := "([II[III)I", sig := { parameters := [(.array .int), .int, (.array .int), .int, .int], returnType := some .int }, accessFlags := 8, code := some k6c0 }
/-- com/example/gentle_endpoints/gentleendpoints/RangeTable -/
def k6 : Class := { plain "com/example/gentle_endpoints/gentleendpoints/RangeTable" (some 0) with
  accessFlags := 32
  interfaces := #[]
  cf := some (fileOf pool6 16 #[.nestMembers #[10, 83, 85]] #[{ accessFlags := 8, nameIndex := 51, descriptorIndex := 52, attributes := #[] }] 32 4 #[] #[{ accessFlags := 26, nameIndex := 65, descriptorIndex := 66, attributes := #[] }, { accessFlags := 26, nameIndex := 68, descriptorIndex := 14, attributes := #[] }, { accessFlags := 18, nameIndex := 13, descriptorIndex := 14, attributes := #[] }, { accessFlags := 18, nameIndex := 20, descriptorIndex := 14, attributes := #[] }, { accessFlags := 18, nameIndex := 24, descriptorIndex := 25, attributes := #[] }, { accessFlags := 18, nameIndex := 29, descriptorIndex := 25, attributes := #[] }, { accessFlags := 18, nameIndex := 33, descriptorIndex := 25, attributes := #[] }, { accessFlags := 18, nameIndex := 37, descriptorIndex := 38, attributes := #[] }, { accessFlags := 18, nameIndex := 42, descriptorIndex := 14, attributes := #[] }])
  fields := #[{ name := "GAP", type := .char, accessFlags := 26, slot := 0, constantValue := 0 }, { name := "HEAD_WIDTH", type := .int, accessFlags := 26, slot := 1, constantValue := 0 }, { name := "width", type := .int, accessFlags := 18, slot := 0, constantValue := 0 }, { name := "head", type := .int, accessFlags := 18, slot := 1, constantValue := 0 }, { name := "starts", type := (.array .int), accessFlags := 18, slot := 2, constantValue := 0 }, { name := "tailed", type := (.array .int), accessFlags := 18, slot := 3, constantValue := 0 }, { name := "tails", type := (.array .int), accessFlags := 18, slot := 4, constantValue := 0 }, { name := "countries", type := (.array .char), accessFlags := 18, slot := 5, constantValue := 0 }, { name := "ranges", type := .int, accessFlags := 18, slot := 6, constantValue := 0 }]
  methods := #[k6m0]
  instanceTypes := #[.int, .int, (.array .int), (.array .int), (.array .int), (.array .char), .int]
  staticTypes := #[.char, .int]
  resolved := Array.replicate 91 none
  statics := none }

def pool7 : Array CpInfo := pool [(1, .class_ 2), (0, u "java/io/Serializable"), (0, .class_ 4), (0, u "java/lang/Object")] 2

/-- java/io/Serializable -/
def k7 : Class := { plain "java/io/Serializable" (some 0) with
  accessFlags := 1537
  interfaces := #[]
  cf := some (fileOf pool7 1 #[] #[] 1537 3 #[] #[])
  fields := #[]
  methods := #[]
  instanceTypes := #[]
  staticTypes := #[]
  resolved := Array.replicate 7 none
  statics := none }

def pool8 : Array CpInfo := pool [(2, .class_ 4), (1, u "java/lang/Object"), (0, u "<init>"), (0, u "()V"), (1, .class_ 10), (1, u "java/lang/Number"), (2, .class_ 14), (0, u "java/io/Serializable"), (0, u "serialVersionUID"), (0, u "J")] 20

def k8m0 : Method := { name := "<init>", desc := "()V", sig := { parameters := [], returnType := none }, accessFlags := 1, code := none }
/-- java/lang/Number -/
def k8 : Class := { plain "java/lang/Number" (some 0) with
  accessFlags := 1057
  interfaces := #[7]
  cf := some (fileOf pool8 8 #[] #[{ accessFlags := 1, nameIndex := 5, descriptorIndex := 6, attributes := #[] }] 1057 2 #[13] #[{ accessFlags := 26, nameIndex := 15, descriptorIndex := 16, attributes := #[] }])
  fields := #[{ name := "serialVersionUID", type := .long, accessFlags := 26, slot := 0, constantValue := 0 }]
  methods := #[k8m0]
  instanceTypes := #[]
  staticTypes := #[.long]
  resolved := Array.replicate 37 none
  statics := none }

def pool9 : Array CpInfo := pool [(1, .class_ 2), (0, u "java/lang/Comparable"), (0, .class_ 4), (0, u "java/lang/Object")] 7

/-- java/lang/Comparable -/
def k9 : Class := { plain "java/lang/Comparable" (some 0) with
  accessFlags := 1537
  interfaces := #[]
  cf := some (fileOf pool9 1 #[] #[] 1537 3 #[] #[])
  fields := #[]
  methods := #[]
  instanceTypes := #[]
  staticTypes := #[]
  resolved := Array.replicate 12 none
  statics := none }

def pool10 : Array CpInfo := pool [(1, .class_ 2), (0, u "java/lang/constant/Constable"), (0, .class_ 4), (0, u "java/lang/Object")] 6

/-- java/lang/constant/Constable -/
def k10 : Class := { plain "java/lang/constant/Constable" (some 0) with
  accessFlags := 1537
  interfaces := #[]
  cf := some (fileOf pool10 1 #[] #[] 1537 3 #[] #[])
  fields := #[]
  methods := #[]
  instanceTypes := #[]
  staticTypes := #[]
  resolved := Array.replicate 11 none
  statics := none }

def pool11 : Array CpInfo := pool [(1, .class_ 2), (0, u "java/lang/constant/ConstantDesc"), (0, .class_ 4), (0, u "java/lang/Object")] 32

/-- java/lang/constant/ConstantDesc -/
def k11 : Class := { plain "java/lang/constant/ConstantDesc" (some 0) with
  accessFlags := 1537
  interfaces := #[]
  cf := some (fileOf pool11 1 #[] #[] 1537 3 #[] #[])
  fields := #[]
  methods := #[]
  instanceTypes := #[]
  staticTypes := #[]
  resolved := Array.replicate 37 none
  statics := none }

def pool12 : Array CpInfo := pool [(1, .class_ 2), (0, u "java/lang/Integer"), (16, u "digits"), (0, u "[C"), (39, u "(II)I"), (24, u "DigitOnes"), (0, u "[B"), (2, u "DigitTens"), (37, .integer 2147483648), (61, .class_ 190), (0, u "java/lang/Integer$IntegerCache"), (3, u "I"), (8, .class_ 204), (0, u "java/lang/Number"), (2, u "value"), (51, .methodref 1 260), (0, .nameAndType 261 60), (0, u "compare"), (40, u "TYPE"), (0, u "Ljava/lang/Class;"), (0, .class_ 305), (0, u "java/lang/Comparable"), (0, .class_ 307), (0, u "java/lang/constant/Constable"), (0, .class_ 309), (0, u "java/lang/constant/ConstantDesc"), (0, u "MIN_VALUE"), (1, u "MAX_VALUE"), (3, u "SIZE"), (1, u "BYTES"), (1, u "serialVersionUID"), (0, u "J"), (76, u "compareUnsigned")] 54

def k12c0 : Code := { maxStack := 2, maxLocals := 2, code := jdk_33_method_40_code, exceptionTable := #[], attributes := #[] }
def k12m0 : Method := { name := "compare", desc := "(II)I", sig := { parameters := [.int, .int], returnType := some .int }, accessFlags := 9, code := some k12c0 }
def k12c1 : Code := { maxStack := 3, maxLocals := 2, code := jdk_33_method_41_code, exceptionTable := #[], attributes := #[] }
def k12m1 : Method := { name := "compareUnsigned", desc := "(II)I", sig := { parameters := [.int, .int], returnType := some .int }, accessFlags := 9, code := some k12c1 }
/-- java/lang/Integer -/
def k12 : Class := { plain "java/lang/Integer" (some 8) with
  accessFlags := 49
  interfaces := #[9, 10, 11]
  cf := some (fileOf pool12 1 #[.nestMembers #[189]] #[{ accessFlags := 9, nameIndex := 261, descriptorIndex := 60, attributes := #[] }, { accessFlags := 9, nameIndex := 398, descriptorIndex := 60, attributes := #[] }] 49 203 #[304, 306, 308] #[{ accessFlags := 25, nameIndex := 310, descriptorIndex := 194, attributes := #[] }, { accessFlags := 25, nameIndex := 312, descriptorIndex := 194, attributes := #[] }, { accessFlags := 25, nameIndex := 302, descriptorIndex := 303, attributes := #[] }, { accessFlags := 24, nameIndex := 19, descriptorIndex := 20, attributes := #[] }, { accessFlags := 24, nameIndex := 89, descriptorIndex := 86, attributes := #[] }, { accessFlags := 24, nameIndex := 85, descriptorIndex := 86, attributes := #[] }, { accessFlags := 18, nameIndex := 207, descriptorIndex := 194, attributes := #[] }, { accessFlags := 25, nameIndex := 316, descriptorIndex := 194, attributes := #[] }, { accessFlags := 25, nameIndex := 318, descriptorIndex := 194, attributes := #[] }, { accessFlags := 26, nameIndex := 320, descriptorIndex := 321, attributes := #[] }])
  fields := #[{ name := "MIN_VALUE", type := .int, accessFlags := 25, slot := 0, constantValue := 0 }, { name := "MAX_VALUE", type := .int, accessFlags := 25, slot := 1, constantValue := 0 }, { name := "TYPE", type := (.object "java/lang/Class"), accessFlags := 25, slot := 2, constantValue := 0 }, { name := "digits", type := (.array .char), accessFlags := 24, slot := 3, constantValue := 0 }, { name := "DigitTens", type := (.array .byte), accessFlags := 24, slot := 4, constantValue := 0 }, { name := "DigitOnes", type := (.array .byte), accessFlags := 24, slot := 5, constantValue := 0 }, { name := "value", type := .int, accessFlags := 18, slot := 0, constantValue := 0 }, { name := "SIZE", type := .int, accessFlags := 25, slot := 6, constantValue := 0 }, { name := "BYTES", type := .int, accessFlags := 25, slot := 7, constantValue := 0 }, { name := "serialVersionUID", type := .long, accessFlags := 26, slot := 8, constantValue := 0 }]
  methods := #[k12m0, k12m1]
  instanceTypes := #[.int]
  staticTypes := #[.int, .int, (.object "java/lang/Class"), (.array .char), (.array .byte), (.array .byte), .int, .int, .long]
  resolved := Array.replicate 453 none
  statics := none }

def pool13 : Array CpInfo := pool [(1, u "java/lang/Cloneable"), (0, .class_ 1), (0, u "java/lang/Object"), (0, .class_ 3)] 3

/-- java/lang/Cloneable -/
def k13 : Class := { plain "java/lang/Cloneable" (some 0) with
  accessFlags := 1537
  interfaces := #[]
  cf := some (fileOf pool13 2 #[] #[] 1537 4 #[] #[])
  fields := #[]
  methods := #[]
  instanceTypes := #[]
  staticTypes := #[]
  resolved := Array.replicate 8 none
  statics := none }

/-- the primitive byte -/
def k14 : Class := { plain "byte" none with kind := .primitive 'B', accessFlags := 0x411 }
/-- [B -/
def k15 : Class := { plain "[B" (some 0) with kind := .array 14 .byte, interfaces := #[13, 7], accessFlags := 1041 }

/-- the primitive char -/
def k16 : Class := { plain "char" none with kind := .primitive 'C', accessFlags := 0x411 }
/-- [C -/
def k17 : Class := { plain "[C" (some 0) with kind := .array 16 .char, interfaces := #[13, 7], accessFlags := 1041 }

/-- the primitive int -/
def k18 : Class := { plain "int" none with kind := .primitive 'I', accessFlags := 0x411 }
/-- [I -/
def k19 : Class := { plain "[I" (some 0) with kind := .array 18 .int, interfaces := #[13, 7], accessFlags := 1041 }
/-- [[I -/
def k20 : Class := { plain "[[I" (some 0) with kind := .array 19 (.array .int), interfaces := #[13, 7], accessFlags := 1041 }

def heap : Heap := #[]
def classes : Array Class := #[k0, k1, k2, k3, k4, k5, k6, k7, k8, k9, k10, k11, k12, k13, k14, k15, k16, k17, k18, k19, k20]
def interned : List (Array UInt16 × Addr) := []
def slotsUsed : Nat := 0
def theMethod : MethodId := ⟨1, 6⟩
def args0 : Array Value := #[.long 5, .long 7, .long 9, .int 1]
def aboutOver (below : List Frame) : State where
  vm := { classes := classes, interned := interned.toArray }
  heap := heap
  slotsUsed := slotsUsed
  threads := #[{ frames := .invoking theMethod args0 :: below }]
def below0 : List Frame := [.native { method := ⟨0, 0⟩, args := #[] }]
def about1 : State := aboutOver below0
def p0 : Program := .bare "" "" ""
def e0 : Env := launch0.env 0 0 0
theorem w_frames : about1.frames = Frame.invoking theMethod args0 :: below0 := rfl
set_option maxRecDepth 65536 in
theorem w_args : argsFit about1.vm theMethod args0 = true := by decide +kernel
set_option maxRecDepth 65536 in
theorem w_heap : heapFits about1 = true := by decide +kernel
set_option maxRecDepth 65536 in
theorem w_runnable : about1.curStatus? = some .runnable := by decide +kernel
set_option maxRecDepth 65536 in
theorem w_alone : about1.alone = true := by decide +kernel
set_option maxRecDepth 65536 in
theorem w_named : about1.methodNamed? x = some theMethod := by decide +kernel
set_option maxRecDepth 65536 in
theorem w_hears : about1.hears theMethod below0 = true := by decide +kernel
set_option maxRecDepth 65536 in
theorem w_ripe : about1.ripe theMethod args0 below0 = true := by decide +kernel
theorem w_running : about1.status = .running := rfl
set_option maxRecDepth 65536 in
theorem w_room : about1.hasRoom e0.platform room_1 = true :=
  launch0.hasRoom_least _ room_1 (by decide +kernel) (by decide +kernel) (by decide +kernel) (by decide +kernel) (by decide +kernel) (by decide +kernel)
theorem allAtoms_all (ts : List Jvm.Cond) (a : Array Jvm.Value) (st : Jvm.State) : (allAtoms ts).before a st = ts.all (fun c => c.before a st) := by
  induction ts with
  | nil => rfl
  | cons c t ih =>
    show (Jvm.Cond.and c (allAtoms t)).before a st = _
    rw [Jvm.Cond.before_and, ih, List.all_cons]
def words1 : List Jvm.Cond := Jvm.Cond.code x code maxLocals ret :: tables_1
/-- a 'code' word, met by the world's own term for the bytes: nothing is compared byte by byte -/
theorem code_word {y : MethodName} {bytes : ByteArray} {mx : Nat} {rt : Option FieldType} {a : Array Value} {s : State} {m : MethodId} {meth : Method} {c : Code} (h1 : s.methodNamed? y = some m) (h2 : s.vm.method? m = some meth) (h3 : meth.code = some c) (h4 : c.code = bytes)
    (h5 : (c.maxLocals == mx && c.exceptionTable.isEmpty && decide (c.maxStack ≤ mostOperands) && decide (meth.sig.returnType = rt) && !meth.locks && decide (parseMethodDescriptor y.desc = some meth.sig)) = true) : (Jvm.Cond.code y bytes mx rt).before a s = true := by
  simp only [Bool.and_eq_true, beq_iff_eq, Bool.not_eq_true', decide_eq_true_eq] at h5
  obtain ⟨⟨⟨⟨⟨g1, g2⟩, g3⟩, g4⟩, g5⟩, g6⟩ := h5
  simp [Cond.before, Cond.holds, Cond.value, h1, h2, h3, h4, g1, g2, g3, g4, g5, g6]
def isCode : Jvm.Cond → Bool
  | .code _ _ _ _ => true
  | _ => false
theorem all_split {L : List Jvm.Cond} {P : Jvm.Cond → Bool} (h1 : L.all (fun c => isCode c || P c) = true) (h2 : ∀ c ∈ L.filter isCode, P c = true) : L.all P = true := by
  refine List.all_eq_true.mpr fun c hc => ?_
  have h := List.all_eq_true.mp h1 c hc
  rcases Bool.eq_false_or_eq_true (isCode c) with hi | hi
  · exact h2 c (List.mem_filter.mpr ⟨hc, hi⟩)
  · simpa [hi] using h
set_option maxRecDepth 65536 in
theorem w_c0 : (Jvm.Cond.code x code maxLocals ret).before args0 about1 = true := code_word (m := ⟨1, 6⟩) (meth := k1m6) (c := k1c6) (by decide +kernel) rfl rfl rfl (by decide +kernel)
set_option maxRecDepth 65536 in
theorem w_c1 : (Jvm.Cond.code ({ cls := "com/example/gentle_endpoints/gentleendpoints/BuilderAllocatePinLaw", name := "lo", desc := "(J)I" } : Jvm.MethodName) method_3_code (4 : Nat) (Option.some Jvm.ClassFile.FieldType.int)).before args0 about1 = true := code_word (m := ⟨1, 2⟩) (meth := k1m2) (c := k1c2) (by decide +kernel) rfl rfl rfl (by decide +kernel)
set_option maxRecDepth 65536 in
theorem w_c2 : (Jvm.Cond.code ({ cls := "com/example/gentle_endpoints/gentleendpoints/BuilderAllocatePinLaw", name := "ult", desc := "(II)Z" } : Jvm.MethodName) method_2_code (2 : Nat) (Option.some Jvm.ClassFile.FieldType.boolean)).before args0 about1 = true := code_word (m := ⟨1, 1⟩) (meth := k1m1) (c := k1c1) (by decide +kernel) rfl rfl rfl (by decide +kernel)
set_option maxRecDepth 65536 in
theorem w_c3 : (Jvm.Cond.code ({ cls := "com/example/gentle_endpoints/gentleendpoints/BuilderAllocatePinLaw", name := "hi", desc := "(J)I" } : Jvm.MethodName) method_4_code (4 : Nat) (Option.some Jvm.ClassFile.FieldType.int)).before args0 about1 = true := code_word (m := ⟨1, 3⟩) (meth := k1m3) (c := k1c3) (by decide +kernel) rfl rfl rfl (by decide +kernel)
set_option maxRecDepth 65536 in
theorem w_c4 : (Jvm.Cond.code ({ cls := "com/example/gentle_endpoints/gentleendpoints/BuilderAllocatePinLaw", name := "addr", desc := "(IZ)[I" } : Jvm.MethodName) method_5_code (2 : Nat) (Option.some (Jvm.ClassFile.FieldType.array Jvm.ClassFile.FieldType.int))).before args0 about1 = true := code_word (m := ⟨1, 4⟩) (meth := k1m4) (c := k1c4) (by decide +kernel) rfl rfl rfl (by decide +kernel)
set_option maxRecDepth 65536 in
theorem w_c5 : (Jvm.Cond.code ({ cls := "com/example/gentle_endpoints/gentleendpoints/RangeTable$Builder", name := "<init>", desc := "(I)V" } : Jvm.MethodName) prog_18_method_1_code (2 : Nat) (Option.none : Option Jvm.ClassFile.FieldType)).before args0 about1 = true := code_word (m := ⟨2, 0⟩) (meth := k2m0) (c := k2c0) (by decide +kernel) rfl rfl rfl (by decide +kernel)
set_option maxRecDepth 65536 in
theorem w_c6 : (Jvm.Cond.code ({ cls := "java/lang/Object", name := "<init>", desc := "()V" } : Jvm.MethodName) object_method_1_code (1 : Nat) (Option.none : Option Jvm.ClassFile.FieldType)).before args0 about1 = true := code_word (m := ⟨0, 0⟩) (meth := k0m0) (c := k0c0) (by decide +kernel) rfl rfl rfl (by decide +kernel)
set_option maxRecDepth 65536 in
theorem w_c7 : (Jvm.Cond.code ({ cls := "com/example/gentle_endpoints/gentleendpoints/RangeTable$Segments", name := "<init>", desc := "(I)V" } : Jvm.MethodName) prog_20_method_1_code (2 : Nat) (Option.none : Option Jvm.ClassFile.FieldType)).before args0 about1 = true := code_word (m := ⟨3, 0⟩) (meth := k3m0) (c := k3c0) (by decide +kernel) rfl rfl rfl (by decide +kernel)
set_option maxRecDepth 65536 in
theorem w_c8 : (Jvm.Cond.code ({ cls := "java/lang/Math", name := "min", desc := "(II)I" } : Jvm.MethodName) jdk_29_method_69_code (2 : Nat) (Option.some Jvm.ClassFile.FieldType.int)).before args0 about1 = true := code_word (m := ⟨4, 1⟩) (meth := k4m1) (c := k4c1) (by decide +kernel) rfl rfl rfl (by decide +kernel)
set_option maxRecDepth 65536 in
theorem w_c9 : (Jvm.Cond.code ({ cls := "com/example/gentle_endpoints/gentleendpoints/BuilderAllocatePinLaw", name := "feed", desc := "(Lcom/example/gentle_endpoints/gentleendpoints/RangeTable$Builder;I[[I[[I[IC)V" } : Jvm.MethodName) method_6_code (6 : Nat) (Option.none : Option Jvm.ClassFile.FieldType)).before args0 about1 = true := code_word (m := ⟨1, 5⟩) (meth := k1m5) (c := k1c5) (by decide +kernel) rfl rfl rfl (by decide +kernel)
set_option maxRecDepth 65536 in
theorem w_c10 : (Jvm.Cond.code ({ cls := "com/example/gentle_endpoints/gentleendpoints/RangeTable$Builder", name := "add", desc := "([I[ICI)V" } : Jvm.MethodName) prog_18_method_2_code (5 : Nat) (Option.none : Option Jvm.ClassFile.FieldType)).before args0 about1 = true := code_word (m := ⟨2, 1⟩) (meth := k2m1) (c := k2c1) (by decide +kernel) rfl rfl rfl (by decide +kernel)
set_option maxRecDepth 65536 in
theorem w_c11 : (Jvm.Cond.code ({ cls := "com/example/gentle_endpoints/gentleendpoints/RangeTable$Segments", name := "above", desc := "([II)Z" } : Jvm.MethodName) prog_20_method_2_code (3 : Nat) (Option.some Jvm.ClassFile.FieldType.boolean)).before args0 about1 = true := code_word (m := ⟨3, 1⟩) (meth := k3m1) (c := k3c1) (by decide +kernel) rfl rfl rfl (by decide +kernel)
set_option maxRecDepth 65536 in
theorem w_c12 : (Jvm.Cond.code ({ cls := "com/example/gentle_endpoints/gentleendpoints/RangeTable$Segments", name := "append", desc := "([II[IIC)V" } : Jvm.MethodName) prog_20_method_3_code (8 : Nat) (Option.none : Option Jvm.ClassFile.FieldType)).before args0 about1 = true := code_word (m := ⟨3, 2⟩) (meth := k3m2) (c := k3c2) (by decide +kernel) rfl rfl rfl (by decide +kernel)
set_option maxRecDepth 65536 in
theorem w_c13 : (Jvm.Cond.code ({ cls := "com/example/gentle_endpoints/gentleendpoints/RangeTable$Segments", name := "put", desc := "([IIC)V" } : Jvm.MethodName) prog_20_method_9_code (4 : Nat) (Option.none : Option Jvm.ClassFile.FieldType)).before args0 about1 = true := code_word (m := ⟨3, 7⟩) (meth := k3m7) (c := k3c7) (by decide +kernel) rfl rfl rfl (by decide +kernel)
set_option maxRecDepth 65536 in
theorem w_c14 : (Jvm.Cond.code ({ cls := "com/example/gentle_endpoints/gentleendpoints/RangeTable$Segments", name := "hasTail", desc := "([II)Z" } : Jvm.MethodName) prog_20_method_10_code (5 : Nat) (Option.some Jvm.ClassFile.FieldType.boolean)).before args0 about1 = true := code_word (m := ⟨3, 8⟩) (meth := k3m8) (c := k3c8) (by decide +kernel) rfl rfl rfl (by decide +kernel)
set_option maxRecDepth 65536 in
theorem w_c15 : (Jvm.Cond.code ({ cls := "com/example/gentle_endpoints/gentleendpoints/RangeTable", name := "compare", desc := "([II[III)I" } : Jvm.MethodName) prog_17_method_6_code (7 : Nat) (Option.some Jvm.ClassFile.FieldType.int)).before args0 about1 = true := code_word (m := ⟨6, 0⟩) (meth := k6m0) (c := k6c0) (by decide +kernel) rfl rfl rfl (by decide +kernel)
set_option maxRecDepth 65536 in
theorem w_c16 : (Jvm.Cond.code ({ cls := "java/lang/Integer", name := "compareUnsigned", desc := "(II)I" } : Jvm.MethodName) jdk_33_method_41_code (2 : Nat) (Option.some Jvm.ClassFile.FieldType.int)).before args0 about1 = true := code_word (m := ⟨12, 1⟩) (meth := k12m1) (c := k12c1) (by decide +kernel) rfl rfl rfl (by decide +kernel)
set_option maxRecDepth 65536 in
theorem w_c17 : (Jvm.Cond.code ({ cls := "java/lang/Integer", name := "compare", desc := "(II)I" } : Jvm.MethodName) jdk_33_method_40_code (2 : Nat) (Option.some Jvm.ClassFile.FieldType.int)).before args0 about1 = true := code_word (m := ⟨12, 0⟩) (meth := k12m0) (c := k12c0) (by decide +kernel) rfl rfl rfl (by decide +kernel)
set_option maxRecDepth 65536 in
theorem w_c18 : (Jvm.Cond.code ({ cls := "com/example/gentle_endpoints/gentleendpoints/RangeTable$Builder", name := "allocate", desc := "()V" } : Jvm.MethodName) prog_18_method_3_code (1 : Nat) (Option.none : Option Jvm.ClassFile.FieldType)).before args0 about1 = true := code_word (m := ⟨2, 2⟩) (meth := k2m2) (c := k2c2) (by decide +kernel) rfl rfl rfl (by decide +kernel)
set_option maxRecDepth 65536 in
theorem w_c19 : (Jvm.Cond.code ({ cls := "com/example/gentle_endpoints/gentleendpoints/RangeTable$Builder", name := "keptAsCounted", desc := "()Z" } : Jvm.MethodName) prog_18_method_4_code (1 : Nat) (Option.some Jvm.ClassFile.FieldType.boolean)).before args0 about1 = true := code_word (m := ⟨2, 3⟩) (meth := k2m3) (c := k2c3) (by decide +kernel) rfl rfl rfl (by decide +kernel)
set_option maxRecDepth 65536 in
theorem w_c20 : (Jvm.Cond.code ({ cls := "com/example/gentle_endpoints/gentleendpoints/RangeTable$Segments", name := "allocate", desc := "()V" } : Jvm.MethodName) prog_20_method_4_code (3 : Nat) (Option.none : Option Jvm.ClassFile.FieldType)).before args0 about1 = true := code_word (m := ⟨3, 3⟩) (meth := k3m3) (c := k3c3) (by decide +kernel) rfl rfl rfl (by decide +kernel)
set_option maxRecDepth 65536 in
theorem w_c21 : (Jvm.Cond.code ({ cls := "com/example/gentle_endpoints/gentleendpoints/RangeTable$Segments", name := "gapAfterLast", desc := "()I" } : Jvm.MethodName) prog_20_method_7_code (1 : Nat) (Option.some Jvm.ClassFile.FieldType.int)).before args0 about1 = true := code_word (m := ⟨3, 5⟩) (meth := k3m5) (c := k3c5) (by decide +kernel) rfl rfl rfl (by decide +kernel)
set_option maxRecDepth 65536 in
theorem w_c22 : (Jvm.Cond.code ({ cls := "com/example/gentle_endpoints/gentleendpoints/RangeTable$Segments", name := "tailedAfterLast", desc := "()I" } : Jvm.MethodName) prog_20_method_8_code (1 : Nat) (Option.some Jvm.ClassFile.FieldType.int)).before args0 about1 = true := code_word (m := ⟨3, 6⟩) (meth := k3m6) (c := k3c6) (by decide +kernel) rfl rfl rfl (by decide +kernel)
set_option maxRecDepth 65536 in
theorem w_c23 : (Jvm.Cond.code ({ cls := "com/example/gentle_endpoints/gentleendpoints/RangeTable$Segments", name := "appendedAsCounted", desc := "()Z" } : Jvm.MethodName) prog_20_method_5_code (1 : Nat) (Option.some Jvm.ClassFile.FieldType.boolean)).before args0 about1 = true := code_word (m := ⟨3, 4⟩) (meth := k3m4) (c := k3c4) (by decide +kernel) rfl rfl rfl (by decide +kernel)
def codes1 : List Jvm.Cond := [Jvm.Cond.code x code maxLocals ret, Jvm.Cond.code ({ cls := "com/example/gentle_endpoints/gentleendpoints/BuilderAllocatePinLaw", name := "lo", desc := "(J)I" } : Jvm.MethodName) method_3_code (4 : Nat) (Option.some Jvm.ClassFile.FieldType.int), Jvm.Cond.code ({ cls := "com/example/gentle_endpoints/gentleendpoints/BuilderAllocatePinLaw", name := "ult", desc := "(II)Z" } : Jvm.MethodName) method_2_code (2 : Nat) (Option.some Jvm.ClassFile.FieldType.boolean), Jvm.Cond.code ({ cls := "com/example/gentle_endpoints/gentleendpoints/BuilderAllocatePinLaw", name := "hi", desc := "(J)I" } : Jvm.MethodName) method_4_code (4 : Nat) (Option.some Jvm.ClassFile.FieldType.int), Jvm.Cond.code ({ cls := "com/example/gentle_endpoints/gentleendpoints/BuilderAllocatePinLaw", name := "addr", desc := "(IZ)[I" } : Jvm.MethodName) method_5_code (2 : Nat) (Option.some (Jvm.ClassFile.FieldType.array Jvm.ClassFile.FieldType.int)), Jvm.Cond.code ({ cls := "com/example/gentle_endpoints/gentleendpoints/RangeTable$Builder", name := "<init>", desc := "(I)V" } : Jvm.MethodName) prog_18_method_1_code (2 : Nat) (Option.none : Option Jvm.ClassFile.FieldType), Jvm.Cond.code ({ cls := "java/lang/Object", name := "<init>", desc := "()V" } : Jvm.MethodName) object_method_1_code (1 : Nat) (Option.none : Option Jvm.ClassFile.FieldType), Jvm.Cond.code ({ cls := "com/example/gentle_endpoints/gentleendpoints/RangeTable$Segments", name := "<init>", desc := "(I)V" } : Jvm.MethodName) prog_20_method_1_code (2 : Nat) (Option.none : Option Jvm.ClassFile.FieldType), Jvm.Cond.code ({ cls := "java/lang/Math", name := "min", desc := "(II)I" } : Jvm.MethodName) jdk_29_method_69_code (2 : Nat) (Option.some Jvm.ClassFile.FieldType.int), Jvm.Cond.code ({ cls := "com/example/gentle_endpoints/gentleendpoints/BuilderAllocatePinLaw", name := "feed", desc := "(Lcom/example/gentle_endpoints/gentleendpoints/RangeTable$Builder;I[[I[[I[IC)V" } : Jvm.MethodName) method_6_code (6 : Nat) (Option.none : Option Jvm.ClassFile.FieldType), Jvm.Cond.code ({ cls := "com/example/gentle_endpoints/gentleendpoints/RangeTable$Builder", name := "add", desc := "([I[ICI)V" } : Jvm.MethodName) prog_18_method_2_code (5 : Nat) (Option.none : Option Jvm.ClassFile.FieldType), Jvm.Cond.code ({ cls := "com/example/gentle_endpoints/gentleendpoints/RangeTable$Segments", name := "above", desc := "([II)Z" } : Jvm.MethodName) prog_20_method_2_code (3 : Nat) (Option.some Jvm.ClassFile.FieldType.boolean), Jvm.Cond.code ({ cls := "com/example/gentle_endpoints/gentleendpoints/RangeTable$Segments", name := "append", desc := "([II[IIC)V" } : Jvm.MethodName) prog_20_method_3_code (8 : Nat) (Option.none : Option Jvm.ClassFile.FieldType), Jvm.Cond.code ({ cls := "com/example/gentle_endpoints/gentleendpoints/RangeTable$Segments", name := "put", desc := "([IIC)V" } : Jvm.MethodName) prog_20_method_9_code (4 : Nat) (Option.none : Option Jvm.ClassFile.FieldType), Jvm.Cond.code ({ cls := "com/example/gentle_endpoints/gentleendpoints/RangeTable$Segments", name := "hasTail", desc := "([II)Z" } : Jvm.MethodName) prog_20_method_10_code (5 : Nat) (Option.some Jvm.ClassFile.FieldType.boolean), Jvm.Cond.code ({ cls := "com/example/gentle_endpoints/gentleendpoints/RangeTable", name := "compare", desc := "([II[III)I" } : Jvm.MethodName) prog_17_method_6_code (7 : Nat) (Option.some Jvm.ClassFile.FieldType.int), Jvm.Cond.code ({ cls := "java/lang/Integer", name := "compareUnsigned", desc := "(II)I" } : Jvm.MethodName) jdk_33_method_41_code (2 : Nat) (Option.some Jvm.ClassFile.FieldType.int), Jvm.Cond.code ({ cls := "java/lang/Integer", name := "compare", desc := "(II)I" } : Jvm.MethodName) jdk_33_method_40_code (2 : Nat) (Option.some Jvm.ClassFile.FieldType.int), Jvm.Cond.code ({ cls := "com/example/gentle_endpoints/gentleendpoints/RangeTable$Builder", name := "allocate", desc := "()V" } : Jvm.MethodName) prog_18_method_3_code (1 : Nat) (Option.none : Option Jvm.ClassFile.FieldType), Jvm.Cond.code ({ cls := "com/example/gentle_endpoints/gentleendpoints/RangeTable$Builder", name := "keptAsCounted", desc := "()Z" } : Jvm.MethodName) prog_18_method_4_code (1 : Nat) (Option.some Jvm.ClassFile.FieldType.boolean), Jvm.Cond.code ({ cls := "com/example/gentle_endpoints/gentleendpoints/RangeTable$Segments", name := "allocate", desc := "()V" } : Jvm.MethodName) prog_20_method_4_code (3 : Nat) (Option.none : Option Jvm.ClassFile.FieldType), Jvm.Cond.code ({ cls := "com/example/gentle_endpoints/gentleendpoints/RangeTable$Segments", name := "gapAfterLast", desc := "()I" } : Jvm.MethodName) prog_20_method_7_code (1 : Nat) (Option.some Jvm.ClassFile.FieldType.int), Jvm.Cond.code ({ cls := "com/example/gentle_endpoints/gentleendpoints/RangeTable$Segments", name := "tailedAfterLast", desc := "()I" } : Jvm.MethodName) prog_20_method_8_code (1 : Nat) (Option.some Jvm.ClassFile.FieldType.int), Jvm.Cond.code ({ cls := "com/example/gentle_endpoints/gentleendpoints/RangeTable$Segments", name := "appendedAsCounted", desc := "()Z" } : Jvm.MethodName) prog_20_method_5_code (1 : Nat) (Option.some Jvm.ClassFile.FieldType.boolean)]
set_option maxRecDepth 65536 in
theorem codes_eq : words1.filter isCode = codes1 := rfl
theorem w_codes : ∀ c ∈ words1.filter isCode, c.before args0 about1 = true := by
  rw [codes_eq]
  intro c hc
  simp only [codes1, List.mem_cons, List.not_mem_nil, or_false] at hc
  rcases hc with rfl | rfl | rfl | rfl | rfl | rfl | rfl | rfl | rfl | rfl | rfl | rfl | rfl | rfl | rfl | rfl | rfl | rfl | rfl | rfl | rfl | rfl | rfl | rfl
  · exact w_c0
  · exact w_c1
  · exact w_c2
  · exact w_c3
  · exact w_c4
  · exact w_c5
  · exact w_c6
  · exact w_c7
  · exact w_c8
  · exact w_c9
  · exact w_c10
  · exact w_c11
  · exact w_c12
  · exact w_c13
  · exact w_c14
  · exact w_c15
  · exact w_c16
  · exact w_c17
  · exact w_c18
  · exact w_c19
  · exact w_c20
  · exact w_c21
  · exact w_c22
  · exact w_c23
set_option maxRecDepth 65536 in
theorem w_t1 : (words1.take 24).all (fun c => isCode c || c.before args0 about1) = true := by decide +kernel
set_option maxRecDepth 65536 in
theorem w_t2 : ((words1.drop 24).take 24).all (fun c => isCode c || c.before args0 about1) = true := by decide +kernel
set_option maxRecDepth 65536 in
theorem w_t3 : (((words1.drop 24).drop 24).take 24).all (fun c => isCode c || c.before args0 about1) = true := by decide +kernel
set_option maxRecDepth 65536 in
theorem w_t4 : ((((words1.drop 24).drop 24).drop 24).take 24).all (fun c => isCode c || c.before args0 about1) = true := by decide +kernel
set_option maxRecDepth 65536 in
theorem w_t5 : (((((words1.drop 24).drop 24).drop 24).drop 24).take 24).all (fun c => isCode c || c.before args0 about1) = true := by decide +kernel
set_option maxRecDepth 65536 in
theorem w_t6 : ((((((words1.drop 24).drop 24).drop 24).drop 24).drop 24).take 24).all (fun c => isCode c || c.before args0 about1) = true := by decide +kernel
set_option maxRecDepth 65536 in
theorem w_t7 : ((((((words1.drop 24).drop 24).drop 24).drop 24).drop 24).drop 24).all (fun c => isCode c || c.before args0 about1) = true := by decide +kernel
theorem w_tables : (allAtoms (Jvm.Cond.code x code maxLocals ret :: tables_1)).before args0 about1 = true := by
  rw [allAtoms_all]
  show words1.all (fun c => c.before args0 about1) = true
  refine all_split ?_ w_codes
  rw [← List.take_append_drop 24 words1, List.all_append, w_t1, ← List.take_append_drop 24 (words1.drop 24), List.all_append, w_t2, ← List.take_append_drop 24 ((words1.drop 24).drop 24), List.all_append, w_t3, ← List.take_append_drop 24 (((words1.drop 24).drop 24).drop 24), List.all_append, w_t4, ← List.take_append_drop 24 ((((words1.drop 24).drop 24).drop 24).drop 24), List.all_append, w_t5, ← List.take_append_drop 24 (((((words1.drop 24).drop 24).drop 24).drop 24).drop 24), List.all_append, w_t6, w_t7]
  rfl
set_option maxRecDepth 65536 in
theorem w_case : (Jvm.Cond.and given_1 narrow_1).before args0 about1 = true := by decide +kernel
theorem w_applies : (headSpec (Jvm.Cond.code x code maxLocals ret :: tables_1) room_1).applies x e0.platform about1 = true :=
  (Spec.applies_iff w_frames).mpr ⟨w_running, w_runnable, w_alone, w_named, w_hears, w_ripe, w_room, w_tables⟩
theorem atStart : AtStart classFile x code maxLocals ret World_1 tables_1 room_1 Calls_1 rest_1 Pre_1 launch0 p0 e0 about1 theMethod args0 below0 :=
  ⟨lists_1, trivial, launch0.admits_env _ _ _, launch0.least_env, fairChoices_fair.cas, fairChoices_fair.clock, w_frames, w_args, w_heap, w_applies, trivial, trivial, w_case⟩
end start1
theorem witness_1 : WitnessClaimed_1 := ⟨start1.p0, start1.e0, start1.about1, start1.theMethod, start1.args0, start1.below0, start1.atStart⟩
end Jvm.Pilot.@@N@@
