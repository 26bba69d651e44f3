import JvmDerived
import JvmDerived.Pilot.@@N@@Statement
import JvmDerived.Pilot.@@N@@Code
set_option linter.unusedVariables false
set_option linter.unusedSimpArgs false
namespace Jvm.Pilot.@@N@@
open Jvm Jvm.ClassFile Sem Op Lib Jvm.Free Jvm.Stand Jvm.LawKit Jvm.RoadKit Bundle Jvm.Pilot.@@N@@.Jvm.D

section Own
variable {p : Program} {l : Launch} {e : Env} {R : Room} {s : State} {m : MethodId} {args : Array Value} {below : List Frame} {meth : Method} {c : Code} {T : State} {locs : List Loc} {cells slots : Nat} {Qo : Option Value → Heap → List Loc → Prop} {C N : Nat}
/-- the run goes on from U to a return that answers Qo -/
def own_Done (p : Program) (e : Env) (below : List Frame) (s : State) (Qo : Option Value → Heap → List Loc → Prop) (C N : Nat) (U : State) : Prop :=
  ∃ s₂ o, Steps p.tables e below U s₂ ∧ s₂.status = .running ∧ Ended s₂ below o ∧ (∃ v L, o = .returned v ∧ Qo v s₂.heap L ∧ FrameEnd s o s₂ L C N)
theorem own_go {U U' : State} (h : ∀ t, Steps p.tables e below U' t → Steps p.tables e below U t) (d : own_Done p e below s Qo C N U') : own_Done p e below s Qo C N U := by
  obtain ⟨s₂, o, h1, h2⟩ := d
  exact ⟨s₂, o, h _ h1, h2⟩
theorem own_join {U U' : State} (h : own_Done p e below s Qo C N U' → own_Done p e below s Qo C N U) (d : own_Done p e below s Qo C N U') : own_Done p e below s Qo C N U := h d
theorem own_cell {T : State} {h : Heap} {a : Addr} {c : Cell} (e : T.heap = h) (q : h[a]? = some c) : T.heap[a]? = some c := by rw [e]; exact q
theorem own_sta_keep {Z : State} {h h' : Heap} {C n d : String} {v : Value} (F : Sta Z h C n d v) (K : Keep h h' []) : Sta Z h' C n d v := by
  obtain ⟨cf, i, k, f, st, cell, h1, h2, h3, h4, h5, r⟩ := F
  exact ⟨cf, i, k, f, st, cell, h1, h2, h3, h4, K.2.1 st cell h5 (fun q => nomatch q), r⟩
theorem own_at {c : Cell} {z j : Int32} {vs : List Value} {d v : Value} {i : Nat} (S : c.slots.size = z.toNatClampNeg) (H : Has c vs d) (q : ¬ j < 0 ∧ j < z) (hj : j.toNatClampNeg = i) (hv : vs.getD i d = v) : c.slots[j.toNatClampNeg]? = some v := by
  have h := inb_of S q
  rw [H _ (Nat.lt_of_not_le fun k => h (Or.inr k)), hj, hv]
/-- an array of ints, bytes, chars .. by what its places hold -/
def own_Arf (Z : State) (h : Heap) (a : Addr) (k : ClassId) (ty : FieldType) (n : Int32) (f : Int32 → Int32) : Prop :=
  ∃ c : Cell, Arr Z h a c ty ∧ c.cls = k ∧ c.slots.size = n.toNatClampNeg ∧ ¬ n < 0 ∧ ∀ j : Int32, ¬ j < 0 → j < n → c.slots[j.toNatClampNeg]? = some (.int (f j))
section Arf
variable {Z : State} {h h' : Heap} {a b : Addr} {k : ClassId} {ty : FieldType} {n : Int32} {f : Int32 → Int32}
theorem own_Arf.lt (F : own_Arf Z h a k ty n f) : a < h.size := by obtain ⟨c, A, -⟩ := F; exact A.lt
theorem own_Arf.ext (F : own_Arf Z h a k ty n f) (E : Ext h h') : own_Arf Z h' a k ty n f := by obtain ⟨c, A, r⟩ := F; exact ⟨c, A.ext E, r⟩
theorem own_Arf.other {sl : Nat} {v : Value} (F : own_Arf Z h b k ty n f) (W : Wr h h' a sl v) (q : b ≠ a) : own_Arf Z h' b k ty n f := by obtain ⟨c, A, r⟩ := F; exact ⟨c, A.other W q, r⟩
theorem own_Arf.keep {ws : List Addr} (F : own_Arf Z h a k ty n f) (K : Keep h h' ws) (q : a ∉ ws) : own_Arf Z h' a k ty n f := by obtain ⟨c, A, r⟩ := F; exact ⟨c, ⟨K.2.1 a c A.1 q, A.2⟩, r⟩
theorem own_Arf.new (A : Arr Z h a (newA k ty n) ty) (q : ¬ n < 0) (hd : defaultValue ty = .int 0) : own_Arf Z h a k ty n (fun _ => (0 : Int32)) :=
  ⟨_, A, rfl, sz_new _ _ _, q, fun j h1 h2 => by
    have h3 := inb_of (sz_new k ty n) (z := n) (j := j) ⟨h1, h2⟩
    rw [sz_new] at h3
    rw [get_new h3, hd]⟩
theorem own_Arf.set {c : Cell} {j v : Int32} (A : Arr Z h a c ty) (q1 : c.cls = k) (S : c.slots.size = n.toNatClampNeg) (q3 : ¬ n < 0) (H : ∀ j : Int32, ¬ j < 0 → j < n → c.slots[j.toNatClampNeg]? = some (.int (f j))) (hj : ¬ j < 0 ∧ j < n) (W : Wr h h' a j.toNatClampNeg (.int v)) :
    own_Arf Z h' a k ty n (fun i => if i = j then v else f i) :=
  ⟨c.setSlot j.toNatClampNeg (.int v), A.same W, q1, by rw [sz_set]; exact S, q3, fun i h1 h2 => by
    by_cases e : i = j
    · rw [get_hit (inb_of S hj) e]; simp only [if_pos e]
    · rw [get_miss hj.1 h1 e, H i h1 h2]; simp only [if_neg e]⟩
end Arf
theorem own_ret (X : Stand p l e R s m args below meth c T locs cells slots) {v : Option Value} {g : JFrame} (hlk : meth.locks = false) (hv : meth.sig.returnType = none → v = none) (hC : cells ≤ C) (hN : slots ≤ N)
    (st : ∀ fs, (∀ (f : JFrame) (acts : List Action), f.method = m → f.locked = none → f.entered = [] → (doReturn e (T.setTop f) acts v).1 = T.setFrames fs) → Steps p.tables e below (T.setTop g) (T.setFrames fs)) (hQ : Qo v T.heap locs) : own_Done p e below s Qo C N (T.setTop g) := by
  obtain ⟨fs, hr, hrun, hended, hW, hsame⟩ := X.leave (v := v) hv hlk
  exact ⟨_, _, st fs hr, hrun, hended, _, _, rfl, hQ, ⟨_, rfl⟩, hW, hsame.mono hC hN⟩
theorem own_retI (X : Stand p l e R s m args below meth c T locs cells slots) (hx : p.tables.exec = Jvm.exec) {pc : Nat} {Ls : Array Slot} {z : Int32} {rest : List Value} (hret : meth.sig.returnType = some .int) (hd : decode c.code pc = .ok (.ireturn, 1)) {fs : List Frame}
    (hl : ∀ (f : JFrame) (acts : List Action), f.method = m → f.locked = none → f.entered = [] → (doReturn e (T.setTop f) acts (some (.int z))).1 = T.setFrames fs) : Steps p.tables e below (T.setTop (mkF m pc Ls (.int z :: rest))) (T.setFrames fs) := by
  exact retOut X hx hret rfl (Or.inl ⟨rfl, Or.inl rfl, z, rfl⟩) hd hl
theorem own_retJ (X : Stand p l e R s m args below meth c T locs cells slots) (hx : p.tables.exec = Jvm.exec) {pc : Nat} {Ls : Array Slot} {z : Int64} {rest : List Value} (hret : meth.sig.returnType = some .long) (hd : decode c.code pc = .ok (.lreturn, 1)) {fs : List Frame}
    (hl : ∀ (f : JFrame) (acts : List Action), f.method = m → f.locked = none → f.entered = [] → (doReturn e (T.setTop f) acts (some (.long z))).1 = T.setFrames fs) : Steps p.tables e below (T.setTop (mkF m pc Ls (.long z :: rest))) (T.setFrames fs) := by
  exact retOut X hx hret rfl (Or.inr (Or.inl ⟨rfl, rfl, z, rfl⟩)) hd hl
theorem own_retR (X : Stand p l e R s m args below meth c T locs cells slots) (hx : p.tables.exec = Jvm.exec) {pc : Nat} {Ls : Array Slot} {w : Value} {t : FieldType} {rest : List Value} (hret : meth.sig.returnType = some t) (ht : t.isReference = true) (hw : w.isRef = true) (hn : narrow t w = w) (hd : decode c.code pc = .ok (.areturn, 1)) {fs : List Frame}
    (hl : ∀ (f : JFrame) (acts : List Action), f.method = m → f.locked = none → f.entered = [] → (doReturn e (T.setTop f) acts (some w)).1 = T.setFrames fs) : Steps p.tables e below (T.setTop (mkF m pc Ls (w :: rest))) (T.setFrames fs) := by
  exact retOut X hx hret hn (Or.inr (Or.inr (Or.inr (Or.inr ⟨rfl, ht, hw⟩)))) hd hl
/-- the same where Strings may be interned meanwhile -/
def own_DoneW (p : Program) (e : Env) (below : List Frame) (s : State) (Z : State) (EL : List (String × Nat)) (Qo : Option Value → Heap → List Loc → Prop) (C N : Nat) (U : State) : Prop :=
  ∃ s₂ o, Steps p.tables e below U s₂ ∧ s₂.status = .running ∧ Ended s₂ below o ∧ (∃ v L, o = .returned v ∧ Qo v s₂.heap L ∧ CHr Z EL s.vm s.heap s₂.vm s₂.heap ∧ ReturnedEndW s o s₂ L C N)
theorem own_goW {Z : State} {EL : List (String × Nat)} {U U' : State} (h : ∀ t, Steps p.tables e below U' t → Steps p.tables e below U t) (d : own_DoneW p e below s Z EL Qo C N U') : own_DoneW p e below s Z EL Qo C N U := by
  obtain ⟨s₂, o, h1, h2⟩ := d
  exact ⟨s₂, o, h _ h1, h2⟩
theorem own_joinW {Z : State} {EL : List (String × Nat)} {U U' : State} (h : own_DoneW p e below s Z EL Qo C N U' → own_DoneW p e below s Z EL Qo C N U) (d : own_DoneW p e below s Z EL Qo C N U') : own_DoneW p e below s Z EL Qo C N U := h d
theorem own_retW {Z : State} {EL : List (String × Nat)} {vm₁ : Vm} (X : Stand p l e R (s.setVm vm₁) m args below meth c T locs cells slots) {n : Nat} (hS : s.Since vm₁ n) (hn : n ≤ T.heap.size) (hC : CHr Z EL s.vm s.heap T.vm T.heap) {v : Option Value} {g : JFrame} (hlk : meth.locks = false) (hv : meth.sig.returnType = none → v = none) (hCc : cells ≤ C) (hN : slots ≤ N)
    (st : ∀ fs, (∀ (f : JFrame) (acts : List Action), f.method = m → f.locked = none → f.entered = [] → (doReturn e (T.setTop f) acts v).1 = T.setFrames fs) → Steps p.tables e below (T.setTop g) (T.setFrames fs)) (hQ : Qo v T.heap locs) : own_DoneW p e below s Z EL Qo C N (T.setTop g) := by
  obtain ⟨fs, hr, hrun, hended, hE⟩ := X.leaveW hS hn (v := v) hv hlk
  exact ⟨_, _, st fs hr, hrun, hended, _, _, rfl, hQ, hC, hE.1, hE.2.1, hE.2.2.1, hE.2.2.2.mono hCc hN⟩
end Own

theorem d2_0 : decode jdk_29_method_65_code 0 = .ok (.iload_n 0, 1) := by decide +kernel
theorem d2_1 : decode jdk_29_method_65_code 1 = .ok (.iload_n 1, 1) := by decide +kernel
theorem d2_2 : decode jdk_29_method_65_code 2 = .ok (.if_icmp .lt 7, 3) := by decide +kernel
theorem d2_9 : decode jdk_29_method_65_code 9 = .ok (.iload_n 1, 1) := by decide +kernel
theorem d2_10 : decode jdk_29_method_65_code 10 = .ok (.ireturn, 1) := by decide +kernel
theorem d2_5 : decode jdk_29_method_65_code 5 = .ok (.iload_n 0, 1) := by decide +kernel
theorem d2_6 : decode jdk_29_method_65_code 6 = .ok (.goto 4, 3) := by decide +kernel
theorem own_ef2 (m : MethodId) (x0 : Int32) (x1 : Int32) : entryFrame m #[(.int x0), (.int x1)] 2 = mkF m 0 #[.val (.int x0), .val (.int x1)] [] := by first | (simp [entryFrame, mkF, argsToLocals, Value.category]; done) | rfl
def f_2 (p0 : Int32) (p1 : Int32) : Int32 := (if p0 < p1 then p1 else p0)
def Q2 (Z : State) (p0 : Int32) (p1 : Int32) (h0 : Heap) (n0 : Nat) (v : Option Value) (h : Heap) (L : List Loc) : Prop := v = some (.int (f_2 p0 p1)) ∧ Fr n0 L ∧ h = h0
set_option maxRecDepth 65536 in
set_option maxHeartbeats 40000000 in
theorem rm2 (l : Launch) (Z : State) (aw : Array Value) (hw : ∀ d ∈ tables_1, d.before aw Z = true) (ws : List Jvm.Cond) (p0 : Int32) (p1 : Int32) (h0 : Heap) (n0 : Nat) (Z0 : n0 ≤ h0.size) :
    MetFree l (⟨"java/lang/Math", "max", "(II)I"⟩ : MethodName) (head1 (Jvm.Cond.code (⟨"java/lang/Math", "max", "(II)I"⟩ : MethodName) jdk_29_method_65_code 2 (some .int) :: ws) ({ frames := 0, cells := 0, slots := 0, locals := 0 } : Room)) (fun a U => a = #[(.int p0), (.int p1)] ∧ Z.Warmed39 U.vm ∧ U.heap = h0) (fun _ _ _ _ _ => True) (fun _ U o U' => ∃ v L, o = .returned v ∧ (Q2 Z p0 p1 h0 n0) v U'.heap L ∧ FrameEnd U o U' L ({ frames := 0, cells := 0, slots := 0, locals := 0 } : Room).cells ({ frames := 0, cells := 0, slots := 0, locals := 0 } : Room).slots) := by
  refine MetFree.of_bodySF (Jvm.Free.JP.mathPlain rfl (by decide +kernel)) hisR ?_
  intro p e s m args below meth c s₁ Bd hml0 hP hK
  obtain ⟨rfl, hZ, hh⟩ := hP
  have hx := Bd.exec
  have hby := Bd.bytes
  have hml : c.maxLocals = 2 := hml0
  have hown : s.vm.findClass "java/lang/Math" = some m.cls := findClass_of_methodNamed Bd.named
  have hnm := (name_of_methodNamed Bd.named Bd.method).1
  have hlk : meth.locks = false := BodyLoose.notSynchronized (by assumption)
  have X0 : Stand p l e ({ frames := 0, cells := 0, slots := 0, locals := 0 } : Room) s m #[(.int p0), (.int p1)] below meth c s₁ [] 0 0 := Stand.of_body Bd
  have e0 : s₁.heap = h0 := by rw [← hh, Bd.state]; rfl
  have N0 := Fr.nil n0
  show own_Done p e below s (Q2 Z p0 p1 h0 n0) ({ frames := 0, cells := 0, slots := 0, locals := 0 } : Room).cells ({ frames := 0, cells := 0, slots := 0, locals := 0 } : Room).slots (s₁.setTop (entryFrame m #[(.int p0), (.int p1)] 2))
  refine own_go (U' := s₁.setTop (mkF m 0 #[.val (.int p0), .val (.int p1)] [])) (fun _ k => castTop (own_ef2 m p0 p1) k) ?_
  refine own_go (U' := s₁.setTop (mkF m 1 #[.val (.int p0), .val (.int p1)] [(.int p0)])) (fun _ k => XS.iloadN X0.here hx rfl (hb hby d2_0) rfl k) ?_
  refine own_go (U' := s₁.setTop (mkF m 2 #[.val (.int p0), .val (.int p1)] [(.int p1), (.int p0)])) (fun _ k => XS.iloadN X0.here hx rfl (hb hby d2_1) rfl k) ?_
  by_cases hc2_1 : p0 < p1
  · refine own_go (U' := s₁.setTop (mkF m 9 #[.val (.int p0), .val (.int p1)] [])) (fun _ k => XS.icmpYes X0.here hx rfl (pc0 := 2) (pc' := 9) rfl (hb hby d2_2) rfl (tlt hc2_1).1 (by decide) (by decide) k) ?_
    refine own_go (U' := s₁.setTop (mkF m 10 #[.val (.int p0), .val (.int p1)] [(.int p1)])) (fun _ k => XS.iloadN X0.here hx rfl (hb hby d2_9) rfl k) ?_
    refine own_ret X0 (v := (some (.int p1))) hlk (fun h => by rw [Bd.returns] at h; cases h) (by decide) (by decide) (fun fs hr => own_retI X0 hx Bd.returns (hb hby d2_10) hr) ?_
    show (Q2 Z p0 p1 h0 n0) _ s₁.heap _
    rw [e0]
    exact ⟨by first | (simp only [f_2, if_pos hc2_1]; done) | rfl | (simp [f_2, if_pos hc2_1]; done), N0, rfl⟩
  · refine own_go (U' := s₁.setTop (mkF m 5 #[.val (.int p0), .val (.int p1)] [])) (fun _ k => XS.icmpNo X0.here hx rfl (hb hby d2_2) rfl (flt hc2_1).1 k) ?_
    refine own_go (U' := s₁.setTop (mkF m 6 #[.val (.int p0), .val (.int p1)] [(.int p0)])) (fun _ k => XS.iloadN X0.here hx rfl (hb hby d2_5) rfl k) ?_
    refine own_go (U' := s₁.setTop (mkF m 10 #[.val (.int p0), .val (.int p1)] [(.int p0)])) (fun _ k => XS.goto X0.here hx rfl (pc0 := 6) (pc' := 10) rfl (hb hby d2_6) (by decide) (by decide) k) ?_
    refine own_ret X0 (v := (some (.int p0))) hlk (fun h => by rw [Bd.returns] at h; cases h) (by decide) (by decide) (fun fs hr => own_retI X0 hx Bd.returns (hb hby d2_10) hr) ?_
    show (Q2 Z p0 p1 h0 n0) _ s₁.heap _
    rw [e0]
    exact ⟨by first | (simp only [f_2, if_neg hc2_1]; done) | rfl | (simp [f_2, if_neg hc2_1]; done), N0, rfl⟩

def own_set (f : Int32 → Int32) (j v : Int32) : Int32 → Int32 := fun i => if i = j then v else f i
def own_g0 (f : Int32 → Int32) : Int32 → Int32 := own_set f 1 (f_2 (f 0) (f 1))
def own_g1 (f : Int32 → Int32) : Int32 → Int32 := own_set (own_g0 f) 3 (f_2 (own_g0 f 2) (own_g0 f 3))
def own_fix (f : Int32 → Int32) : Int32 → Int32 :=
  if own_g1 f 0 = own_g1 f 1 then (if own_g1 f 2 = own_g1 f 3 then (if own_g1 f 1 < 2147483647 then own_set (own_g1 f) 1 (own_g1 f 1 + 1) else own_set (own_g1 f) 0 (own_g1 f 0 - 1)) else own_g1 f) else own_g1 f

theorem d1_0 : decode method_2_code 0 = .ok (.aload_n 0, 1) := by decide +kernel
theorem d1_1 : decode method_2_code 1 = .ok (.iconst 1, 1) := by decide +kernel
theorem d1_2 : decode method_2_code 2 = .ok (.aload_n 0, 1) := by decide +kernel
theorem d1_3 : decode method_2_code 3 = .ok (.iconst 0, 1) := by decide +kernel
theorem d1_4 : decode method_2_code 4 = .ok (.iaload, 1) := by decide +kernel
theorem d1_5 : decode method_2_code 5 = .ok (.aload_n 0, 1) := by decide +kernel
theorem d1_6 : decode method_2_code 6 = .ok (.iconst 1, 1) := by decide +kernel
theorem d1_7 : decode method_2_code 7 = .ok (.iaload, 1) := by decide +kernel
theorem d1_8 : decode method_2_code 8 = .ok (.invokestatic 7, 3) := by decide +kernel
theorem own_pd0 : parseMethodDescriptor "(II)I" = some ⟨[.int, .int], some .int⟩ := by decide +kernel
theorem d1_11 : decode method_2_code 11 = .ok (.iastore, 1) := by decide +kernel
theorem d1_12 : decode method_2_code 12 = .ok (.aload_n 0, 1) := by decide +kernel
theorem d1_13 : decode method_2_code 13 = .ok (.iconst 3, 1) := by decide +kernel
theorem d1_14 : decode method_2_code 14 = .ok (.aload_n 0, 1) := by decide +kernel
theorem d1_15 : decode method_2_code 15 = .ok (.iconst 2, 1) := by decide +kernel
theorem d1_16 : decode method_2_code 16 = .ok (.iaload, 1) := by decide +kernel
theorem d1_17 : decode method_2_code 17 = .ok (.aload_n 0, 1) := by decide +kernel
theorem d1_18 : decode method_2_code 18 = .ok (.iconst 3, 1) := by decide +kernel
theorem d1_19 : decode method_2_code 19 = .ok (.iaload, 1) := by decide +kernel
theorem d1_20 : decode method_2_code 20 = .ok (.invokestatic 7, 3) := by decide +kernel
theorem d1_23 : decode method_2_code 23 = .ok (.iastore, 1) := by decide +kernel
theorem d1_24 : decode method_2_code 24 = .ok (.aload_n 0, 1) := by decide +kernel
theorem d1_25 : decode method_2_code 25 = .ok (.iconst 0, 1) := by decide +kernel
theorem d1_26 : decode method_2_code 26 = .ok (.iaload, 1) := by decide +kernel
theorem d1_27 : decode method_2_code 27 = .ok (.aload_n 0, 1) := by decide +kernel
theorem d1_28 : decode method_2_code 28 = .ok (.iconst 1, 1) := by decide +kernel
theorem d1_29 : decode method_2_code 29 = .ok (.iaload, 1) := by decide +kernel
theorem d1_30 : decode method_2_code 30 = .ok (.if_icmp .ne 39, 3) := by decide +kernel
theorem d1_33 : decode method_2_code 33 = .ok (.aload_n 0, 1) := by decide +kernel
theorem d1_34 : decode method_2_code 34 = .ok (.iconst 2, 1) := by decide +kernel
theorem d1_35 : decode method_2_code 35 = .ok (.iaload, 1) := by decide +kernel
theorem d1_36 : decode method_2_code 36 = .ok (.aload_n 0, 1) := by decide +kernel
theorem d1_37 : decode method_2_code 37 = .ok (.iconst 3, 1) := by decide +kernel
theorem d1_38 : decode method_2_code 38 = .ok (.iaload, 1) := by decide +kernel
theorem d1_39 : decode method_2_code 39 = .ok (.if_icmp .ne 30, 3) := by decide +kernel
theorem d1_42 : decode method_2_code 42 = .ok (.aload_n 0, 1) := by decide +kernel
theorem d1_43 : decode method_2_code 43 = .ok (.iconst 1, 1) := by decide +kernel
theorem d1_44 : decode method_2_code 44 = .ok (.iaload, 1) := by decide +kernel
theorem d1_45 : decode method_2_code 45 = .ok (.ldc 15, 2) := by decide +kernel
theorem d1_47 : decode method_2_code 47 = .ok (.if_icmp .ge 14, 3) := by decide +kernel
theorem d1_50 : decode method_2_code 50 = .ok (.aload_n 0, 1) := by decide +kernel
theorem d1_51 : decode method_2_code 51 = .ok (.iconst 1, 1) := by decide +kernel
theorem d1_52 : decode method_2_code 52 = .ok (.aload_n 0, 1) := by decide +kernel
theorem d1_53 : decode method_2_code 53 = .ok (.iconst 1, 1) := by decide +kernel
theorem d1_54 : decode method_2_code 54 = .ok (.iaload, 1) := by decide +kernel
theorem d1_55 : decode method_2_code 55 = .ok (.iconst 1, 1) := by decide +kernel
theorem d1_56 : decode method_2_code 56 = .ok (.iadd, 1) := by decide +kernel
theorem d1_57 : decode method_2_code 57 = .ok (.iastore, 1) := by decide +kernel
theorem d1_58 : decode method_2_code 58 = .ok (.goto 11, 3) := by decide +kernel
theorem d1_69 : decode method_2_code 69 = .ok (.return_, 1) := by decide +kernel
theorem d1_61 : decode method_2_code 61 = .ok (.aload_n 0, 1) := by decide +kernel
theorem d1_62 : decode method_2_code 62 = .ok (.iconst 0, 1) := by decide +kernel
theorem d1_63 : decode method_2_code 63 = .ok (.aload_n 0, 1) := by decide +kernel
theorem d1_64 : decode method_2_code 64 = .ok (.iconst 0, 1) := by decide +kernel
theorem d1_65 : decode method_2_code 65 = .ok (.iaload, 1) := by decide +kernel
theorem d1_66 : decode method_2_code 66 = .ok (.iconst 1, 1) := by decide +kernel
theorem d1_67 : decode method_2_code 67 = .ok (.isub, 1) := by decide +kernel
theorem d1_68 : decode method_2_code 68 = .ok (.iastore, 1) := by decide +kernel
theorem own_pn0 : plainName "com/example/layout_to_evidence/layouttoevidence/CellSpanEqualsPinLaw" = true := by first | (simp [plainName, overriddenIn]; done) | decide +kernel
theorem own_ef1 (m : MethodId) (x0 : Addr) : entryFrame m #[(.ref x0)] 1 = mkF m 0 #[.val (.ref x0)] [] := by first | (simp [entryFrame, mkF, argsToLocals, Value.category]; done) | rfl
def Q1 (Z : State) (a0 : Addr) (k1 : ClassId) (f : Int32 → Int32) (h0 : Heap) (n0 : Nat) (v : Option Value) (h : Heap) (L : List Loc) : Prop := v = none ∧ Fr n0 L ∧ Keep h0 h [a0] ∧ own_Arf Z h a0 k1 .int (4 : Int32) (own_fix f)
set_option maxRecDepth 65536 in
set_option maxHeartbeats 40000000 in
theorem rm1 (l : Launch) (Z : State) (aw : Array Value) (hw : ∀ d ∈ tables_1, d.before aw Z = true) (ws : List Jvm.Cond) (a0 : Addr) (k1 : ClassId) (f : Int32 → Int32) (h0 : Heap) (n0 : Nat) (Z0 : n0 ≤ h0.size) (V_a : own_Arf Z h0 a0 k1 .int (4 : Int32) f) (g_a0 : n0 ≤ a0) :
    MetFree l (⟨"com/example/layout_to_evidence/layouttoevidence/CellSpanEqualsPinLaw", "fix", "([I)V"⟩ : MethodName) (head1 (Jvm.Cond.code (⟨"com/example/layout_to_evidence/layouttoevidence/CellSpanEqualsPinLaw", "fix", "([I)V"⟩ : MethodName) method_2_code 1 none :: ws) ({ frames := 1, cells := 0, slots := 0, locals := 15 } : Room)) (fun a U => a = #[(.ref a0)] ∧ Z.Warmed39 U.vm ∧ U.heap = h0) (fun _ _ _ _ _ => True) (fun _ U o U' => ∃ v L, o = .returned v ∧ (Q1 Z a0 k1 f h0 n0) v U'.heap L ∧ FrameEnd U o U' L ({ frames := 1, cells := 0, slots := 0, locals := 15 } : Room).cells ({ frames := 1, cells := 0, slots := 0, locals := 15 } : Room).slots) := by
  refine MetFree.of_bodySF (plainFor_of_name own_pn0) hisR ?_
  intro p e s m args below meth c s₁ Bd hml0 hP hK
  obtain ⟨rfl, hZ, hh⟩ := hP
  have hx := Bd.exec
  have hby := Bd.bytes
  have hml : c.maxLocals = 1 := hml0
  have hown : s.vm.findClass "com/example/layout_to_evidence/layouttoevidence/CellSpanEqualsPinLaw" = some m.cls := findClass_of_methodNamed Bd.named
  have hnm := (name_of_methodNamed Bd.named Bd.method).1
  have hlk : meth.locks = false := BodyLoose.notSynchronized (by assumption)
  have X0 : Stand p l e ({ frames := 1, cells := 0, slots := 0, locals := 15 } : Room) s m #[(.ref a0)] below meth c s₁ [] 0 0 := Stand.of_body Bd
  have e0 : s₁.heap = h0 := by rw [← hh, Bd.state]; rfl
  have N0 := Fr.nil n0
  show own_Done p e below s (Q1 Z a0 k1 f h0 n0) ({ frames := 1, cells := 0, slots := 0, locals := 15 } : Room).cells ({ frames := 1, cells := 0, slots := 0, locals := 15 } : Room).slots (s₁.setTop (entryFrame m #[(.ref a0)] 1))
  refine own_go (U' := s₁.setTop (mkF m 0 #[.val (.ref a0)] [])) (fun _ k => castTop (own_ef1 m a0) k) ?_
  refine own_go (U' := s₁.setTop (mkF m 1 #[.val (.ref a0)] [(.ref a0)])) (fun _ k => XS.aloadN X0.here hx rfl (hb hby d1_0) rfl rfl k) ?_
  refine own_go (U' := s₁.setTop (mkF m 2 #[.val (.ref a0)] [(.int (1 : Int32)), (.ref a0)])) (fun _ k => XS.iconst X0.here hx rfl (hb hby d1_1) k) ?_
  refine own_go (U' := s₁.setTop (mkF m 3 #[.val (.ref a0)] [(.ref a0), (.int (1 : Int32)), (.ref a0)])) (fun _ k => XS.aloadN X0.here hx rfl (hb hby d1_2) rfl rfl k) ?_
  refine own_go (U' := s₁.setTop (mkF m 4 #[.val (.ref a0)] [(.int (0 : Int32)), (.ref a0), (.int (1 : Int32)), (.ref a0)])) (fun _ k => XS.iconst X0.here hx rfl (hb hby d1_3) k) ?_
  have V2 := V_a
  obtain ⟨cl2, Ar2, q2, S2, Ng2, Hh2⟩ := V2
  have hj2 : ¬ (0 : Int32) < 0 ∧ (0 : Int32) < (4 : Int32) := ⟨by decide, by decide⟩
  have hat2 := Hh2 _ hj2.1 hj2.2
  refine own_go (U' := s₁.setTop (mkF m 5 #[.val (.ref a0)] [(.int (f (0 : Int32))), (.int (1 : Int32)), (.ref a0)])) (fun _ k => X0.iaload hx (j := (0 : Int32)) (v := (.int (f (0 : Int32)))) (own_cell e0 Ar2.1) (State.isArrayOf_alike hZ.alike Ar2.2.1) Ar2.2.2 (inb_of S2 hj2) hat2 (g := (mkF m 4 #[.val (.ref a0)] [(.int (0 : Int32)), (.ref a0), (.int (1 : Int32)), (.ref a0)])) rfl rfl (hb hby d1_4) _ k) ?_
  refine own_go (U' := s₁.setTop (mkF m 6 #[.val (.ref a0)] [(.ref a0), (.int (f (0 : Int32))), (.int (1 : Int32)), (.ref a0)])) (fun _ k => XS.aloadN X0.here hx rfl (hb hby d1_5) rfl rfl k) ?_
  refine own_go (U' := s₁.setTop (mkF m 7 #[.val (.ref a0)] [(.int (1 : Int32)), (.ref a0), (.int (f (0 : Int32))), (.int (1 : Int32)), (.ref a0)])) (fun _ k => XS.iconst X0.here hx rfl (hb hby d1_6) k) ?_
  have V3 := V_a
  obtain ⟨cl3, Ar3, q3, S3, Ng3, Hh3⟩ := V3
  have hj3 : ¬ (1 : Int32) < 0 ∧ (1 : Int32) < (4 : Int32) := ⟨by decide, by decide⟩
  have hat3 := Hh3 _ hj3.1 hj3.2
  refine own_go (U' := s₁.setTop (mkF m 8 #[.val (.ref a0)] [(.int (f (1 : Int32))), (.int (f (0 : Int32))), (.int (1 : Int32)), (.ref a0)])) (fun _ k => X0.iaload hx (j := (1 : Int32)) (v := (.int (f (1 : Int32)))) (own_cell e0 Ar3.1) (State.isArrayOf_alike hZ.alike Ar3.2.1) Ar3.2.2 (inb_of S3 hj3) hat3 (g := (mkF m 7 #[.val (.ref a0)] [(.int (1 : Int32)), (.ref a0), (.int (f (0 : Int32))), (.int (1 : Int32)), (.ref a0)])) rfl rfl (hb hby d1_7) _ k) ?_
  obtain ⟨_, _, ⟨T4, L4, k4, n4⟩, -, X4, ⟨Lc4, hQ4, l4, y4, z4⟩, st4⟩ := Jvm.LawKit.callS X0 hx (y := (⟨"java/lang/Math", "max", "(II)I"⟩ : MethodName)) hown (mvT hZ (hw _ (List.mem_of_getElem? (i := 6) rfl))) (mvT hZ (hw _ (List.mem_of_getElem? (i := 7) rfl))) (mvT hZ (hw _ (List.mem_of_getElem? (i := 8) rfl))) (mvT hZ (hw _ (List.mem_of_getElem? (i := 9) rfl))) (by decide) (backOf (W := 2) (rm2 l Z aw hw [] (f (0 : Int32)) (f (1 : Int32)) h0 n0 Z0 ) hZ (hw _ (List.mem_of_getElem? (i := 9) rfl)) (hw _ (List.mem_of_getElem? (i := 8) rfl)) (by decide) (by decide)) (g := (mkF m 8 #[.val (.ref a0)] [(.int (f (1 : Int32))), (.int (f (0 : Int32))), (.int (1 : Int32)), (.ref a0)])) rfl (by rw [hml]; rfl) (argsL := [(.int (f (0 : Int32))), (.int (f (1 : Int32)))]) (rest := [(.int (1 : Int32)), (.ref a0)]) (lenOf own_pd0 rfl) rfl (by show 2 * 0 + _ ≤ _; exact Nat.le_of_eq rfl) (hb hby d1_8) (fun _ _ => ⟨rfl, e0, (by decide : 0 + 0 ≤ _), (by decide : 0 + 0 ≤ _)⟩)
  dsimp only [Pt.U, Pt.locs, Pt.cells, Pt.slots] at X4 l4 y4 z4 st4 hQ4
  subst l4 y4 z4
  obtain ⟨rfl, N4q, e4⟩ := hQ4
  have N4 := Fr.app N0 N4q
  refine own_go (U' := T4.setTop (mkF m 11 #[.val (.ref a0)] [(.int (f_2 (f (0 : Int32)) (f (1 : Int32)))), (.int (1 : Int32)), (.ref a0)])) (fun _ k => st4 _ k) ?_
  have V5 := V_a
  obtain ⟨cl5, Ar5, q5, S5, Ng5, Hh5⟩ := V5
  have hj5 : ¬ (1 : Int32) < 0 ∧ (1 : Int32) < (4 : Int32) := ⟨by decide, by decide⟩
  obtain ⟨T6, h6, X6, e6, W6, st6⟩ := stI X4 hx hZ e4 Ar5 (j := (1 : Int32)) (inb_of S5 hj5) (g := (mkF m 11 #[.val (.ref a0)] [(.int (f_2 (f (0 : Int32)) (f (1 : Int32)))), (.int (1 : Int32)), (.ref a0)])) rfl rfl (hb hby d1_11)
  obtain ⟨f11, hf11⟩ : ∃ F_ : Int32 → Int32, F_ = (fun i : Int32 => if i = (1 : Int32) then (f_2 (f (0 : Int32)) (f (1 : Int32))) else f i) := ⟨_, rfl⟩
  have w6 : own_Arf Z h6 a0 k1 .int (4 : Int32) f11 := by rw [hf11]; exact own_Arf.set Ar5 q5 S5 Ng5 Hh5 hj5 W6
  have Z6 : n0 ≤ h6.size := Nat.le_trans Z0 (Keep.of_wr W6).1
  have K6 := Keep.wr (Keep.refl h0 [a0]) W6 (Or.inl (by simp))
  have N6 := Fr.snoc X6 N4 g_a0
  refine own_go (U' := T6.setTop (mkF m 12 #[.val (.ref a0)] [])) (fun _ k => st6 _ k) ?_
  refine own_go (U' := T6.setTop (mkF m 13 #[.val (.ref a0)] [(.ref a0)])) (fun _ k => XS.aloadN X6.here hx rfl (hb hby d1_12) rfl rfl k) ?_
  refine own_go (U' := T6.setTop (mkF m 14 #[.val (.ref a0)] [(.int (3 : Int32)), (.ref a0)])) (fun _ k => XS.iconst X6.here hx rfl (hb hby d1_13) k) ?_
  refine own_go (U' := T6.setTop (mkF m 15 #[.val (.ref a0)] [(.ref a0), (.int (3 : Int32)), (.ref a0)])) (fun _ k => XS.aloadN X6.here hx rfl (hb hby d1_14) rfl rfl k) ?_
  refine own_go (U' := T6.setTop (mkF m 16 #[.val (.ref a0)] [(.int (2 : Int32)), (.ref a0), (.int (3 : Int32)), (.ref a0)])) (fun _ k => XS.iconst X6.here hx rfl (hb hby d1_15) k) ?_
  have V7 := w6
  obtain ⟨cl7, Ar7, q7, S7, Ng7, Hh7⟩ := V7
  have hj7 : ¬ (2 : Int32) < 0 ∧ (2 : Int32) < (4 : Int32) := ⟨by decide, by decide⟩
  have hat7 := Hh7 _ hj7.1 hj7.2
  refine own_go (U' := T6.setTop (mkF m 17 #[.val (.ref a0)] [(.int (f11 (2 : Int32))), (.int (3 : Int32)), (.ref a0)])) (fun _ k => X6.iaload hx (j := (2 : Int32)) (v := (.int (f11 (2 : Int32)))) (own_cell e6 Ar7.1) (State.isArrayOf_alike hZ.alike Ar7.2.1) Ar7.2.2 (inb_of S7 hj7) hat7 (g := (mkF m 16 #[.val (.ref a0)] [(.int (2 : Int32)), (.ref a0), (.int (3 : Int32)), (.ref a0)])) rfl rfl (hb hby d1_16) _ k) ?_
  refine own_go (U' := T6.setTop (mkF m 18 #[.val (.ref a0)] [(.ref a0), (.int (f11 (2 : Int32))), (.int (3 : Int32)), (.ref a0)])) (fun _ k => XS.aloadN X6.here hx rfl (hb hby d1_17) rfl rfl k) ?_
  refine own_go (U' := T6.setTop (mkF m 19 #[.val (.ref a0)] [(.int (3 : Int32)), (.ref a0), (.int (f11 (2 : Int32))), (.int (3 : Int32)), (.ref a0)])) (fun _ k => XS.iconst X6.here hx rfl (hb hby d1_18) k) ?_
  have V8 := w6
  obtain ⟨cl8, Ar8, q8, S8, Ng8, Hh8⟩ := V8
  have hj8 : ¬ (3 : Int32) < 0 ∧ (3 : Int32) < (4 : Int32) := ⟨by decide, by decide⟩
  have hat8 := Hh8 _ hj8.1 hj8.2
  refine own_go (U' := T6.setTop (mkF m 20 #[.val (.ref a0)] [(.int (f11 (3 : Int32))), (.int (f11 (2 : Int32))), (.int (3 : Int32)), (.ref a0)])) (fun _ k => X6.iaload hx (j := (3 : Int32)) (v := (.int (f11 (3 : Int32)))) (own_cell e6 Ar8.1) (State.isArrayOf_alike hZ.alike Ar8.2.1) Ar8.2.2 (inb_of S8 hj8) hat8 (g := (mkF m 19 #[.val (.ref a0)] [(.int (3 : Int32)), (.ref a0), (.int (f11 (2 : Int32))), (.int (3 : Int32)), (.ref a0)])) rfl rfl (hb hby d1_19) _ k) ?_
  obtain ⟨_, _, ⟨T9, L9, k9, n9⟩, -, X9, ⟨Lc9, hQ9, l9, y9, z9⟩, st9⟩ := Jvm.LawKit.callS X6 hx (y := (⟨"java/lang/Math", "max", "(II)I"⟩ : MethodName)) hown (mvT hZ (hw _ (List.mem_of_getElem? (i := 6) rfl))) (mvT hZ (hw _ (List.mem_of_getElem? (i := 7) rfl))) (mvT hZ (hw _ (List.mem_of_getElem? (i := 8) rfl))) (mvT hZ (hw _ (List.mem_of_getElem? (i := 9) rfl))) (by decide) (backOf (W := 2) (rm2 l Z aw hw [] (f11 (2 : Int32)) (f11 (3 : Int32)) h6 n0 Z6 ) hZ (hw _ (List.mem_of_getElem? (i := 9) rfl)) (hw _ (List.mem_of_getElem? (i := 8) rfl)) (by decide) (by decide)) (g := (mkF m 20 #[.val (.ref a0)] [(.int (f11 (3 : Int32))), (.int (f11 (2 : Int32))), (.int (3 : Int32)), (.ref a0)])) rfl (by rw [hml]; rfl) (argsL := [(.int (f11 (2 : Int32))), (.int (f11 (3 : Int32)))]) (rest := [(.int (3 : Int32)), (.ref a0)]) (lenOf own_pd0 rfl) rfl (by show 2 * 0 + _ ≤ _; exact Nat.le_of_eq rfl) (hb hby d1_20) (fun _ _ => ⟨rfl, e6, (by decide : 0 + 0 ≤ _), (by decide : 0 + 0 ≤ _)⟩)
  dsimp only [Pt.U, Pt.locs, Pt.cells, Pt.slots] at X9 l9 y9 z9 st9 hQ9
  subst l9 y9 z9
  obtain ⟨rfl, N9q, e9⟩ := hQ9
  have N9 := Fr.app N6 N9q
  refine own_go (U' := T9.setTop (mkF m 23 #[.val (.ref a0)] [(.int (f_2 (f11 (2 : Int32)) (f11 (3 : Int32)))), (.int (3 : Int32)), (.ref a0)])) (fun _ k => st9 _ k) ?_
  have V10 := w6
  obtain ⟨cl10, Ar10, q10, S10, Ng10, Hh10⟩ := V10
  have hj10 : ¬ (3 : Int32) < 0 ∧ (3 : Int32) < (4 : Int32) := ⟨by decide, by decide⟩
  obtain ⟨T11, h11, X11, e11, W11, st11⟩ := stI X9 hx hZ e9 Ar10 (j := (3 : Int32)) (inb_of S10 hj10) (g := (mkF m 23 #[.val (.ref a0)] [(.int (f_2 (f11 (2 : Int32)) (f11 (3 : Int32)))), (.int (3 : Int32)), (.ref a0)])) rfl rfl (hb hby d1_23)
  obtain ⟨f23, hf23⟩ : ∃ F_ : Int32 → Int32, F_ = (fun i : Int32 => if i = (3 : Int32) then (f_2 (f11 (2 : Int32)) (f11 (3 : Int32))) else f11 i) := ⟨_, rfl⟩
  have w11 : own_Arf Z h11 a0 k1 .int (4 : Int32) f23 := by rw [hf23]; exact own_Arf.set Ar10 q10 S10 Ng10 Hh10 hj10 W11
  have Z11 : n0 ≤ h11.size := Nat.le_trans Z6 (Keep.of_wr W11).1
  have K11 := Keep.wr K6 W11 (Or.inl (by simp))
  have N11 := Fr.snoc X11 N9 g_a0
  refine own_go (U' := T11.setTop (mkF m 24 #[.val (.ref a0)] [])) (fun _ k => st11 _ k) ?_
  refine own_go (U' := T11.setTop (mkF m 25 #[.val (.ref a0)] [(.ref a0)])) (fun _ k => XS.aloadN X11.here hx rfl (hb hby d1_24) rfl rfl k) ?_
  refine own_go (U' := T11.setTop (mkF m 26 #[.val (.ref a0)] [(.int (0 : Int32)), (.ref a0)])) (fun _ k => XS.iconst X11.here hx rfl (hb hby d1_25) k) ?_
  have V12 := w11
  obtain ⟨cl12, Ar12, q12, S12, Ng12, Hh12⟩ := V12
  have hj12 : ¬ (0 : Int32) < 0 ∧ (0 : Int32) < (4 : Int32) := ⟨by decide, by decide⟩
  have hat12 := Hh12 _ hj12.1 hj12.2
  refine own_go (U' := T11.setTop (mkF m 27 #[.val (.ref a0)] [(.int (f23 (0 : Int32)))])) (fun _ k => X11.iaload hx (j := (0 : Int32)) (v := (.int (f23 (0 : Int32)))) (own_cell e11 Ar12.1) (State.isArrayOf_alike hZ.alike Ar12.2.1) Ar12.2.2 (inb_of S12 hj12) hat12 (g := (mkF m 26 #[.val (.ref a0)] [(.int (0 : Int32)), (.ref a0)])) rfl rfl (hb hby d1_26) _ k) ?_
  refine own_go (U' := T11.setTop (mkF m 28 #[.val (.ref a0)] [(.ref a0), (.int (f23 (0 : Int32)))])) (fun _ k => XS.aloadN X11.here hx rfl (hb hby d1_27) rfl rfl k) ?_
  refine own_go (U' := T11.setTop (mkF m 29 #[.val (.ref a0)] [(.int (1 : Int32)), (.ref a0), (.int (f23 (0 : Int32)))])) (fun _ k => XS.iconst X11.here hx rfl (hb hby d1_28) k) ?_
  have V13 := w11
  obtain ⟨cl13, Ar13, q13, S13, Ng13, Hh13⟩ := V13
  have hj13 : ¬ (1 : Int32) < 0 ∧ (1 : Int32) < (4 : Int32) := ⟨by decide, by decide⟩
  have hat13 := Hh13 _ hj13.1 hj13.2
  refine own_go (U' := T11.setTop (mkF m 30 #[.val (.ref a0)] [(.int (f23 (1 : Int32))), (.int (f23 (0 : Int32)))])) (fun _ k => X11.iaload hx (j := (1 : Int32)) (v := (.int (f23 (1 : Int32)))) (own_cell e11 Ar13.1) (State.isArrayOf_alike hZ.alike Ar13.2.1) Ar13.2.2 (inb_of S13 hj13) hat13 (g := (mkF m 29 #[.val (.ref a0)] [(.int (1 : Int32)), (.ref a0), (.int (f23 (0 : Int32)))])) rfl rfl (hb hby d1_29) _ k) ?_
  by_cases hc30_14 : (f23 (0 : Int32)) = (f23 (1 : Int32))
  · refine own_go (U' := T11.setTop (mkF m 33 #[.val (.ref a0)] [])) (fun _ k => XS.icmpNo X11.here hx rfl (hb hby d1_30) rfl (teq hc30_14).2 k) ?_
    refine own_go (U' := T11.setTop (mkF m 34 #[.val (.ref a0)] [(.ref a0)])) (fun _ k => XS.aloadN X11.here hx rfl (hb hby d1_33) rfl rfl k) ?_
    refine own_go (U' := T11.setTop (mkF m 35 #[.val (.ref a0)] [(.int (2 : Int32)), (.ref a0)])) (fun _ k => XS.iconst X11.here hx rfl (hb hby d1_34) k) ?_
    have V15 := w11
    obtain ⟨cl15, Ar15, q15, S15, Ng15, Hh15⟩ := V15
    have hj15 : ¬ (2 : Int32) < 0 ∧ (2 : Int32) < (4 : Int32) := ⟨by decide, by decide⟩
    have hat15 := Hh15 _ hj15.1 hj15.2
    refine own_go (U' := T11.setTop (mkF m 36 #[.val (.ref a0)] [(.int (f23 (2 : Int32)))])) (fun _ k => X11.iaload hx (j := (2 : Int32)) (v := (.int (f23 (2 : Int32)))) (own_cell e11 Ar15.1) (State.isArrayOf_alike hZ.alike Ar15.2.1) Ar15.2.2 (inb_of S15 hj15) hat15 (g := (mkF m 35 #[.val (.ref a0)] [(.int (2 : Int32)), (.ref a0)])) rfl rfl (hb hby d1_35) _ k) ?_
    refine own_go (U' := T11.setTop (mkF m 37 #[.val (.ref a0)] [(.ref a0), (.int (f23 (2 : Int32)))])) (fun _ k => XS.aloadN X11.here hx rfl (hb hby d1_36) rfl rfl k) ?_
    refine own_go (U' := T11.setTop (mkF m 38 #[.val (.ref a0)] [(.int (3 : Int32)), (.ref a0), (.int (f23 (2 : Int32)))])) (fun _ k => XS.iconst X11.here hx rfl (hb hby d1_37) k) ?_
    have V16 := w11
    obtain ⟨cl16, Ar16, q16, S16, Ng16, Hh16⟩ := V16
    have hj16 : ¬ (3 : Int32) < 0 ∧ (3 : Int32) < (4 : Int32) := ⟨by decide, by decide⟩
    have hat16 := Hh16 _ hj16.1 hj16.2
    refine own_go (U' := T11.setTop (mkF m 39 #[.val (.ref a0)] [(.int (f23 (3 : Int32))), (.int (f23 (2 : Int32)))])) (fun _ k => X11.iaload hx (j := (3 : Int32)) (v := (.int (f23 (3 : Int32)))) (own_cell e11 Ar16.1) (State.isArrayOf_alike hZ.alike Ar16.2.1) Ar16.2.2 (inb_of S16 hj16) hat16 (g := (mkF m 38 #[.val (.ref a0)] [(.int (3 : Int32)), (.ref a0), (.int (f23 (2 : Int32)))])) rfl rfl (hb hby d1_38) _ k) ?_
    by_cases hc39_17 : (f23 (2 : Int32)) = (f23 (3 : Int32))
    · refine own_go (U' := T11.setTop (mkF m 42 #[.val (.ref a0)] [])) (fun _ k => XS.icmpNo X11.here hx rfl (hb hby d1_39) rfl (teq hc39_17).2 k) ?_
      refine own_go (U' := T11.setTop (mkF m 43 #[.val (.ref a0)] [(.ref a0)])) (fun _ k => XS.aloadN X11.here hx rfl (hb hby d1_42) rfl rfl k) ?_
      refine own_go (U' := T11.setTop (mkF m 44 #[.val (.ref a0)] [(.int (1 : Int32)), (.ref a0)])) (fun _ k => XS.iconst X11.here hx rfl (hb hby d1_43) k) ?_
      have V18 := w11
      obtain ⟨cl18, Ar18, q18, S18, Ng18, Hh18⟩ := V18
      have hj18 : ¬ (1 : Int32) < 0 ∧ (1 : Int32) < (4 : Int32) := ⟨by decide, by decide⟩
      have hat18 := Hh18 _ hj18.1 hj18.2
      refine own_go (U' := T11.setTop (mkF m 45 #[.val (.ref a0)] [(.int (f23 (1 : Int32)))])) (fun _ k => X11.iaload hx (j := (1 : Int32)) (v := (.int (f23 (1 : Int32)))) (own_cell e11 Ar18.1) (State.isArrayOf_alike hZ.alike Ar18.2.1) Ar18.2.2 (inb_of S18 hj18) hat18 (g := (mkF m 44 #[.val (.ref a0)] [(.int (1 : Int32)), (.ref a0)])) rfl rfl (hb hby d1_44) _ k) ?_
      refine own_go (U' := T11.setTop (mkF m 47 #[.val (.ref a0)] [(.int (2147483647 : Int32)), (.int (f23 (1 : Int32)))])) (fun _ k => X11.ldcInt hx hown (mvT hZ (hw _ (List.mem_of_getElem? (i := 1) rfl))) (g := (mkF m 45 #[.val (.ref a0)] [(.int (f23 (1 : Int32)))])) rfl (hb hby d1_45) _ k) ?_
      by_cases hc47_19 : (f23 (1 : Int32)) < (2147483647 : Int32)
      · refine own_go (U' := T11.setTop (mkF m 50 #[.val (.ref a0)] [])) (fun _ k => XS.icmpNo X11.here hx rfl (hb hby d1_47) rfl (tlt hc47_19).2.1 k) ?_
        refine own_go (U' := T11.setTop (mkF m 51 #[.val (.ref a0)] [(.ref a0)])) (fun _ k => XS.aloadN X11.here hx rfl (hb hby d1_50) rfl rfl k) ?_
        refine own_go (U' := T11.setTop (mkF m 52 #[.val (.ref a0)] [(.int (1 : Int32)), (.ref a0)])) (fun _ k => XS.iconst X11.here hx rfl (hb hby d1_51) k) ?_
        refine own_go (U' := T11.setTop (mkF m 53 #[.val (.ref a0)] [(.ref a0), (.int (1 : Int32)), (.ref a0)])) (fun _ k => XS.aloadN X11.here hx rfl (hb hby d1_52) rfl rfl k) ?_
        refine own_go (U' := T11.setTop (mkF m 54 #[.val (.ref a0)] [(.int (1 : Int32)), (.ref a0), (.int (1 : Int32)), (.ref a0)])) (fun _ k => XS.iconst X11.here hx rfl (hb hby d1_53) k) ?_
        have V20 := w11
        obtain ⟨cl20, Ar20, q20, S20, Ng20, Hh20⟩ := V20
        have hj20 : ¬ (1 : Int32) < 0 ∧ (1 : Int32) < (4 : Int32) := ⟨by decide, by decide⟩
        have hat20 := Hh20 _ hj20.1 hj20.2
        refine own_go (U' := T11.setTop (mkF m 55 #[.val (.ref a0)] [(.int (f23 (1 : Int32))), (.int (1 : Int32)), (.ref a0)])) (fun _ k => X11.iaload hx (j := (1 : Int32)) (v := (.int (f23 (1 : Int32)))) (own_cell e11 Ar20.1) (State.isArrayOf_alike hZ.alike Ar20.2.1) Ar20.2.2 (inb_of S20 hj20) hat20 (g := (mkF m 54 #[.val (.ref a0)] [(.int (1 : Int32)), (.ref a0), (.int (1 : Int32)), (.ref a0)])) rfl rfl (hb hby d1_54) _ k) ?_
        refine own_go (U' := T11.setTop (mkF m 56 #[.val (.ref a0)] [(.int (1 : Int32)), (.int (f23 (1 : Int32))), (.int (1 : Int32)), (.ref a0)])) (fun _ k => XS.iconst X11.here hx rfl (hb hby d1_55) k) ?_
        refine own_go (U' := T11.setTop (mkF m 57 #[.val (.ref a0)] [(.int ((f23 (1 : Int32)) + (1 : Int32))), (.int (1 : Int32)), (.ref a0)])) (fun _ k => XS.iadd X11.here hx rfl (hb hby d1_56) rfl k) ?_
        have V21 := w11
        obtain ⟨cl21, Ar21, q21, S21, Ng21, Hh21⟩ := V21
        have hj21 : ¬ (1 : Int32) < 0 ∧ (1 : Int32) < (4 : Int32) := ⟨by decide, by decide⟩
        obtain ⟨T22, h22, X22, e22, W22, st22⟩ := stI X11 hx hZ e11 Ar21 (j := (1 : Int32)) (inb_of S21 hj21) (g := (mkF m 57 #[.val (.ref a0)] [(.int ((f23 (1 : Int32)) + (1 : Int32))), (.int (1 : Int32)), (.ref a0)])) rfl rfl (hb hby d1_57)
        obtain ⟨f57, hf57⟩ : ∃ F_ : Int32 → Int32, F_ = (fun i : Int32 => if i = (1 : Int32) then ((f23 (1 : Int32)) + (1 : Int32)) else f23 i) := ⟨_, rfl⟩
        have w22 : own_Arf Z h22 a0 k1 .int (4 : Int32) f57 := by rw [hf57]; exact own_Arf.set Ar21 q21 S21 Ng21 Hh21 hj21 W22
        have Z22 : n0 ≤ h22.size := Nat.le_trans Z11 (Keep.of_wr W22).1
        have K22 := Keep.wr K11 W22 (Or.inl (by simp))
        have N22 := Fr.snoc X22 N11 g_a0
        refine own_go (U' := T22.setTop (mkF m 58 #[.val (.ref a0)] [])) (fun _ k => st22 _ k) ?_
        refine own_go (U' := T22.setTop (mkF m 69 #[.val (.ref a0)] [])) (fun _ k => XS.goto X22.here hx rfl (pc0 := 58) (pc' := 69) rfl (hb hby d1_58) (by decide) (by decide) k) ?_
        refine own_ret X22 (v := none) hlk (fun _ => rfl) (by decide) (by decide) (fun fs hr => X22.returnOut hx Bd.returns (hb hby d1_69) hr) ?_
        show (Q1 Z a0 k1 f h0 n0) _ T22.heap _
        rw [e22]
        have e : own_fix f = f57 := by
          try subst hf57
          try subst hf23
          try subst hf11
          unfold own_fix
          exact ((if_pos hc30_14).trans ((if_pos hc39_17).trans ((if_pos hc47_19).trans rfl)))
        rw [← e] at w22
        exact ⟨rfl, N22, K22, w22⟩
      · refine own_go (U' := T11.setTop (mkF m 61 #[.val (.ref a0)] [])) (fun _ k => XS.icmpYes X11.here hx rfl (pc0 := 47) (pc' := 61) rfl (hb hby d1_47) rfl (flt hc47_19).2.1 (by decide) (by decide) k) ?_
        refine own_go (U' := T11.setTop (mkF m 62 #[.val (.ref a0)] [(.ref a0)])) (fun _ k => XS.aloadN X11.here hx rfl (hb hby d1_61) rfl rfl k) ?_
        refine own_go (U' := T11.setTop (mkF m 63 #[.val (.ref a0)] [(.int (0 : Int32)), (.ref a0)])) (fun _ k => XS.iconst X11.here hx rfl (hb hby d1_62) k) ?_
        refine own_go (U' := T11.setTop (mkF m 64 #[.val (.ref a0)] [(.ref a0), (.int (0 : Int32)), (.ref a0)])) (fun _ k => XS.aloadN X11.here hx rfl (hb hby d1_63) rfl rfl k) ?_
        refine own_go (U' := T11.setTop (mkF m 65 #[.val (.ref a0)] [(.int (0 : Int32)), (.ref a0), (.int (0 : Int32)), (.ref a0)])) (fun _ k => XS.iconst X11.here hx rfl (hb hby d1_64) k) ?_
        have V23 := w11
        obtain ⟨cl23, Ar23, q23, S23, Ng23, Hh23⟩ := V23
        have hj23 : ¬ (0 : Int32) < 0 ∧ (0 : Int32) < (4 : Int32) := ⟨by decide, by decide⟩
        have hat23 := Hh23 _ hj23.1 hj23.2
        refine own_go (U' := T11.setTop (mkF m 66 #[.val (.ref a0)] [(.int (f23 (0 : Int32))), (.int (0 : Int32)), (.ref a0)])) (fun _ k => X11.iaload hx (j := (0 : Int32)) (v := (.int (f23 (0 : Int32)))) (own_cell e11 Ar23.1) (State.isArrayOf_alike hZ.alike Ar23.2.1) Ar23.2.2 (inb_of S23 hj23) hat23 (g := (mkF m 65 #[.val (.ref a0)] [(.int (0 : Int32)), (.ref a0), (.int (0 : Int32)), (.ref a0)])) rfl rfl (hb hby d1_65) _ k) ?_
        refine own_go (U' := T11.setTop (mkF m 67 #[.val (.ref a0)] [(.int (1 : Int32)), (.int (f23 (0 : Int32))), (.int (0 : Int32)), (.ref a0)])) (fun _ k => XS.iconst X11.here hx rfl (hb hby d1_66) k) ?_
        refine own_go (U' := T11.setTop (mkF m 68 #[.val (.ref a0)] [(.int ((f23 (0 : Int32)) - (1 : Int32))), (.int (0 : Int32)), (.ref a0)])) (fun _ k => XS.isub X11.here hx rfl (hb hby d1_67) rfl k) ?_
        have V24 := w11
        obtain ⟨cl24, Ar24, q24, S24, Ng24, Hh24⟩ := V24
        have hj24 : ¬ (0 : Int32) < 0 ∧ (0 : Int32) < (4 : Int32) := ⟨by decide, by decide⟩
        obtain ⟨T25, h25, X25, e25, W25, st25⟩ := stI X11 hx hZ e11 Ar24 (j := (0 : Int32)) (inb_of S24 hj24) (g := (mkF m 68 #[.val (.ref a0)] [(.int ((f23 (0 : Int32)) - (1 : Int32))), (.int (0 : Int32)), (.ref a0)])) rfl rfl (hb hby d1_68)
        obtain ⟨f68, hf68⟩ : ∃ F_ : Int32 → Int32, F_ = (fun i : Int32 => if i = (0 : Int32) then ((f23 (0 : Int32)) - (1 : Int32)) else f23 i) := ⟨_, rfl⟩
        have w25 : own_Arf Z h25 a0 k1 .int (4 : Int32) f68 := by rw [hf68]; exact own_Arf.set Ar24 q24 S24 Ng24 Hh24 hj24 W25
        have Z25 : n0 ≤ h25.size := Nat.le_trans Z11 (Keep.of_wr W25).1
        have K25 := Keep.wr K11 W25 (Or.inl (by simp))
        have N25 := Fr.snoc X25 N11 g_a0
        refine own_go (U' := T25.setTop (mkF m 69 #[.val (.ref a0)] [])) (fun _ k => st25 _ k) ?_
        refine own_ret X25 (v := none) hlk (fun _ => rfl) (by decide) (by decide) (fun fs hr => X25.returnOut hx Bd.returns (hb hby d1_69) hr) ?_
        show (Q1 Z a0 k1 f h0 n0) _ T25.heap _
        rw [e25]
        have e : own_fix f = f68 := by
          try subst hf68
          try subst hf57
          try subst hf23
          try subst hf11
          unfold own_fix
          exact ((if_pos hc30_14).trans ((if_pos hc39_17).trans ((if_neg hc47_19).trans rfl)))
        rw [← e] at w25
        exact ⟨rfl, N25, K25, w25⟩
    · refine own_go (U' := T11.setTop (mkF m 69 #[.val (.ref a0)] [])) (fun _ k => XS.icmpYes X11.here hx rfl (pc0 := 39) (pc' := 69) rfl (hb hby d1_39) rfl (feq hc39_17).2 (by decide) (by decide) k) ?_
      refine own_ret X11 (v := none) hlk (fun _ => rfl) (by decide) (by decide) (fun fs hr => X11.returnOut hx Bd.returns (hb hby d1_69) hr) ?_
      show (Q1 Z a0 k1 f h0 n0) _ T11.heap _
      rw [e11]
      have e : own_fix f = f23 := by
        try subst hf68
        try subst hf57
        try subst hf23
        try subst hf11
        unfold own_fix
        exact ((if_pos hc30_14).trans ((if_neg hc39_17).trans rfl))
      rw [← e] at w11
      exact ⟨rfl, N11, K11, w11⟩
  · refine own_go (U' := T11.setTop (mkF m 69 #[.val (.ref a0)] [])) (fun _ k => XS.icmpYes X11.here hx rfl (pc0 := 30) (pc' := 69) rfl (hb hby d1_30) rfl (feq hc30_14).2 (by decide) (by decide) k) ?_
    refine own_ret X11 (v := none) hlk (fun _ => rfl) (by decide) (by decide) (fun fs hr => X11.returnOut hx Bd.returns (hb hby d1_69) hr) ?_
    show (Q1 Z a0 k1 f h0 n0) _ T11.heap _
    rw [e11]
    have e : own_fix f = f23 := by
      try subst hf68
      try subst hf57
      try subst hf23
      try subst hf11
      unfold own_fix
      exact ((if_neg hc30_14).trans rfl)
    rw [← e] at w11
    exact ⟨rfl, N11, K11, w11⟩
theorem d3_0 : decode prog_6_method_1_code 0 = .ok (.aload_n 0, 1) := by decide +kernel
theorem d3_1 : decode prog_6_method_1_code 1 = .ok (.invokespecial 1, 3) := by decide +kernel
theorem d3_4 : decode prog_6_method_1_code 4 = .ok (.iload_n 1, 1) := by decide +kernel
theorem d3_5 : decode prog_6_method_1_code 5 = .ok (.ifCond .lt 29, 3) := by decide +kernel
theorem d3_8 : decode prog_6_method_1_code 8 = .ok (.iload_n 3, 1) := by decide +kernel
theorem d3_9 : decode prog_6_method_1_code 9 = .ok (.ifCond .lt 25, 3) := by decide +kernel
theorem d3_12 : decode prog_6_method_1_code 12 = .ok (.iload_n 2, 1) := by decide +kernel
theorem d3_13 : decode prog_6_method_1_code 13 = .ok (.iload_n 1, 1) := by decide +kernel
theorem d3_14 : decode prog_6_method_1_code 14 = .ok (.if_icmp .lt 20, 3) := by decide +kernel
theorem d3_17 : decode prog_6_method_1_code 17 = .ok (.iload 4, 2) := by decide +kernel
theorem d3_19 : decode prog_6_method_1_code 19 = .ok (.iload_n 3, 1) := by decide +kernel
theorem d3_20 : decode prog_6_method_1_code 20 = .ok (.if_icmp .lt 14, 3) := by decide +kernel
theorem d3_23 : decode prog_6_method_1_code 23 = .ok (.iload_n 2, 1) := by decide +kernel
theorem d3_24 : decode prog_6_method_1_code 24 = .ok (.iload_n 1, 1) := by decide +kernel
theorem d3_25 : decode prog_6_method_1_code 25 = .ok (.if_icmp .ne 27, 3) := by decide +kernel
theorem d3_28 : decode prog_6_method_1_code 28 = .ok (.iload 4, 2) := by decide +kernel
theorem d3_30 : decode prog_6_method_1_code 30 = .ok (.iload_n 3, 1) := by decide +kernel
theorem d3_31 : decode prog_6_method_1_code 31 = .ok (.if_icmp .ne 21, 3) := by decide +kernel
theorem d3_52 : decode prog_6_method_1_code 52 = .ok (.aload_n 0, 1) := by decide +kernel
theorem d3_53 : decode prog_6_method_1_code 53 = .ok (.iload_n 1, 1) := by decide +kernel
theorem d3_54 : decode prog_6_method_1_code 54 = .ok (.putfield 16, 3) := by decide +kernel
theorem d3_57 : decode prog_6_method_1_code 57 = .ok (.aload_n 0, 1) := by decide +kernel
theorem d3_58 : decode prog_6_method_1_code 58 = .ok (.iload_n 2, 1) := by decide +kernel
theorem d3_59 : decode prog_6_method_1_code 59 = .ok (.putfield 22, 3) := by decide +kernel
theorem d3_62 : decode prog_6_method_1_code 62 = .ok (.aload_n 0, 1) := by decide +kernel
theorem d3_63 : decode prog_6_method_1_code 63 = .ok (.iload_n 3, 1) := by decide +kernel
theorem d3_64 : decode prog_6_method_1_code 64 = .ok (.putfield 25, 3) := by decide +kernel
theorem d3_67 : decode prog_6_method_1_code 67 = .ok (.aload_n 0, 1) := by decide +kernel
theorem d3_68 : decode prog_6_method_1_code 68 = .ok (.iload 4, 2) := by decide +kernel
theorem d3_70 : decode prog_6_method_1_code 70 = .ok (.putfield 28, 3) := by decide +kernel
theorem d3_73 : decode prog_6_method_1_code 73 = .ok (.return_, 1) := by decide +kernel
theorem own_pn1 : plainName "com/example/layout_to_evidence/layouttoevidence/CellSpan" = true := by first | (simp [plainName, overriddenIn]; done) | decide +kernel
theorem own_ef3 (m : MethodId) (x0 : Addr) (x1 : Int32) (x2 : Int32) (x3 : Int32) (x4 : Int32) : entryFrame m #[(.ref x0), (.int x1), (.int x2), (.int x3), (.int x4)] 5 = mkF m 0 #[.val (.ref x0), .val (.int x1), .val (.int x2), .val (.int x3), .val (.int x4)] [] := by first | (simp [entryFrame, mkF, argsToLocals, Value.category]; done) | rfl
def Q3 (Z : State) (a0 : Addr) (p1 : Int32) (p2 : Int32) (p3 : Int32) (p4 : Int32) (h0 : Heap) (n0 : Nat) (v : Option Value) (h : Heap) (L : List Loc) : Prop := v = none ∧ Fr n0 L ∧ Keep h0 h [a0] ∧ Exa Z h a0 "com/example/layout_to_evidence/layouttoevidence/CellSpan" ∧ Fld Z h a0 "com/example/layout_to_evidence/layouttoevidence/CellSpan" "startRow" "I" (.int p1) ∧ Fld Z h a0 "com/example/layout_to_evidence/layouttoevidence/CellSpan" "endRow" "I" (.int p2) ∧ Fld Z h a0 "com/example/layout_to_evidence/layouttoevidence/CellSpan" "startColumn" "I" (.int p3) ∧ Fld Z h a0 "com/example/layout_to_evidence/layouttoevidence/CellSpan" "endColumn" "I" (.int p4)
set_option maxRecDepth 65536 in
set_option maxHeartbeats 40000000 in
theorem rm3 (l : Launch) (Z : State) (aw : Array Value) (hw : ∀ d ∈ tables_1, d.before aw Z = true) (ws : List Jvm.Cond) (a0 : Addr) (p1 : Int32) (p2 : Int32) (p3 : Int32) (p4 : Int32) (h0 : Heap) (n0 : Nat) (Z0 : n0 ≤ h0.size) (E_a : Exa Z h0 a0 "com/example/layout_to_evidence/layouttoevidence/CellSpan") (F_0 : Fld Z h0 a0 "com/example/layout_to_evidence/layouttoevidence/CellSpan" "startRow" "I" (.int (0 : Int32))) (F_1 : Fld Z h0 a0 "com/example/layout_to_evidence/layouttoevidence/CellSpan" "endRow" "I" (.int (0 : Int32))) (F_2 : Fld Z h0 a0 "com/example/layout_to_evidence/layouttoevidence/CellSpan" "startColumn" "I" (.int (0 : Int32))) (F_3 : Fld Z h0 a0 "com/example/layout_to_evidence/layouttoevidence/CellSpan" "endColumn" "I" (.int (0 : Int32))) (g_a0 : n0 ≤ a0) (hr : ¬ (p1 < (0 : Int32))) (hcl : ¬ (p3 < (0 : Int32))) (hrr : ¬ (p2 < p1)) (hcc : ¬ (p4 < p3)) (hd : ¬ (p2 = p1 ∧ p4 = p3)) :
    MetFree l (⟨"com/example/layout_to_evidence/layouttoevidence/CellSpan", "<init>", "(IIII)V"⟩ : MethodName) (head1 (Jvm.Cond.code (⟨"com/example/layout_to_evidence/layouttoevidence/CellSpan", "<init>", "(IIII)V"⟩ : MethodName) prog_6_method_1_code 5 none :: ws) ({ frames := 1, cells := 0, slots := 0, locals := 12 } : Room)) (fun a U => a = #[(.ref a0), (.int p1), (.int p2), (.int p3), (.int p4)] ∧ Z.Warmed39 U.vm ∧ U.heap = h0) (fun _ _ _ _ _ => True) (fun _ U o U' => ∃ v L, o = .returned v ∧ (Q3 Z a0 p1 p2 p3 p4 h0 n0) v U'.heap L ∧ FrameEnd U o U' L ({ frames := 1, cells := 0, slots := 0, locals := 12 } : Room).cells ({ frames := 1, cells := 0, slots := 0, locals := 12 } : Room).slots) := by
  refine MetFree.of_bodySF (plainFor_of_name own_pn1) hisR ?_
  intro p e s m args below meth c s₁ Bd hml0 hP hK
  obtain ⟨rfl, hZ, hh⟩ := hP
  have hx := Bd.exec
  have hby := Bd.bytes
  have hml : c.maxLocals = 5 := hml0
  have hown : s.vm.findClass "com/example/layout_to_evidence/layouttoevidence/CellSpan" = some m.cls := findClass_of_methodNamed Bd.named
  have hnm := (name_of_methodNamed Bd.named Bd.method).1
  have hlk : meth.locks = false := BodyLoose.notSynchronized (by assumption)
  have X0 : Stand p l e ({ frames := 1, cells := 0, slots := 0, locals := 12 } : Room) s m #[(.ref a0), (.int p1), (.int p2), (.int p3), (.int p4)] below meth c s₁ [] 0 0 := Stand.of_body Bd
  have e0 : s₁.heap = h0 := by rw [← hh, Bd.state]; rfl
  have N0 := Fr.nil n0
  show own_Done p e below s (Q3 Z a0 p1 p2 p3 p4 h0 n0) ({ frames := 1, cells := 0, slots := 0, locals := 12 } : Room).cells ({ frames := 1, cells := 0, slots := 0, locals := 12 } : Room).slots (s₁.setTop (entryFrame m #[(.ref a0), (.int p1), (.int p2), (.int p3), (.int p4)] 5))
  refine own_go (U' := s₁.setTop (mkF m 0 #[.val (.ref a0), .val (.int p1), .val (.int p2), .val (.int p3), .val (.int p4)] [])) (fun _ k => castTop (own_ef3 m a0 p1 p2 p3 p4) k) ?_
  refine own_go (U' := s₁.setTop (mkF m 1 #[.val (.ref a0), .val (.int p1), .val (.int p2), .val (.int p3), .val (.int p4)] [(.ref a0)])) (fun _ k => XS.aloadN X0.here hx rfl (hb hby d3_0) rfl rfl k) ?_
  obtain ⟨T26, X26, e26, st26⟩ := initO X0 hx hZ hown (hw _ (List.mem_of_getElem? (i := 16) rfl)) (hw _ (List.mem_of_getElem? (i := 17) rfl)) (hw _ (List.mem_of_getElem? (i := 18) rfl)) e0 (g := (mkF m 1 #[.val (.ref a0), .val (.int p1), .val (.int p2), .val (.int p3), .val (.int p4)] [(.ref a0)])) rfl (by rw [hml]; rfl) rfl (hb hby d3_1) (by decide) (W := 0) (by show 2 * 0 + _ ≤ _; exact Nat.le_of_eq rfl) (by decide)
  refine own_go (U' := T26.setTop (mkF m 4 #[.val (.ref a0), .val (.int p1), .val (.int p2), .val (.int p3), .val (.int p4)] [])) (fun _ k => st26 _ k) ?_
  refine own_go (U' := T26.setTop (mkF m 5 #[.val (.ref a0), .val (.int p1), .val (.int p2), .val (.int p3), .val (.int p4)] [(.int p1)])) (fun _ k => XS.iloadN X26.here hx rfl (hb hby d3_4) rfl k) ?_
  refine own_go (U' := T26.setTop (mkF m 8 #[.val (.ref a0), .val (.int p1), .val (.int p2), .val (.int p3), .val (.int p4)] [])) (fun _ k => XS.ifNo X26.here hx rfl (hb hby d3_5) rfl ((if0 _ _).trans (flt hr).1) k) ?_
  refine own_go (U' := T26.setTop (mkF m 9 #[.val (.ref a0), .val (.int p1), .val (.int p2), .val (.int p3), .val (.int p4)] [(.int p3)])) (fun _ k => XS.iloadN X26.here hx rfl (hb hby d3_8) rfl k) ?_
  refine own_go (U' := T26.setTop (mkF m 12 #[.val (.ref a0), .val (.int p1), .val (.int p2), .val (.int p3), .val (.int p4)] [])) (fun _ k => XS.ifNo X26.here hx rfl (hb hby d3_9) rfl ((if0 _ _).trans (flt hcl).1) k) ?_
  refine own_go (U' := T26.setTop (mkF m 13 #[.val (.ref a0), .val (.int p1), .val (.int p2), .val (.int p3), .val (.int p4)] [(.int p2)])) (fun _ k => XS.iloadN X26.here hx rfl (hb hby d3_12) rfl k) ?_
  refine own_go (U' := T26.setTop (mkF m 14 #[.val (.ref a0), .val (.int p1), .val (.int p2), .val (.int p3), .val (.int p4)] [(.int p1), (.int p2)])) (fun _ k => XS.iloadN X26.here hx rfl (hb hby d3_13) rfl k) ?_
  refine own_go (U' := T26.setTop (mkF m 17 #[.val (.ref a0), .val (.int p1), .val (.int p2), .val (.int p3), .val (.int p4)] [])) (fun _ k => XS.icmpNo X26.here hx rfl (hb hby d3_14) rfl (flt hrr).1 k) ?_
  refine own_go (U' := T26.setTop (mkF m 19 #[.val (.ref a0), .val (.int p1), .val (.int p2), .val (.int p3), .val (.int p4)] [(.int p4)])) (fun _ k => XS.iload X26.here hx rfl (hb hby d3_17) rfl k) ?_
  refine own_go (U' := T26.setTop (mkF m 20 #[.val (.ref a0), .val (.int p1), .val (.int p2), .val (.int p3), .val (.int p4)] [(.int p3), (.int p4)])) (fun _ k => XS.iloadN X26.here hx rfl (hb hby d3_19) rfl k) ?_
  refine own_go (U' := T26.setTop (mkF m 23 #[.val (.ref a0), .val (.int p1), .val (.int p2), .val (.int p3), .val (.int p4)] [])) (fun _ k => XS.icmpNo X26.here hx rfl (hb hby d3_20) rfl (flt hcc).1 k) ?_
  refine own_go (U' := T26.setTop (mkF m 24 #[.val (.ref a0), .val (.int p1), .val (.int p2), .val (.int p3), .val (.int p4)] [(.int p2)])) (fun _ k => XS.iloadN X26.here hx rfl (hb hby d3_23) rfl k) ?_
  refine own_go (U' := T26.setTop (mkF m 25 #[.val (.ref a0), .val (.int p1), .val (.int p2), .val (.int p3), .val (.int p4)] [(.int p1), (.int p2)])) (fun _ k => XS.iloadN X26.here hx rfl (hb hby d3_24) rfl k) ?_
  by_cases hc25_27 : p2 = p1
  · refine own_go (U' := T26.setTop (mkF m 28 #[.val (.ref a0), .val (.int p1), .val (.int p2), .val (.int p3), .val (.int p4)] [])) (fun _ k => XS.icmpNo X26.here hx rfl (hb hby d3_25) rfl (teq hc25_27).2 k) ?_
    refine own_go (U' := T26.setTop (mkF m 30 #[.val (.ref a0), .val (.int p1), .val (.int p2), .val (.int p3), .val (.int p4)] [(.int p4)])) (fun _ k => XS.iload X26.here hx rfl (hb hby d3_28) rfl k) ?_
    refine own_go (U' := T26.setTop (mkF m 31 #[.val (.ref a0), .val (.int p1), .val (.int p2), .val (.int p3), .val (.int p4)] [(.int p3), (.int p4)])) (fun _ k => XS.iloadN X26.here hx rfl (hb hby d3_30) rfl k) ?_
    have hc31_28 : ¬ (p4 = p3) := fun q => hd ⟨hc25_27, q⟩
    refine own_go (U' := T26.setTop (mkF m 52 #[.val (.ref a0), .val (.int p1), .val (.int p2), .val (.int p3), .val (.int p4)] [])) (fun _ k => XS.icmpYes X26.here hx rfl (pc0 := 31) (pc' := 52) rfl (hb hby d3_31) rfl (feq hc31_28).2 (by decide) (by decide) k) ?_
    refine own_go (U' := T26.setTop (mkF m 53 #[.val (.ref a0), .val (.int p1), .val (.int p2), .val (.int p3), .val (.int p4)] [(.ref a0)])) (fun _ k => XS.aloadN X26.here hx rfl (hb hby d3_52) rfl rfl k) ?_
    refine own_go (U' := T26.setTop (mkF m 54 #[.val (.ref a0), .val (.int p1), .val (.int p2), .val (.int p3), .val (.int p4)] [(.int p1), (.ref a0)])) (fun _ k => XS.iloadN X26.here hx rfl (hb hby d3_53) rfl k) ?_
    obtain ⟨T29, h29, X29, e29, W29, st29⟩ := putF X26 hx hZ hown (host := "") (Or.inl (hw _ (List.mem_of_getElem? (i := 19) rfl))) Via.refl e26 F_0 E_a (Or.inr ⟨(hw _ (List.mem_of_getElem? (i := 20) rfl)), rfl, hnm⟩) (hw _ (List.mem_of_getElem? (i := 11) rfl)) (ty := .int) (by decide) rfl rfl (g := (mkF m 54 #[.val (.ref a0), .val (.int p1), .val (.int p2), .val (.int p3), .val (.int p4)] [(.int p1), (.ref a0)])) rfl rfl (hb hby d3_54)
    have c29_0 : Exa Z h29 a0 "com/example/layout_to_evidence/layouttoevidence/CellSpan" := E_a.wr W29
    have c29_2 : Fld Z h29 a0 "com/example/layout_to_evidence/layouttoevidence/CellSpan" "endRow" "I" (.int (0 : Int32)) := F_1.other W29 (Or.inr (slot_ne (Or.inr (hw _ (List.mem_of_getElem? (i := 22) rfl))) (Or.inr (hw _ (List.mem_of_getElem? (i := 20) rfl))) (by decide) (t := .int) (t' := .int) (by decide) (by decide)))
    have c29_3 : Fld Z h29 a0 "com/example/layout_to_evidence/layouttoevidence/CellSpan" "startColumn" "I" (.int (0 : Int32)) := F_2.other W29 (Or.inr (slot_ne (Or.inr (hw _ (List.mem_of_getElem? (i := 24) rfl))) (Or.inr (hw _ (List.mem_of_getElem? (i := 20) rfl))) (by decide) (t := .int) (t' := .int) (by decide) (by decide)))
    have c29_4 : Fld Z h29 a0 "com/example/layout_to_evidence/layouttoevidence/CellSpan" "endColumn" "I" (.int (0 : Int32)) := F_3.other W29 (Or.inr (slot_ne (Or.inr (hw _ (List.mem_of_getElem? (i := 26) rfl))) (Or.inr (hw _ (List.mem_of_getElem? (i := 20) rfl))) (by decide) (t := .int) (t' := .int) (by decide) (by decide)))
    have w29 : Fld Z h29 a0 "com/example/layout_to_evidence/layouttoevidence/CellSpan" "startRow" "I" (.int p1) := F_0.same W29
    have Z29 : n0 ≤ h29.size := Nat.le_trans Z0 (Keep.of_wr W29).1
    have K29 := Keep.wr (Keep.refl h0 [a0]) W29 (Or.inl (by simp))
    have N29 := Fr.snoc X29 N0 g_a0
    refine own_go (U' := T29.setTop (mkF m 57 #[.val (.ref a0), .val (.int p1), .val (.int p2), .val (.int p3), .val (.int p4)] [])) (fun _ k => st29 _ k) ?_
    refine own_go (U' := T29.setTop (mkF m 58 #[.val (.ref a0), .val (.int p1), .val (.int p2), .val (.int p3), .val (.int p4)] [(.ref a0)])) (fun _ k => XS.aloadN X29.here hx rfl (hb hby d3_57) rfl rfl k) ?_
    refine own_go (U' := T29.setTop (mkF m 59 #[.val (.ref a0), .val (.int p1), .val (.int p2), .val (.int p3), .val (.int p4)] [(.int p2), (.ref a0)])) (fun _ k => XS.iloadN X29.here hx rfl (hb hby d3_58) rfl k) ?_
    obtain ⟨T30, h30, X30, e30, W30, st30⟩ := putF X29 hx hZ hown (host := "") (Or.inl (hw _ (List.mem_of_getElem? (i := 21) rfl))) Via.refl e29 c29_2 c29_0 (Or.inr ⟨(hw _ (List.mem_of_getElem? (i := 22) rfl)), rfl, hnm⟩) (hw _ (List.mem_of_getElem? (i := 11) rfl)) (ty := .int) (by decide) rfl rfl (g := (mkF m 59 #[.val (.ref a0), .val (.int p1), .val (.int p2), .val (.int p3), .val (.int p4)] [(.int p2), (.ref a0)])) rfl rfl (hb hby d3_59)
    have c30_0 : Exa Z h30 a0 "com/example/layout_to_evidence/layouttoevidence/CellSpan" := c29_0.wr W30
    have c30_1 : Fld Z h30 a0 "com/example/layout_to_evidence/layouttoevidence/CellSpan" "startRow" "I" (.int p1) := w29.other W30 (Or.inr (slot_ne (Or.inr (hw _ (List.mem_of_getElem? (i := 20) rfl))) (Or.inr (hw _ (List.mem_of_getElem? (i := 22) rfl))) (by decide) (t := .int) (t' := .int) (by decide) (by decide)))
    have c30_3 : Fld Z h30 a0 "com/example/layout_to_evidence/layouttoevidence/CellSpan" "startColumn" "I" (.int (0 : Int32)) := c29_3.other W30 (Or.inr (slot_ne (Or.inr (hw _ (List.mem_of_getElem? (i := 24) rfl))) (Or.inr (hw _ (List.mem_of_getElem? (i := 22) rfl))) (by decide) (t := .int) (t' := .int) (by decide) (by decide)))
    have c30_4 : Fld Z h30 a0 "com/example/layout_to_evidence/layouttoevidence/CellSpan" "endColumn" "I" (.int (0 : Int32)) := c29_4.other W30 (Or.inr (slot_ne (Or.inr (hw _ (List.mem_of_getElem? (i := 26) rfl))) (Or.inr (hw _ (List.mem_of_getElem? (i := 22) rfl))) (by decide) (t := .int) (t' := .int) (by decide) (by decide)))
    have w30 : Fld Z h30 a0 "com/example/layout_to_evidence/layouttoevidence/CellSpan" "endRow" "I" (.int p2) := c29_2.same W30
    have Z30 : n0 ≤ h30.size := Nat.le_trans Z29 (Keep.of_wr W30).1
    have K30 := Keep.wr K29 W30 (Or.inl (by simp))
    have N30 := Fr.snoc X30 N29 g_a0
    refine own_go (U' := T30.setTop (mkF m 62 #[.val (.ref a0), .val (.int p1), .val (.int p2), .val (.int p3), .val (.int p4)] [])) (fun _ k => st30 _ k) ?_
    refine own_go (U' := T30.setTop (mkF m 63 #[.val (.ref a0), .val (.int p1), .val (.int p2), .val (.int p3), .val (.int p4)] [(.ref a0)])) (fun _ k => XS.aloadN X30.here hx rfl (hb hby d3_62) rfl rfl k) ?_
    refine own_go (U' := T30.setTop (mkF m 64 #[.val (.ref a0), .val (.int p1), .val (.int p2), .val (.int p3), .val (.int p4)] [(.int p3), (.ref a0)])) (fun _ k => XS.iloadN X30.here hx rfl (hb hby d3_63) rfl k) ?_
    obtain ⟨T31, h31, X31, e31, W31, st31⟩ := putF X30 hx hZ hown (host := "") (Or.inl (hw _ (List.mem_of_getElem? (i := 23) rfl))) Via.refl e30 c30_3 c30_0 (Or.inr ⟨(hw _ (List.mem_of_getElem? (i := 24) rfl)), rfl, hnm⟩) (hw _ (List.mem_of_getElem? (i := 11) rfl)) (ty := .int) (by decide) rfl rfl (g := (mkF m 64 #[.val (.ref a0), .val (.int p1), .val (.int p2), .val (.int p3), .val (.int p4)] [(.int p3), (.ref a0)])) rfl rfl (hb hby d3_64)
    have c31_0 : Exa Z h31 a0 "com/example/layout_to_evidence/layouttoevidence/CellSpan" := c30_0.wr W31
    have c31_1 : Fld Z h31 a0 "com/example/layout_to_evidence/layouttoevidence/CellSpan" "startRow" "I" (.int p1) := c30_1.other W31 (Or.inr (slot_ne (Or.inr (hw _ (List.mem_of_getElem? (i := 20) rfl))) (Or.inr (hw _ (List.mem_of_getElem? (i := 24) rfl))) (by decide) (t := .int) (t' := .int) (by decide) (by decide)))
    have c31_2 : Fld Z h31 a0 "com/example/layout_to_evidence/layouttoevidence/CellSpan" "endRow" "I" (.int p2) := w30.other W31 (Or.inr (slot_ne (Or.inr (hw _ (List.mem_of_getElem? (i := 22) rfl))) (Or.inr (hw _ (List.mem_of_getElem? (i := 24) rfl))) (by decide) (t := .int) (t' := .int) (by decide) (by decide)))
    have c31_4 : Fld Z h31 a0 "com/example/layout_to_evidence/layouttoevidence/CellSpan" "endColumn" "I" (.int (0 : Int32)) := c30_4.other W31 (Or.inr (slot_ne (Or.inr (hw _ (List.mem_of_getElem? (i := 26) rfl))) (Or.inr (hw _ (List.mem_of_getElem? (i := 24) rfl))) (by decide) (t := .int) (t' := .int) (by decide) (by decide)))
    have w31 : Fld Z h31 a0 "com/example/layout_to_evidence/layouttoevidence/CellSpan" "startColumn" "I" (.int p3) := c30_3.same W31
    have Z31 : n0 ≤ h31.size := Nat.le_trans Z30 (Keep.of_wr W31).1
    have K31 := Keep.wr K30 W31 (Or.inl (by simp))
    have N31 := Fr.snoc X31 N30 g_a0
    refine own_go (U' := T31.setTop (mkF m 67 #[.val (.ref a0), .val (.int p1), .val (.int p2), .val (.int p3), .val (.int p4)] [])) (fun _ k => st31 _ k) ?_
    refine own_go (U' := T31.setTop (mkF m 68 #[.val (.ref a0), .val (.int p1), .val (.int p2), .val (.int p3), .val (.int p4)] [(.ref a0)])) (fun _ k => XS.aloadN X31.here hx rfl (hb hby d3_67) rfl rfl k) ?_
    refine own_go (U' := T31.setTop (mkF m 70 #[.val (.ref a0), .val (.int p1), .val (.int p2), .val (.int p3), .val (.int p4)] [(.int p4), (.ref a0)])) (fun _ k => XS.iload X31.here hx rfl (hb hby d3_68) rfl k) ?_
    obtain ⟨T32, h32, X32, e32, W32, st32⟩ := putF X31 hx hZ hown (host := "") (Or.inl (hw _ (List.mem_of_getElem? (i := 25) rfl))) Via.refl e31 c31_4 c31_0 (Or.inr ⟨(hw _ (List.mem_of_getElem? (i := 26) rfl)), rfl, hnm⟩) (hw _ (List.mem_of_getElem? (i := 11) rfl)) (ty := .int) (by decide) rfl rfl (g := (mkF m 70 #[.val (.ref a0), .val (.int p1), .val (.int p2), .val (.int p3), .val (.int p4)] [(.int p4), (.ref a0)])) rfl rfl (hb hby d3_70)
    have c32_0 : Exa Z h32 a0 "com/example/layout_to_evidence/layouttoevidence/CellSpan" := c31_0.wr W32
    have c32_1 : Fld Z h32 a0 "com/example/layout_to_evidence/layouttoevidence/CellSpan" "startRow" "I" (.int p1) := c31_1.other W32 (Or.inr (slot_ne (Or.inr (hw _ (List.mem_of_getElem? (i := 20) rfl))) (Or.inr (hw _ (List.mem_of_getElem? (i := 26) rfl))) (by decide) (t := .int) (t' := .int) (by decide) (by decide)))
    have c32_2 : Fld Z h32 a0 "com/example/layout_to_evidence/layouttoevidence/CellSpan" "endRow" "I" (.int p2) := c31_2.other W32 (Or.inr (slot_ne (Or.inr (hw _ (List.mem_of_getElem? (i := 22) rfl))) (Or.inr (hw _ (List.mem_of_getElem? (i := 26) rfl))) (by decide) (t := .int) (t' := .int) (by decide) (by decide)))
    have c32_3 : Fld Z h32 a0 "com/example/layout_to_evidence/layouttoevidence/CellSpan" "startColumn" "I" (.int p3) := w31.other W32 (Or.inr (slot_ne (Or.inr (hw _ (List.mem_of_getElem? (i := 24) rfl))) (Or.inr (hw _ (List.mem_of_getElem? (i := 26) rfl))) (by decide) (t := .int) (t' := .int) (by decide) (by decide)))
    have w32 : Fld Z h32 a0 "com/example/layout_to_evidence/layouttoevidence/CellSpan" "endColumn" "I" (.int p4) := c31_4.same W32
    have Z32 : n0 ≤ h32.size := Nat.le_trans Z31 (Keep.of_wr W32).1
    have K32 := Keep.wr K31 W32 (Or.inl (by simp))
    have N32 := Fr.snoc X32 N31 g_a0
    refine own_go (U' := T32.setTop (mkF m 73 #[.val (.ref a0), .val (.int p1), .val (.int p2), .val (.int p3), .val (.int p4)] [])) (fun _ k => st32 _ k) ?_
    refine own_ret X32 (v := none) hlk (fun _ => rfl) (by decide) (by decide) (fun fs hr => X32.returnOut hx Bd.returns (hb hby d3_73) hr) ?_
    show (Q3 Z a0 p1 p2 p3 p4 h0 n0) _ T32.heap _
    rw [e32]
    exact ⟨rfl, N32, K32, c32_0, c32_1, c32_2, c32_3, w32⟩
  · refine own_go (U' := T26.setTop (mkF m 52 #[.val (.ref a0), .val (.int p1), .val (.int p2), .val (.int p3), .val (.int p4)] [])) (fun _ k => XS.icmpYes X26.here hx rfl (pc0 := 25) (pc' := 52) rfl (hb hby d3_25) rfl (feq hc25_27).2 (by decide) (by decide) k) ?_
    refine own_go (U' := T26.setTop (mkF m 53 #[.val (.ref a0), .val (.int p1), .val (.int p2), .val (.int p3), .val (.int p4)] [(.ref a0)])) (fun _ k => XS.aloadN X26.here hx rfl (hb hby d3_52) rfl rfl k) ?_
    refine own_go (U' := T26.setTop (mkF m 54 #[.val (.ref a0), .val (.int p1), .val (.int p2), .val (.int p3), .val (.int p4)] [(.int p1), (.ref a0)])) (fun _ k => XS.iloadN X26.here hx rfl (hb hby d3_53) rfl k) ?_
    obtain ⟨T33, h33, X33, e33, W33, st33⟩ := putF X26 hx hZ hown (host := "") (Or.inl (hw _ (List.mem_of_getElem? (i := 19) rfl))) Via.refl e26 F_0 E_a (Or.inr ⟨(hw _ (List.mem_of_getElem? (i := 20) rfl)), rfl, hnm⟩) (hw _ (List.mem_of_getElem? (i := 11) rfl)) (ty := .int) (by decide) rfl rfl (g := (mkF m 54 #[.val (.ref a0), .val (.int p1), .val (.int p2), .val (.int p3), .val (.int p4)] [(.int p1), (.ref a0)])) rfl rfl (hb hby d3_54)
    have c33_0 : Exa Z h33 a0 "com/example/layout_to_evidence/layouttoevidence/CellSpan" := E_a.wr W33
    have c33_2 : Fld Z h33 a0 "com/example/layout_to_evidence/layouttoevidence/CellSpan" "endRow" "I" (.int (0 : Int32)) := F_1.other W33 (Or.inr (slot_ne (Or.inr (hw _ (List.mem_of_getElem? (i := 22) rfl))) (Or.inr (hw _ (List.mem_of_getElem? (i := 20) rfl))) (by decide) (t := .int) (t' := .int) (by decide) (by decide)))
    have c33_3 : Fld Z h33 a0 "com/example/layout_to_evidence/layouttoevidence/CellSpan" "startColumn" "I" (.int (0 : Int32)) := F_2.other W33 (Or.inr (slot_ne (Or.inr (hw _ (List.mem_of_getElem? (i := 24) rfl))) (Or.inr (hw _ (List.mem_of_getElem? (i := 20) rfl))) (by decide) (t := .int) (t' := .int) (by decide) (by decide)))
    have c33_4 : Fld Z h33 a0 "com/example/layout_to_evidence/layouttoevidence/CellSpan" "endColumn" "I" (.int (0 : Int32)) := F_3.other W33 (Or.inr (slot_ne (Or.inr (hw _ (List.mem_of_getElem? (i := 26) rfl))) (Or.inr (hw _ (List.mem_of_getElem? (i := 20) rfl))) (by decide) (t := .int) (t' := .int) (by decide) (by decide)))
    have w33 : Fld Z h33 a0 "com/example/layout_to_evidence/layouttoevidence/CellSpan" "startRow" "I" (.int p1) := F_0.same W33
    have Z33 : n0 ≤ h33.size := Nat.le_trans Z0 (Keep.of_wr W33).1
    have K33 := Keep.wr (Keep.refl h0 [a0]) W33 (Or.inl (by simp))
    have N33 := Fr.snoc X33 N0 g_a0
    refine own_go (U' := T33.setTop (mkF m 57 #[.val (.ref a0), .val (.int p1), .val (.int p2), .val (.int p3), .val (.int p4)] [])) (fun _ k => st33 _ k) ?_
    refine own_go (U' := T33.setTop (mkF m 58 #[.val (.ref a0), .val (.int p1), .val (.int p2), .val (.int p3), .val (.int p4)] [(.ref a0)])) (fun _ k => XS.aloadN X33.here hx rfl (hb hby d3_57) rfl rfl k) ?_
    refine own_go (U' := T33.setTop (mkF m 59 #[.val (.ref a0), .val (.int p1), .val (.int p2), .val (.int p3), .val (.int p4)] [(.int p2), (.ref a0)])) (fun _ k => XS.iloadN X33.here hx rfl (hb hby d3_58) rfl k) ?_
    obtain ⟨T34, h34, X34, e34, W34, st34⟩ := putF X33 hx hZ hown (host := "") (Or.inl (hw _ (List.mem_of_getElem? (i := 21) rfl))) Via.refl e33 c33_2 c33_0 (Or.inr ⟨(hw _ (List.mem_of_getElem? (i := 22) rfl)), rfl, hnm⟩) (hw _ (List.mem_of_getElem? (i := 11) rfl)) (ty := .int) (by decide) rfl rfl (g := (mkF m 59 #[.val (.ref a0), .val (.int p1), .val (.int p2), .val (.int p3), .val (.int p4)] [(.int p2), (.ref a0)])) rfl rfl (hb hby d3_59)
    have c34_0 : Exa Z h34 a0 "com/example/layout_to_evidence/layouttoevidence/CellSpan" := c33_0.wr W34
    have c34_1 : Fld Z h34 a0 "com/example/layout_to_evidence/layouttoevidence/CellSpan" "startRow" "I" (.int p1) := w33.other W34 (Or.inr (slot_ne (Or.inr (hw _ (List.mem_of_getElem? (i := 20) rfl))) (Or.inr (hw _ (List.mem_of_getElem? (i := 22) rfl))) (by decide) (t := .int) (t' := .int) (by decide) (by decide)))
    have c34_3 : Fld Z h34 a0 "com/example/layout_to_evidence/layouttoevidence/CellSpan" "startColumn" "I" (.int (0 : Int32)) := c33_3.other W34 (Or.inr (slot_ne (Or.inr (hw _ (List.mem_of_getElem? (i := 24) rfl))) (Or.inr (hw _ (List.mem_of_getElem? (i := 22) rfl))) (by decide) (t := .int) (t' := .int) (by decide) (by decide)))
    have c34_4 : Fld Z h34 a0 "com/example/layout_to_evidence/layouttoevidence/CellSpan" "endColumn" "I" (.int (0 : Int32)) := c33_4.other W34 (Or.inr (slot_ne (Or.inr (hw _ (List.mem_of_getElem? (i := 26) rfl))) (Or.inr (hw _ (List.mem_of_getElem? (i := 22) rfl))) (by decide) (t := .int) (t' := .int) (by decide) (by decide)))
    have w34 : Fld Z h34 a0 "com/example/layout_to_evidence/layouttoevidence/CellSpan" "endRow" "I" (.int p2) := c33_2.same W34
    have Z34 : n0 ≤ h34.size := Nat.le_trans Z33 (Keep.of_wr W34).1
    have K34 := Keep.wr K33 W34 (Or.inl (by simp))
    have N34 := Fr.snoc X34 N33 g_a0
    refine own_go (U' := T34.setTop (mkF m 62 #[.val (.ref a0), .val (.int p1), .val (.int p2), .val (.int p3), .val (.int p4)] [])) (fun _ k => st34 _ k) ?_
    refine own_go (U' := T34.setTop (mkF m 63 #[.val (.ref a0), .val (.int p1), .val (.int p2), .val (.int p3), .val (.int p4)] [(.ref a0)])) (fun _ k => XS.aloadN X34.here hx rfl (hb hby d3_62) rfl rfl k) ?_
    refine own_go (U' := T34.setTop (mkF m 64 #[.val (.ref a0), .val (.int p1), .val (.int p2), .val (.int p3), .val (.int p4)] [(.int p3), (.ref a0)])) (fun _ k => XS.iloadN X34.here hx rfl (hb hby d3_63) rfl k) ?_
    obtain ⟨T35, h35, X35, e35, W35, st35⟩ := putF X34 hx hZ hown (host := "") (Or.inl (hw _ (List.mem_of_getElem? (i := 23) rfl))) Via.refl e34 c34_3 c34_0 (Or.inr ⟨(hw _ (List.mem_of_getElem? (i := 24) rfl)), rfl, hnm⟩) (hw _ (List.mem_of_getElem? (i := 11) rfl)) (ty := .int) (by decide) rfl rfl (g := (mkF m 64 #[.val (.ref a0), .val (.int p1), .val (.int p2), .val (.int p3), .val (.int p4)] [(.int p3), (.ref a0)])) rfl rfl (hb hby d3_64)
    have c35_0 : Exa Z h35 a0 "com/example/layout_to_evidence/layouttoevidence/CellSpan" := c34_0.wr W35
    have c35_1 : Fld Z h35 a0 "com/example/layout_to_evidence/layouttoevidence/CellSpan" "startRow" "I" (.int p1) := c34_1.other W35 (Or.inr (slot_ne (Or.inr (hw _ (List.mem_of_getElem? (i := 20) rfl))) (Or.inr (hw _ (List.mem_of_getElem? (i := 24) rfl))) (by decide) (t := .int) (t' := .int) (by decide) (by decide)))
    have c35_2 : Fld Z h35 a0 "com/example/layout_to_evidence/layouttoevidence/CellSpan" "endRow" "I" (.int p2) := w34.other W35 (Or.inr (slot_ne (Or.inr (hw _ (List.mem_of_getElem? (i := 22) rfl))) (Or.inr (hw _ (List.mem_of_getElem? (i := 24) rfl))) (by decide) (t := .int) (t' := .int) (by decide) (by decide)))
    have c35_4 : Fld Z h35 a0 "com/example/layout_to_evidence/layouttoevidence/CellSpan" "endColumn" "I" (.int (0 : Int32)) := c34_4.other W35 (Or.inr (slot_ne (Or.inr (hw _ (List.mem_of_getElem? (i := 26) rfl))) (Or.inr (hw _ (List.mem_of_getElem? (i := 24) rfl))) (by decide) (t := .int) (t' := .int) (by decide) (by decide)))
    have w35 : Fld Z h35 a0 "com/example/layout_to_evidence/layouttoevidence/CellSpan" "startColumn" "I" (.int p3) := c34_3.same W35
    have Z35 : n0 ≤ h35.size := Nat.le_trans Z34 (Keep.of_wr W35).1
    have K35 := Keep.wr K34 W35 (Or.inl (by simp))
    have N35 := Fr.snoc X35 N34 g_a0
    refine own_go (U' := T35.setTop (mkF m 67 #[.val (.ref a0), .val (.int p1), .val (.int p2), .val (.int p3), .val (.int p4)] [])) (fun _ k => st35 _ k) ?_
    refine own_go (U' := T35.setTop (mkF m 68 #[.val (.ref a0), .val (.int p1), .val (.int p2), .val (.int p3), .val (.int p4)] [(.ref a0)])) (fun _ k => XS.aloadN X35.here hx rfl (hb hby d3_67) rfl rfl k) ?_
    refine own_go (U' := T35.setTop (mkF m 70 #[.val (.ref a0), .val (.int p1), .val (.int p2), .val (.int p3), .val (.int p4)] [(.int p4), (.ref a0)])) (fun _ k => XS.iload X35.here hx rfl (hb hby d3_68) rfl k) ?_
    obtain ⟨T36, h36, X36, e36, W36, st36⟩ := putF X35 hx hZ hown (host := "") (Or.inl (hw _ (List.mem_of_getElem? (i := 25) rfl))) Via.refl e35 c35_4 c35_0 (Or.inr ⟨(hw _ (List.mem_of_getElem? (i := 26) rfl)), rfl, hnm⟩) (hw _ (List.mem_of_getElem? (i := 11) rfl)) (ty := .int) (by decide) rfl rfl (g := (mkF m 70 #[.val (.ref a0), .val (.int p1), .val (.int p2), .val (.int p3), .val (.int p4)] [(.int p4), (.ref a0)])) rfl rfl (hb hby d3_70)
    have c36_0 : Exa Z h36 a0 "com/example/layout_to_evidence/layouttoevidence/CellSpan" := c35_0.wr W36
    have c36_1 : Fld Z h36 a0 "com/example/layout_to_evidence/layouttoevidence/CellSpan" "startRow" "I" (.int p1) := c35_1.other W36 (Or.inr (slot_ne (Or.inr (hw _ (List.mem_of_getElem? (i := 20) rfl))) (Or.inr (hw _ (List.mem_of_getElem? (i := 26) rfl))) (by decide) (t := .int) (t' := .int) (by decide) (by decide)))
    have c36_2 : Fld Z h36 a0 "com/example/layout_to_evidence/layouttoevidence/CellSpan" "endRow" "I" (.int p2) := c35_2.other W36 (Or.inr (slot_ne (Or.inr (hw _ (List.mem_of_getElem? (i := 22) rfl))) (Or.inr (hw _ (List.mem_of_getElem? (i := 26) rfl))) (by decide) (t := .int) (t' := .int) (by decide) (by decide)))
    have c36_3 : Fld Z h36 a0 "com/example/layout_to_evidence/layouttoevidence/CellSpan" "startColumn" "I" (.int p3) := w35.other W36 (Or.inr (slot_ne (Or.inr (hw _ (List.mem_of_getElem? (i := 24) rfl))) (Or.inr (hw _ (List.mem_of_getElem? (i := 26) rfl))) (by decide) (t := .int) (t' := .int) (by decide) (by decide)))
    have w36 : Fld Z h36 a0 "com/example/layout_to_evidence/layouttoevidence/CellSpan" "endColumn" "I" (.int p4) := c35_4.same W36
    have Z36 : n0 ≤ h36.size := Nat.le_trans Z35 (Keep.of_wr W36).1
    have K36 := Keep.wr K35 W36 (Or.inl (by simp))
    have N36 := Fr.snoc X36 N35 g_a0
    refine own_go (U' := T36.setTop (mkF m 73 #[.val (.ref a0), .val (.int p1), .val (.int p2), .val (.int p3), .val (.int p4)] [])) (fun _ k => st36 _ k) ?_
    refine own_ret X36 (v := none) hlk (fun _ => rfl) (by decide) (by decide) (fun fs hr => X36.returnOut hx Bd.returns (hb hby d3_73) hr) ?_
    show (Q3 Z a0 p1 p2 p3 p4 h0 n0) _ T36.heap _
    rw [e36]
    exact ⟨rfl, N36, K36, c36_0, c36_1, c36_2, c36_3, w36⟩
theorem d5_0 : decode prog_6_method_6_code 0 = .ok (.aload_n 1, 1) := by decide +kernel
theorem d5_1 : decode prog_6_method_6_code 1 = .ok (.instanceof 17, 3) := by decide +kernel
theorem d5_4 : decode prog_6_method_6_code 4 = .ok (.ifCond .eq 56, 3) := by decide +kernel
theorem d5_7 : decode prog_6_method_6_code 7 = .ok (.aload_n 1, 1) := by decide +kernel
theorem d5_8 : decode prog_6_method_6_code 8 = .ok (.checkcast 17, 3) := by decide +kernel
theorem d5_11 : decode prog_6_method_6_code 11 = .ok (.astore_n 2, 1) := by decide +kernel
theorem d5_12 : decode prog_6_method_6_code 12 = .ok (.aload_n 2, 1) := by decide +kernel
theorem d5_13 : decode prog_6_method_6_code 13 = .ok (.getfield 16, 3) := by decide +kernel
theorem d5_16 : decode prog_6_method_6_code 16 = .ok (.aload_n 0, 1) := by decide +kernel
theorem d5_17 : decode prog_6_method_6_code 17 = .ok (.getfield 16, 3) := by decide +kernel
theorem d5_20 : decode prog_6_method_6_code 20 = .ok (.if_icmp .ne 40, 3) := by decide +kernel
theorem d5_23 : decode prog_6_method_6_code 23 = .ok (.aload_n 2, 1) := by decide +kernel
theorem d5_24 : decode prog_6_method_6_code 24 = .ok (.getfield 22, 3) := by decide +kernel
theorem d5_27 : decode prog_6_method_6_code 27 = .ok (.aload_n 0, 1) := by decide +kernel
theorem d5_28 : decode prog_6_method_6_code 28 = .ok (.getfield 22, 3) := by decide +kernel
theorem d5_31 : decode prog_6_method_6_code 31 = .ok (.if_icmp .ne 29, 3) := by decide +kernel
theorem d5_34 : decode prog_6_method_6_code 34 = .ok (.aload_n 2, 1) := by decide +kernel
theorem d5_35 : decode prog_6_method_6_code 35 = .ok (.getfield 25, 3) := by decide +kernel
theorem d5_38 : decode prog_6_method_6_code 38 = .ok (.aload_n 0, 1) := by decide +kernel
theorem d5_39 : decode prog_6_method_6_code 39 = .ok (.getfield 25, 3) := by decide +kernel
theorem d5_42 : decode prog_6_method_6_code 42 = .ok (.if_icmp .ne 18, 3) := by decide +kernel
theorem d5_45 : decode prog_6_method_6_code 45 = .ok (.aload_n 2, 1) := by decide +kernel
theorem d5_46 : decode prog_6_method_6_code 46 = .ok (.getfield 28, 3) := by decide +kernel
theorem d5_49 : decode prog_6_method_6_code 49 = .ok (.aload_n 0, 1) := by decide +kernel
theorem d5_50 : decode prog_6_method_6_code 50 = .ok (.getfield 28, 3) := by decide +kernel
theorem d5_53 : decode prog_6_method_6_code 53 = .ok (.if_icmp .ne 7, 3) := by decide +kernel
theorem d5_56 : decode prog_6_method_6_code 56 = .ok (.iconst 1, 1) := by decide +kernel
theorem d5_57 : decode prog_6_method_6_code 57 = .ok (.goto 4, 3) := by decide +kernel
theorem d5_61 : decode prog_6_method_6_code 61 = .ok (.ireturn, 1) := by decide +kernel
theorem d5_60 : decode prog_6_method_6_code 60 = .ok (.iconst 0, 1) := by decide +kernel
theorem own_ef5 (m : MethodId) (x0 : Addr) (x1 : Addr) : entryFrame m #[(.ref x0), (.ref x1)] 3 = mkF m 0 #[.val (.ref x0), .val (.ref x1), .unset] [] := by first | (simp [entryFrame, mkF, argsToLocals, Value.category]; done) | rfl
def f_5 (a0 : Addr) (a1 : Addr) (r0 : Int32) (r1 : Int32) (r2 : Int32) (r3 : Int32) (o0 : Int32) (o1 : Int32) (o2 : Int32) (o3 : Int32) : Int32 := (if o0 = r0 then (if o1 = r1 then (if o2 = r2 then (if o3 = r3 then (1 : Int32) else (0 : Int32)) else (0 : Int32)) else (0 : Int32)) else (0 : Int32))
def Q5 (Z : State) (a0 : Addr) (a1 : Addr) (r0 : Int32) (r1 : Int32) (r2 : Int32) (r3 : Int32) (o0 : Int32) (o1 : Int32) (o2 : Int32) (o3 : Int32) (h0 : Heap) (n0 : Nat) (v : Option Value) (h : Heap) (L : List Loc) : Prop := v = some (.int (f_5 a0 a1 r0 r1 r2 r3 o0 o1 o2 o3)) ∧ Fr n0 L ∧ h = h0
set_option maxRecDepth 65536 in
set_option maxHeartbeats 40000000 in
theorem rm5 (l : Launch) (Z : State) (aw : Array Value) (hw : ∀ d ∈ tables_1, d.before aw Z = true) (ws : List Jvm.Cond) (a0 : Addr) (a1 : Addr) (r0 : Int32) (r1 : Int32) (r2 : Int32) (r3 : Int32) (o0 : Int32) (o1 : Int32) (o2 : Int32) (o3 : Int32) (h0 : Heap) (n0 : Nat) (Z0 : n0 ≤ h0.size) (E_b : Exa Z h0 a1 "com/example/layout_to_evidence/layouttoevidence/CellSpan") (F_0 : Fld Z h0 a0 "com/example/layout_to_evidence/layouttoevidence/CellSpan" "startRow" "I" (.int r0)) (F_1 : Fld Z h0 a0 "com/example/layout_to_evidence/layouttoevidence/CellSpan" "endRow" "I" (.int r1)) (F_2 : Fld Z h0 a0 "com/example/layout_to_evidence/layouttoevidence/CellSpan" "startColumn" "I" (.int r2)) (F_3 : Fld Z h0 a0 "com/example/layout_to_evidence/layouttoevidence/CellSpan" "endColumn" "I" (.int r3)) (G_0 : Fld Z h0 a1 "com/example/layout_to_evidence/layouttoevidence/CellSpan" "startRow" "I" (.int o0)) (G_1 : Fld Z h0 a1 "com/example/layout_to_evidence/layouttoevidence/CellSpan" "endRow" "I" (.int o1)) (G_2 : Fld Z h0 a1 "com/example/layout_to_evidence/layouttoevidence/CellSpan" "startColumn" "I" (.int o2)) (G_3 : Fld Z h0 a1 "com/example/layout_to_evidence/layouttoevidence/CellSpan" "endColumn" "I" (.int o3)) :
    MetFree l (⟨"com/example/layout_to_evidence/layouttoevidence/CellSpan", "equals", "(Ljava/lang/Object;)Z"⟩ : MethodName) (head1 (Jvm.Cond.code (⟨"com/example/layout_to_evidence/layouttoevidence/CellSpan", "equals", "(Ljava/lang/Object;)Z"⟩ : MethodName) prog_6_method_6_code 3 (some .boolean) :: ws) ({ frames := 0, cells := 0, slots := 0, locals := 0 } : Room)) (fun a U => a = #[(.ref a0), (.ref a1)] ∧ Z.Warmed39 U.vm ∧ U.heap = h0) (fun _ _ _ _ _ => True) (fun _ U o U' => ∃ v L, o = .returned v ∧ (Q5 Z a0 a1 r0 r1 r2 r3 o0 o1 o2 o3 h0 n0) v U'.heap L ∧ FrameEnd U o U' L ({ frames := 0, cells := 0, slots := 0, locals := 0 } : Room).cells ({ frames := 0, cells := 0, slots := 0, locals := 0 } : Room).slots) := by
  refine MetFree.of_bodySF (plainFor_of_name own_pn1) hisR ?_
  intro p e s m args below meth c s₁ Bd hml0 hP hK
  obtain ⟨rfl, hZ, hh⟩ := hP
  have hx := Bd.exec
  have hby := Bd.bytes
  have hml : c.maxLocals = 3 := hml0
  have hown : s.vm.findClass "com/example/layout_to_evidence/layouttoevidence/CellSpan" = some m.cls := findClass_of_methodNamed Bd.named
  have hnm := (name_of_methodNamed Bd.named Bd.method).1
  have hlk : meth.locks = false := BodyLoose.notSynchronized (by assumption)
  have X0 : Stand p l e ({ frames := 0, cells := 0, slots := 0, locals := 0 } : Room) s m #[(.ref a0), (.ref a1)] below meth c s₁ [] 0 0 := Stand.of_body Bd
  have e0 : s₁.heap = h0 := by rw [← hh, Bd.state]; rfl
  have N0 := Fr.nil n0
  show own_Done p e below s (Q5 Z a0 a1 r0 r1 r2 r3 o0 o1 o2 o3 h0 n0) ({ frames := 0, cells := 0, slots := 0, locals := 0 } : Room).cells ({ frames := 0, cells := 0, slots := 0, locals := 0 } : Room).slots (s₁.setTop (entryFrame m #[(.ref a0), (.ref a1)] 3))
  refine own_go (U' := s₁.setTop (mkF m 0 #[.val (.ref a0), .val (.ref a1), .unset] [])) (fun _ k => castTop (own_ef5 m a0 a1) k) ?_
  refine own_go (U' := s₁.setTop (mkF m 1 #[.val (.ref a0), .val (.ref a1), .unset] [(.ref a1)])) (fun _ k => XS.aloadN X0.here hx rfl (hb hby d5_0) rfl rfl k) ?_
  obtain ⟨T37, X37, e37, st37⟩ := instY X0 hx hZ hown (hw _ (List.mem_of_getElem? (i := 32) rfl)) e0 (Ins.self E_b) (g := (mkF m 1 #[.val (.ref a0), .val (.ref a1), .unset] [(.ref a1)])) rfl rfl (hb hby d5_1)
  refine own_go (U' := T37.setTop (mkF m 4 #[.val (.ref a0), .val (.ref a1), .unset] [(.int (1 : Int32))])) (fun _ k => st37 _ k) ?_
  refine own_go (U' := T37.setTop (mkF m 7 #[.val (.ref a0), .val (.ref a1), .unset] [])) (fun _ k => XS.ifNo X37.here hx rfl (hb hby d5_4) rfl ((if0 _ _).trans (feq (by decide : ¬ ((1 : Int32) = (0 : Int32)))).1) k) ?_
  refine own_go (U' := T37.setTop (mkF m 8 #[.val (.ref a0), .val (.ref a1), .unset] [(.ref a1)])) (fun _ k => XS.aloadN X37.here hx rfl (hb hby d5_7) rfl rfl k) ?_
  obtain ⟨T38, X38, e38, st38⟩ := castY X37 hx hZ hown (hw _ (List.mem_of_getElem? (i := 32) rfl)) e37 (Ins.self E_b) (g := (mkF m 8 #[.val (.ref a0), .val (.ref a1), .unset] [(.ref a1)])) rfl rfl (hb hby d5_8)
  refine own_go (U' := T38.setTop (mkF m 11 #[.val (.ref a0), .val (.ref a1), .unset] [(.ref a1)])) (fun _ k => st38 _ k) ?_
  refine own_go (U' := T38.setTop (mkF m 12 #[.val (.ref a0), .val (.ref a1), .val (.ref a1)] [])) (fun _ k => XS.astoreN X38.here hx rfl (hb hby d5_11) rfl rfl (l' := #[.val (.ref a0), .val (.ref a1), .val (.ref a1)]) rfl k) ?_
  refine own_go (U' := T38.setTop (mkF m 13 #[.val (.ref a0), .val (.ref a1), .val (.ref a1)] [(.ref a1)])) (fun _ k => XS.aloadN X38.here hx rfl (hb hby d5_12) rfl rfl k) ?_
  obtain ⟨T39, X39, e39, st39⟩ := getF X38 hx hZ hown (host := "") (Or.inl (hw _ (List.mem_of_getElem? (i := 19) rfl))) Via.refl e38 G_0 (g := (mkF m 13 #[.val (.ref a0), .val (.ref a1), .val (.ref a1)] [(.ref a1)])) rfl rfl (hb hby d5_13)
  refine own_go (U' := T39.setTop (mkF m 16 #[.val (.ref a0), .val (.ref a1), .val (.ref a1)] [(.int o0)])) (fun _ k => st39 _ k) ?_
  refine own_go (U' := T39.setTop (mkF m 17 #[.val (.ref a0), .val (.ref a1), .val (.ref a1)] [(.ref a0), (.int o0)])) (fun _ k => XS.aloadN X39.here hx rfl (hb hby d5_16) rfl rfl k) ?_
  obtain ⟨T40, X40, e40, st40⟩ := getF X39 hx hZ hown (host := "") (Or.inl (hw _ (List.mem_of_getElem? (i := 19) rfl))) Via.refl e39 F_0 (g := (mkF m 17 #[.val (.ref a0), .val (.ref a1), .val (.ref a1)] [(.ref a0), (.int o0)])) rfl rfl (hb hby d5_17)
  refine own_go (U' := T40.setTop (mkF m 20 #[.val (.ref a0), .val (.ref a1), .val (.ref a1)] [(.int r0), (.int o0)])) (fun _ k => st40 _ k) ?_
  by_cases hc20_41 : o0 = r0
  · refine own_go (U' := T40.setTop (mkF m 23 #[.val (.ref a0), .val (.ref a1), .val (.ref a1)] [])) (fun _ k => XS.icmpNo X40.here hx rfl (hb hby d5_20) rfl (teq hc20_41).2 k) ?_
    refine own_go (U' := T40.setTop (mkF m 24 #[.val (.ref a0), .val (.ref a1), .val (.ref a1)] [(.ref a1)])) (fun _ k => XS.aloadN X40.here hx rfl (hb hby d5_23) rfl rfl k) ?_
    obtain ⟨T42, X42, e42, st42⟩ := getF X40 hx hZ hown (host := "") (Or.inl (hw _ (List.mem_of_getElem? (i := 21) rfl))) Via.refl e40 G_1 (g := (mkF m 24 #[.val (.ref a0), .val (.ref a1), .val (.ref a1)] [(.ref a1)])) rfl rfl (hb hby d5_24)
    refine own_go (U' := T42.setTop (mkF m 27 #[.val (.ref a0), .val (.ref a1), .val (.ref a1)] [(.int o1)])) (fun _ k => st42 _ k) ?_
    refine own_go (U' := T42.setTop (mkF m 28 #[.val (.ref a0), .val (.ref a1), .val (.ref a1)] [(.ref a0), (.int o1)])) (fun _ k => XS.aloadN X42.here hx rfl (hb hby d5_27) rfl rfl k) ?_
    obtain ⟨T43, X43, e43, st43⟩ := getF X42 hx hZ hown (host := "") (Or.inl (hw _ (List.mem_of_getElem? (i := 21) rfl))) Via.refl e42 F_1 (g := (mkF m 28 #[.val (.ref a0), .val (.ref a1), .val (.ref a1)] [(.ref a0), (.int o1)])) rfl rfl (hb hby d5_28)
    refine own_go (U' := T43.setTop (mkF m 31 #[.val (.ref a0), .val (.ref a1), .val (.ref a1)] [(.int r1), (.int o1)])) (fun _ k => st43 _ k) ?_
    by_cases hc31_44 : o1 = r1
    · refine own_go (U' := T43.setTop (mkF m 34 #[.val (.ref a0), .val (.ref a1), .val (.ref a1)] [])) (fun _ k => XS.icmpNo X43.here hx rfl (hb hby d5_31) rfl (teq hc31_44).2 k) ?_
      refine own_go (U' := T43.setTop (mkF m 35 #[.val (.ref a0), .val (.ref a1), .val (.ref a1)] [(.ref a1)])) (fun _ k => XS.aloadN X43.here hx rfl (hb hby d5_34) rfl rfl k) ?_
      obtain ⟨T45, X45, e45, st45⟩ := getF X43 hx hZ hown (host := "") (Or.inl (hw _ (List.mem_of_getElem? (i := 23) rfl))) Via.refl e43 G_2 (g := (mkF m 35 #[.val (.ref a0), .val (.ref a1), .val (.ref a1)] [(.ref a1)])) rfl rfl (hb hby d5_35)
      refine own_go (U' := T45.setTop (mkF m 38 #[.val (.ref a0), .val (.ref a1), .val (.ref a1)] [(.int o2)])) (fun _ k => st45 _ k) ?_
      refine own_go (U' := T45.setTop (mkF m 39 #[.val (.ref a0), .val (.ref a1), .val (.ref a1)] [(.ref a0), (.int o2)])) (fun _ k => XS.aloadN X45.here hx rfl (hb hby d5_38) rfl rfl k) ?_
      obtain ⟨T46, X46, e46, st46⟩ := getF X45 hx hZ hown (host := "") (Or.inl (hw _ (List.mem_of_getElem? (i := 23) rfl))) Via.refl e45 F_2 (g := (mkF m 39 #[.val (.ref a0), .val (.ref a1), .val (.ref a1)] [(.ref a0), (.int o2)])) rfl rfl (hb hby d5_39)
      refine own_go (U' := T46.setTop (mkF m 42 #[.val (.ref a0), .val (.ref a1), .val (.ref a1)] [(.int r2), (.int o2)])) (fun _ k => st46 _ k) ?_
      by_cases hc42_47 : o2 = r2
      · refine own_go (U' := T46.setTop (mkF m 45 #[.val (.ref a0), .val (.ref a1), .val (.ref a1)] [])) (fun _ k => XS.icmpNo X46.here hx rfl (hb hby d5_42) rfl (teq hc42_47).2 k) ?_
        refine own_go (U' := T46.setTop (mkF m 46 #[.val (.ref a0), .val (.ref a1), .val (.ref a1)] [(.ref a1)])) (fun _ k => XS.aloadN X46.here hx rfl (hb hby d5_45) rfl rfl k) ?_
        obtain ⟨T48, X48, e48, st48⟩ := getF X46 hx hZ hown (host := "") (Or.inl (hw _ (List.mem_of_getElem? (i := 25) rfl))) Via.refl e46 G_3 (g := (mkF m 46 #[.val (.ref a0), .val (.ref a1), .val (.ref a1)] [(.ref a1)])) rfl rfl (hb hby d5_46)
        refine own_go (U' := T48.setTop (mkF m 49 #[.val (.ref a0), .val (.ref a1), .val (.ref a1)] [(.int o3)])) (fun _ k => st48 _ k) ?_
        refine own_go (U' := T48.setTop (mkF m 50 #[.val (.ref a0), .val (.ref a1), .val (.ref a1)] [(.ref a0), (.int o3)])) (fun _ k => XS.aloadN X48.here hx rfl (hb hby d5_49) rfl rfl k) ?_
        obtain ⟨T49, X49, e49, st49⟩ := getF X48 hx hZ hown (host := "") (Or.inl (hw _ (List.mem_of_getElem? (i := 25) rfl))) Via.refl e48 F_3 (g := (mkF m 50 #[.val (.ref a0), .val (.ref a1), .val (.ref a1)] [(.ref a0), (.int o3)])) rfl rfl (hb hby d5_50)
        refine own_go (U' := T49.setTop (mkF m 53 #[.val (.ref a0), .val (.ref a1), .val (.ref a1)] [(.int r3), (.int o3)])) (fun _ k => st49 _ k) ?_
        by_cases hc53_50 : o3 = r3
        · refine own_go (U' := T49.setTop (mkF m 56 #[.val (.ref a0), .val (.ref a1), .val (.ref a1)] [])) (fun _ k => XS.icmpNo X49.here hx rfl (hb hby d5_53) rfl (teq hc53_50).2 k) ?_
          refine own_go (U' := T49.setTop (mkF m 57 #[.val (.ref a0), .val (.ref a1), .val (.ref a1)] [(.int (1 : Int32))])) (fun _ k => XS.iconst X49.here hx rfl (hb hby d5_56) k) ?_
          refine own_go (U' := T49.setTop (mkF m 61 #[.val (.ref a0), .val (.ref a1), .val (.ref a1)] [(.int (1 : Int32))])) (fun _ k => XS.goto X49.here hx rfl (pc0 := 57) (pc' := 61) rfl (hb hby d5_57) (by decide) (by decide) k) ?_
          refine own_ret X49 (v := (some (.int (1 : Int32)))) hlk (fun h => by rw [Bd.returns] at h; cases h) (by decide) (by decide) (fun fs hr => retN X49 hx (t := .boolean) Bd.returns (by simp) (hb hby d5_61) hr) ?_
          show (Q5 Z a0 a1 r0 r1 r2 r3 o0 o1 o2 o3 h0 n0) _ T49.heap _
          rw [e49]
          exact ⟨by first | (simp only [f_5, if_pos hc20_41, if_pos hc31_44, if_pos hc42_47, if_pos hc53_50]; done) | rfl | (simp [f_5, if_pos hc20_41, if_pos hc31_44, if_pos hc42_47, if_pos hc53_50]; done), N0, rfl⟩
        · refine own_go (U' := T49.setTop (mkF m 60 #[.val (.ref a0), .val (.ref a1), .val (.ref a1)] [])) (fun _ k => XS.icmpYes X49.here hx rfl (pc0 := 53) (pc' := 60) rfl (hb hby d5_53) rfl (feq hc53_50).2 (by decide) (by decide) k) ?_
          refine own_go (U' := T49.setTop (mkF m 61 #[.val (.ref a0), .val (.ref a1), .val (.ref a1)] [(.int (0 : Int32))])) (fun _ k => XS.iconst X49.here hx rfl (hb hby d5_60) k) ?_
          refine own_ret X49 (v := (some (.int (0 : Int32)))) hlk (fun h => by rw [Bd.returns] at h; cases h) (by decide) (by decide) (fun fs hr => retN X49 hx (t := .boolean) Bd.returns (by simp) (hb hby d5_61) hr) ?_
          show (Q5 Z a0 a1 r0 r1 r2 r3 o0 o1 o2 o3 h0 n0) _ T49.heap _
          rw [e49]
          exact ⟨by first | (simp only [f_5, if_pos hc20_41, if_pos hc31_44, if_pos hc42_47, if_neg hc53_50]; done) | rfl | (simp [f_5, if_pos hc20_41, if_pos hc31_44, if_pos hc42_47, if_neg hc53_50]; done), N0, rfl⟩
      · refine own_go (U' := T46.setTop (mkF m 60 #[.val (.ref a0), .val (.ref a1), .val (.ref a1)] [])) (fun _ k => XS.icmpYes X46.here hx rfl (pc0 := 42) (pc' := 60) rfl (hb hby d5_42) rfl (feq hc42_47).2 (by decide) (by decide) k) ?_
        refine own_go (U' := T46.setTop (mkF m 61 #[.val (.ref a0), .val (.ref a1), .val (.ref a1)] [(.int (0 : Int32))])) (fun _ k => XS.iconst X46.here hx rfl (hb hby d5_60) k) ?_
        refine own_ret X46 (v := (some (.int (0 : Int32)))) hlk (fun h => by rw [Bd.returns] at h; cases h) (by decide) (by decide) (fun fs hr => retN X46 hx (t := .boolean) Bd.returns (by simp) (hb hby d5_61) hr) ?_
        show (Q5 Z a0 a1 r0 r1 r2 r3 o0 o1 o2 o3 h0 n0) _ T46.heap _
        rw [e46]
        exact ⟨by first | (simp only [f_5, if_pos hc20_41, if_pos hc31_44, if_neg hc42_47]; done) | rfl | (simp [f_5, if_pos hc20_41, if_pos hc31_44, if_neg hc42_47]; done), N0, rfl⟩
    · refine own_go (U' := T43.setTop (mkF m 60 #[.val (.ref a0), .val (.ref a1), .val (.ref a1)] [])) (fun _ k => XS.icmpYes X43.here hx rfl (pc0 := 31) (pc' := 60) rfl (hb hby d5_31) rfl (feq hc31_44).2 (by decide) (by decide) k) ?_
      refine own_go (U' := T43.setTop (mkF m 61 #[.val (.ref a0), .val (.ref a1), .val (.ref a1)] [(.int (0 : Int32))])) (fun _ k => XS.iconst X43.here hx rfl (hb hby d5_60) k) ?_
      refine own_ret X43 (v := (some (.int (0 : Int32)))) hlk (fun h => by rw [Bd.returns] at h; cases h) (by decide) (by decide) (fun fs hr => retN X43 hx (t := .boolean) Bd.returns (by simp) (hb hby d5_61) hr) ?_
      show (Q5 Z a0 a1 r0 r1 r2 r3 o0 o1 o2 o3 h0 n0) _ T43.heap _
      rw [e43]
      exact ⟨by first | (simp only [f_5, if_pos hc20_41, if_neg hc31_44]; done) | rfl | (simp [f_5, if_pos hc20_41, if_neg hc31_44]; done), N0, rfl⟩
  · refine own_go (U' := T40.setTop (mkF m 60 #[.val (.ref a0), .val (.ref a1), .val (.ref a1)] [])) (fun _ k => XS.icmpYes X40.here hx rfl (pc0 := 20) (pc' := 60) rfl (hb hby d5_20) rfl (feq hc20_41).2 (by decide) (by decide) k) ?_
    refine own_go (U' := T40.setTop (mkF m 61 #[.val (.ref a0), .val (.ref a1), .val (.ref a1)] [(.int (0 : Int32))])) (fun _ k => XS.iconst X40.here hx rfl (hb hby d5_60) k) ?_
    refine own_ret X40 (v := (some (.int (0 : Int32)))) hlk (fun h => by rw [Bd.returns] at h; cases h) (by decide) (by decide) (fun fs hr => retN X40 hx (t := .boolean) Bd.returns (by simp) (hb hby d5_61) hr) ?_
    show (Q5 Z a0 a1 r0 r1 r2 r3 o0 o1 o2 o3 h0 n0) _ T40.heap _
    rw [e40]
    exact ⟨by first | (simp only [f_5, if_neg hc20_41]; done) | rfl | (simp [f_5, if_neg hc20_41]; done), N0, rfl⟩
theorem own_ef5n (m : MethodId) (x0 : Addr) : entryFrame m #[(.ref x0), .null] 3 = mkF m 0 #[.val (.ref x0), .val .null, .unset] [] := by first | (simp [entryFrame, mkF, argsToLocals, Value.category]; done) | rfl
def f_5n (a0 : Addr) : Int32 := (0 : Int32)
def Q5n (Z : State) (a0 : Addr) (h0 : Heap) (n0 : Nat) (v : Option Value) (h : Heap) (L : List Loc) : Prop := v = some (.int (f_5n a0)) ∧ Fr n0 L ∧ h = h0
set_option maxRecDepth 65536 in
set_option maxHeartbeats 40000000 in
theorem rm5n (l : Launch) (Z : State) (aw : Array Value) (hw : ∀ d ∈ tables_1, d.before aw Z = true) (ws : List Jvm.Cond) (a0 : Addr) (h0 : Heap) (n0 : Nat) (Z0 : n0 ≤ h0.size) :
    MetFree l (⟨"com/example/layout_to_evidence/layouttoevidence/CellSpan", "equals", "(Ljava/lang/Object;)Z"⟩ : MethodName) (head1 (Jvm.Cond.code (⟨"com/example/layout_to_evidence/layouttoevidence/CellSpan", "equals", "(Ljava/lang/Object;)Z"⟩ : MethodName) prog_6_method_6_code 3 (some .boolean) :: ws) ({ frames := 0, cells := 0, slots := 0, locals := 0 } : Room)) (fun a U => a = #[(.ref a0), .null] ∧ Z.Warmed39 U.vm ∧ U.heap = h0) (fun _ _ _ _ _ => True) (fun _ U o U' => ∃ v L, o = .returned v ∧ (Q5n Z a0 h0 n0) v U'.heap L ∧ FrameEnd U o U' L ({ frames := 0, cells := 0, slots := 0, locals := 0 } : Room).cells ({ frames := 0, cells := 0, slots := 0, locals := 0 } : Room).slots) := by
  refine MetFree.of_bodySF (plainFor_of_name own_pn1) hisR ?_
  intro p e s m args below meth c s₁ Bd hml0 hP hK
  obtain ⟨rfl, hZ, hh⟩ := hP
  have hx := Bd.exec
  have hby := Bd.bytes
  have hml : c.maxLocals = 3 := hml0
  have hown : s.vm.findClass "com/example/layout_to_evidence/layouttoevidence/CellSpan" = some m.cls := findClass_of_methodNamed Bd.named
  have hnm := (name_of_methodNamed Bd.named Bd.method).1
  have hlk : meth.locks = false := BodyLoose.notSynchronized (by assumption)
  have X0 : Stand p l e ({ frames := 0, cells := 0, slots := 0, locals := 0 } : Room) s m #[(.ref a0), .null] below meth c s₁ [] 0 0 := Stand.of_body Bd
  have e0 : s₁.heap = h0 := by rw [← hh, Bd.state]; rfl
  have N0 := Fr.nil n0
  show own_Done p e below s (Q5n Z a0 h0 n0) ({ frames := 0, cells := 0, slots := 0, locals := 0 } : Room).cells ({ frames := 0, cells := 0, slots := 0, locals := 0 } : Room).slots (s₁.setTop (entryFrame m #[(.ref a0), .null] 3))
  refine own_go (U' := s₁.setTop (mkF m 0 #[.val (.ref a0), .val .null, .unset] [])) (fun _ k => castTop (own_ef5n m a0) k) ?_
  refine own_go (U' := s₁.setTop (mkF m 1 #[.val (.ref a0), .val .null, .unset] [.null])) (fun _ k => XS.aloadN X0.here hx rfl (hb hby d5_0) rfl rfl k) ?_
  refine own_go (U' := s₁.setTop (mkF m 4 #[.val (.ref a0), .val .null, .unset] [(.int (0 : Int32))])) (fun _ k => X0.instanceofNull hx (g := (mkF m 1 #[.val (.ref a0), .val .null, .unset] [.null])) rfl rfl (hb hby d5_1) _ k) ?_
  refine own_go (U' := s₁.setTop (mkF m 60 #[.val (.ref a0), .val .null, .unset] [])) (fun _ k => XS.ifYes X0.here hx rfl (pc0 := 4) (pc' := 60) rfl (hb hby d5_4) rfl ((if0 _ _).trans (teq (by decide : ((0 : Int32) = (0 : Int32)))).1) (by decide) (by decide) k) ?_
  refine own_go (U' := s₁.setTop (mkF m 61 #[.val (.ref a0), .val .null, .unset] [(.int (0 : Int32))])) (fun _ k => XS.iconst X0.here hx rfl (hb hby d5_60) k) ?_
  refine own_ret X0 (v := (some (.int (0 : Int32)))) hlk (fun h => by rw [Bd.returns] at h; cases h) (by decide) (by decide) (fun fs hr => retN X0 hx (t := .boolean) Bd.returns (by simp) (hb hby d5_61) hr) ?_
  show (Q5n Z a0 h0 n0) _ s₁.heap _
  rw [e0]
  exact ⟨by first | (simp only [f_5n]; done) | rfl | (simp [f_5n]; done), N0, rfl⟩

theorem own_notint {Z : State} {a0 : Array Value} (hw : ∀ d ∈ tables_1, d.before a0 Z = true) {h : Heap} {a : Addr} (E : Exa Z h a "java/lang/Integer") : Ins Z h a "com/example/layout_to_evidence/layouttoevidence/CellSpan" false := by
  obtain ⟨cell, k, h1, h2, h3, h4, h5⟩ := E
  obtain ⟨cy, ky, y1, y2, y3, y4, -⟩ := Cond.instantiable_spec (hw _ (List.mem_of_getElem? (i := 11) rfl))
  have y5 : ky.isInterface = false := by
    cases q : ky.isInterface with
    | false => rfl
    | true => rw [q] at y4; cases y4
  refine ⟨cell, cy, h1, y1, ?_⟩
  rw [h4, Vm.notAssignable_of_chain (X := "java/lang/Integer") (Y := "com/example/layout_to_evidence/layouttoevidence/CellSpan") (t := ["java/lang/Number", "java/lang/Object"]) (args := a0) h2 y1 y2 y3 y5 (fun w hm => by
    simp only [Cond.chainWords, List.mem_cons, List.not_mem_nil, or_false] at hm
    rcases hm with rfl | rfl | rfl
    · exact hw _ (List.mem_of_getElem? (i := 55) rfl)
    · exact hw _ (List.mem_of_getElem? (i := 56) rfl)
    · exact hw _ (List.mem_of_getElem? (i := 57) rfl)) (by decide)]
  rfl

theorem own_ef5i (m : MethodId) (x0 : Addr) (x1 : Addr) : entryFrame m #[(.ref x0), (.ref x1)] 3 = mkF m 0 #[.val (.ref x0), .val (.ref x1), .unset] [] := by first | (simp [entryFrame, mkF, argsToLocals, Value.category]; done) | rfl
def f_5i (a0 : Addr) (a1 : Addr) : Int32 := (0 : Int32)
def Q5i (Z : State) (a0 : Addr) (a1 : Addr) (h0 : Heap) (n0 : Nat) (v : Option Value) (h : Heap) (L : List Loc) : Prop := v = some (.int (f_5i a0 a1)) ∧ Fr n0 L ∧ h = h0
set_option maxRecDepth 65536 in
set_option maxHeartbeats 40000000 in
theorem rm5i (l : Launch) (Z : State) (aw : Array Value) (hw : ∀ d ∈ tables_1, d.before aw Z = true) (ws : List Jvm.Cond) (a0 : Addr) (a1 : Addr) (h0 : Heap) (n0 : Nat) (Z0 : n0 ≤ h0.size) (E_b : Exa Z h0 a1 "java/lang/Integer") :
    MetFree l (⟨"com/example/layout_to_evidence/layouttoevidence/CellSpan", "equals", "(Ljava/lang/Object;)Z"⟩ : MethodName) (head1 (Jvm.Cond.code (⟨"com/example/layout_to_evidence/layouttoevidence/CellSpan", "equals", "(Ljava/lang/Object;)Z"⟩ : MethodName) prog_6_method_6_code 3 (some .boolean) :: ws) ({ frames := 0, cells := 0, slots := 0, locals := 0 } : Room)) (fun a U => a = #[(.ref a0), (.ref a1)] ∧ Z.Warmed39 U.vm ∧ U.heap = h0) (fun _ _ _ _ _ => True) (fun _ U o U' => ∃ v L, o = .returned v ∧ (Q5i Z a0 a1 h0 n0) v U'.heap L ∧ FrameEnd U o U' L ({ frames := 0, cells := 0, slots := 0, locals := 0 } : Room).cells ({ frames := 0, cells := 0, slots := 0, locals := 0 } : Room).slots) := by
  refine MetFree.of_bodySF (plainFor_of_name own_pn1) hisR ?_
  intro p e s m args below meth c s₁ Bd hml0 hP hK
  obtain ⟨rfl, hZ, hh⟩ := hP
  have hx := Bd.exec
  have hby := Bd.bytes
  have hml : c.maxLocals = 3 := hml0
  have hown : s.vm.findClass "com/example/layout_to_evidence/layouttoevidence/CellSpan" = some m.cls := findClass_of_methodNamed Bd.named
  have hnm := (name_of_methodNamed Bd.named Bd.method).1
  have hlk : meth.locks = false := BodyLoose.notSynchronized (by assumption)
  have X0 : Stand p l e ({ frames := 0, cells := 0, slots := 0, locals := 0 } : Room) s m #[(.ref a0), (.ref a1)] below meth c s₁ [] 0 0 := Stand.of_body Bd
  have e0 : s₁.heap = h0 := by rw [← hh, Bd.state]; rfl
  have N0 := Fr.nil n0
  show own_Done p e below s (Q5i Z a0 a1 h0 n0) ({ frames := 0, cells := 0, slots := 0, locals := 0 } : Room).cells ({ frames := 0, cells := 0, slots := 0, locals := 0 } : Room).slots (s₁.setTop (entryFrame m #[(.ref a0), (.ref a1)] 3))
  refine own_go (U' := s₁.setTop (mkF m 0 #[.val (.ref a0), .val (.ref a1), .unset] [])) (fun _ k => castTop (own_ef5i m a0 a1) k) ?_
  refine own_go (U' := s₁.setTop (mkF m 1 #[.val (.ref a0), .val (.ref a1), .unset] [(.ref a1)])) (fun _ k => XS.aloadN X0.here hx rfl (hb hby d5_0) rfl rfl k) ?_
  obtain ⟨T51, X51, e51, st51⟩ := instN X0 hx hZ hown (hw _ (List.mem_of_getElem? (i := 32) rfl)) e0 (by rw [hh]; exact own_notint hw E_b) (by rw [hh]; exact E_b) (g := (mkF m 1 #[.val (.ref a0), .val (.ref a1), .unset] [(.ref a1)])) rfl rfl (hb hby d5_1)
  refine own_go (U' := T51.setTop (mkF m 4 #[.val (.ref a0), .val (.ref a1), .unset] [(.int (0 : Int32))])) (fun _ k => st51 _ k) ?_
  refine own_go (U' := T51.setTop (mkF m 60 #[.val (.ref a0), .val (.ref a1), .unset] [])) (fun _ k => XS.ifYes X51.here hx rfl (pc0 := 4) (pc' := 60) rfl (hb hby d5_4) rfl ((if0 _ _).trans (teq (by decide : ((0 : Int32) = (0 : Int32)))).1) (by decide) (by decide) k) ?_
  refine own_go (U' := T51.setTop (mkF m 61 #[.val (.ref a0), .val (.ref a1), .unset] [(.int (0 : Int32))])) (fun _ k => XS.iconst X51.here hx rfl (hb hby d5_60) k) ?_
  refine own_ret X51 (v := (some (.int (0 : Int32)))) hlk (fun h => by rw [Bd.returns] at h; cases h) (by decide) (by decide) (fun fs hr => retN X51 hx (t := .boolean) Bd.returns (by simp) (hb hby d5_61) hr) ?_
  show (Q5i Z a0 a1 h0 n0) _ T51.heap _
  rw [e51]
  exact ⟨by first | (simp only [f_5i]; done) | rfl | (simp [f_5i]; done), N0, rfl⟩
theorem d8_0 : decode jdk_18_method_1_code 0 = .ok (.aload_n 0, 1) := by decide +kernel
theorem d8_1 : decode jdk_18_method_1_code 1 = .ok (.invokespecial 1, 3) := by decide +kernel
theorem d8_4 : decode jdk_18_method_1_code 4 = .ok (.return_, 1) := by decide +kernel
theorem own_pn2 : plainName "java/lang/Number" = true := by first | (simp [plainName, overriddenIn]; done) | decide +kernel
theorem own_ef8 (m : MethodId) (x0 : Addr) : entryFrame m #[(.ref x0)] 1 = mkF m 0 #[.val (.ref x0)] [] := by first | (simp [entryFrame, mkF, argsToLocals, Value.category]; done) | rfl
def Q8 (Z : State) (a0 : Addr) (h0 : Heap) (n0 : Nat) (v : Option Value) (h : Heap) (L : List Loc) : Prop := v = none ∧ Fr n0 L ∧ h = h0
set_option maxRecDepth 65536 in
set_option maxHeartbeats 40000000 in
theorem rm8 (l : Launch) (Z : State) (aw : Array Value) (hw : ∀ d ∈ tables_1, d.before aw Z = true) (ws : List Jvm.Cond) (a0 : Addr) (h0 : Heap) (n0 : Nat) (Z0 : n0 ≤ h0.size) :
    MetFree l (⟨"java/lang/Number", "<init>", "()V"⟩ : MethodName) (head1 (Jvm.Cond.code (⟨"java/lang/Number", "<init>", "()V"⟩ : MethodName) jdk_18_method_1_code 1 none :: ws) ({ frames := 1, cells := 0, slots := 0, locals := 12 } : Room)) (fun a U => a = #[(.ref a0)] ∧ Z.Warmed39 U.vm ∧ U.heap = h0) (fun _ _ _ _ _ => True) (fun _ U o U' => ∃ v L, o = .returned v ∧ (Q8 Z a0 h0 n0) v U'.heap L ∧ FrameEnd U o U' L ({ frames := 1, cells := 0, slots := 0, locals := 12 } : Room).cells ({ frames := 1, cells := 0, slots := 0, locals := 12 } : Room).slots) := by
  refine MetFree.of_bodySF (plainFor_of_name own_pn2) hisR ?_
  intro p e s m args below meth c s₁ Bd hml0 hP hK
  obtain ⟨rfl, hZ, hh⟩ := hP
  have hx := Bd.exec
  have hby := Bd.bytes
  have hml : c.maxLocals = 1 := hml0
  have hown : s.vm.findClass "java/lang/Number" = some m.cls := findClass_of_methodNamed Bd.named
  have hnm := (name_of_methodNamed Bd.named Bd.method).1
  have hlk : meth.locks = false := BodyLoose.notSynchronized (by assumption)
  have X0 : Stand p l e ({ frames := 1, cells := 0, slots := 0, locals := 12 } : Room) s m #[(.ref a0)] below meth c s₁ [] 0 0 := Stand.of_body Bd
  have e0 : s₁.heap = h0 := by rw [← hh, Bd.state]; rfl
  have N0 := Fr.nil n0
  show own_Done p e below s (Q8 Z a0 h0 n0) ({ frames := 1, cells := 0, slots := 0, locals := 12 } : Room).cells ({ frames := 1, cells := 0, slots := 0, locals := 12 } : Room).slots (s₁.setTop (entryFrame m #[(.ref a0)] 1))
  refine own_go (U' := s₁.setTop (mkF m 0 #[.val (.ref a0)] [])) (fun _ k => castTop (own_ef8 m a0) k) ?_
  refine own_go (U' := s₁.setTop (mkF m 1 #[.val (.ref a0)] [(.ref a0)])) (fun _ k => XS.aloadN X0.here hx rfl (hb hby d8_0) rfl rfl k) ?_
  obtain ⟨T52, X52, e52, st52⟩ := initO X0 hx hZ hown (hw _ (List.mem_of_getElem? (i := 52) rfl)) (hw _ (List.mem_of_getElem? (i := 17) rfl)) (hw _ (List.mem_of_getElem? (i := 18) rfl)) e0 (g := (mkF m 1 #[.val (.ref a0)] [(.ref a0)])) rfl (by rw [hml]; rfl) rfl (hb hby d8_1) (by decide) (W := 0) (by show 2 * 0 + _ ≤ _; exact Nat.le_of_eq rfl) (by decide)
  refine own_go (U' := T52.setTop (mkF m 4 #[.val (.ref a0)] [])) (fun _ k => st52 _ k) ?_
  refine own_ret X52 (v := none) hlk (fun _ => rfl) (by decide) (by decide) (fun fs hr => X52.returnOut hx Bd.returns (hb hby d8_4) hr) ?_
  show (Q8 Z a0 h0 n0) _ T52.heap _
  rw [e52]
  exact ⟨rfl, N0, rfl⟩
theorem d7_0 : decode jdk_33_method_23_code 0 = .ok (.aload_n 0, 1) := by decide +kernel
theorem d7_1 : decode jdk_33_method_23_code 1 = .ok (.invokespecial 202, 3) := by decide +kernel
theorem own_pd1 : parseMethodDescriptor "()V" = some ⟨[], none⟩ := by decide +kernel
theorem d7_4 : decode jdk_33_method_23_code 4 = .ok (.aload_n 0, 1) := by decide +kernel
theorem d7_5 : decode jdk_33_method_23_code 5 = .ok (.iload_n 1, 1) := by decide +kernel
theorem d7_6 : decode jdk_33_method_23_code 6 = .ok (.putfield 205, 3) := by decide +kernel
theorem d7_9 : decode jdk_33_method_23_code 9 = .ok (.return_, 1) := by decide +kernel
theorem own_pn3 : plainName "java/lang/Integer" = true := by first | (simp [plainName, overriddenIn]; done) | decide +kernel
theorem own_ef7 (m : MethodId) (x0 : Addr) (x1 : Int32) : entryFrame m #[(.ref x0), (.int x1)] 2 = mkF m 0 #[.val (.ref x0), .val (.int x1)] [] := by first | (simp [entryFrame, mkF, argsToLocals, Value.category]; done) | rfl
def Q7 (Z : State) (a0 : Addr) (p1 : Int32) (h0 : Heap) (n0 : Nat) (v : Option Value) (h : Heap) (L : List Loc) : Prop := v = none ∧ Fr n0 L ∧ Keep h0 h [a0] ∧ Exa Z h a0 "java/lang/Integer"
set_option maxRecDepth 65536 in
set_option maxHeartbeats 40000000 in
theorem rm7 (l : Launch) (Z : State) (aw : Array Value) (hw : ∀ d ∈ tables_1, d.before aw Z = true) (ws : List Jvm.Cond) (a0 : Addr) (p1 : Int32) (h0 : Heap) (n0 : Nat) (Z0 : n0 ≤ h0.size) (E_a : Exa Z h0 a0 "java/lang/Integer") (F_v : Fld Z h0 a0 "java/lang/Integer" "value" "I" (.int (0 : Int32))) (g_a0 : n0 ≤ a0) :
    MetFree l (⟨"java/lang/Integer", "<init>", "(I)V"⟩ : MethodName) (head1 (Jvm.Cond.code (⟨"java/lang/Integer", "<init>", "(I)V"⟩ : MethodName) jdk_33_method_23_code 2 none :: ws) ({ frames := 2, cells := 0, slots := 0, locals := 24 } : Room)) (fun a U => a = #[(.ref a0), (.int p1)] ∧ Z.Warmed39 U.vm ∧ U.heap = h0) (fun _ _ _ _ _ => True) (fun _ U o U' => ∃ v L, o = .returned v ∧ (Q7 Z a0 p1 h0 n0) v U'.heap L ∧ FrameEnd U o U' L ({ frames := 2, cells := 0, slots := 0, locals := 24 } : Room).cells ({ frames := 2, cells := 0, slots := 0, locals := 24 } : Room).slots) := by
  refine MetFree.of_bodySF (plainFor_of_name own_pn3) hisR ?_
  intro p e s m args below meth c s₁ Bd hml0 hP hK
  obtain ⟨rfl, hZ, hh⟩ := hP
  have hx := Bd.exec
  have hby := Bd.bytes
  have hml : c.maxLocals = 2 := hml0
  have hown : s.vm.findClass "java/lang/Integer" = some m.cls := findClass_of_methodNamed Bd.named
  have hnm := (name_of_methodNamed Bd.named Bd.method).1
  have hlk : meth.locks = false := BodyLoose.notSynchronized (by assumption)
  have X0 : Stand p l e ({ frames := 2, cells := 0, slots := 0, locals := 24 } : Room) s m #[(.ref a0), (.int p1)] below meth c s₁ [] 0 0 := Stand.of_body Bd
  have e0 : s₁.heap = h0 := by rw [← hh, Bd.state]; rfl
  have N0 := Fr.nil n0
  show own_Done p e below s (Q7 Z a0 p1 h0 n0) ({ frames := 2, cells := 0, slots := 0, locals := 24 } : Room).cells ({ frames := 2, cells := 0, slots := 0, locals := 24 } : Room).slots (s₁.setTop (entryFrame m #[(.ref a0), (.int p1)] 2))
  refine own_go (U' := s₁.setTop (mkF m 0 #[.val (.ref a0), .val (.int p1)] [])) (fun _ k => castTop (own_ef7 m a0 p1) k) ?_
  refine own_go (U' := s₁.setTop (mkF m 1 #[.val (.ref a0), .val (.int p1)] [(.ref a0)])) (fun _ k => XS.aloadN X0.here hx rfl (hb hby d7_0) rfl rfl k) ?_
  obtain ⟨_, _, ⟨T53, L53, k53, n53⟩, -, X53, ⟨Lc53, hQ53, l53, y53, z53⟩, st53⟩ := X0.specialBack hx (y := (⟨"java/lang/Number", "<init>", "()V"⟩ : MethodName)) rfl hown (mvT hZ (hw _ (List.mem_of_getElem? (i := 46) rfl))) (mvT hZ (hw _ (List.mem_of_getElem? (i := 47) rfl))) (mvT hZ (hw _ (List.mem_of_getElem? (i := 51) rfl))) (by decide) (backOf (W := 0) (rm8 l Z aw hw [] a0 h0 n0 Z0 ) hZ (hw _ (List.mem_of_getElem? (i := 51) rfl)) (hw _ (List.mem_of_getElem? (i := 50) rfl)) (by decide) (by decide)) (g := (mkF m 1 #[.val (.ref a0), .val (.int p1)] [(.ref a0)])) rfl (by rw [hml]; rfl) (Steps.refl _) (a := a0) (argsL := []) (rest := []) (lenOf own_pd1 rfl) rfl (by show 2 * 0 + _ ≤ _; exact Nat.le_of_eq rfl) (hb hby d7_1) (fun _ _ => ⟨rfl, e0, (by decide : 0 + 0 ≤ _), (by decide : 0 + 0 ≤ _)⟩)
  dsimp only [Pt.U, Pt.locs, Pt.cells, Pt.slots] at X53 l53 y53 z53 st53 hQ53
  subst l53 y53 z53
  obtain ⟨rfl, N53q, e53⟩ := hQ53
  have N53 := Fr.app N0 N53q
  refine own_go (U' := T53.setTop (mkF m 4 #[.val (.ref a0), .val (.int p1)] [])) (fun _ k => st53.trans k) ?_
  refine own_go (U' := T53.setTop (mkF m 5 #[.val (.ref a0), .val (.int p1)] [(.ref a0)])) (fun _ k => XS.aloadN X53.here hx rfl (hb hby d7_4) rfl rfl k) ?_
  refine own_go (U' := T53.setTop (mkF m 6 #[.val (.ref a0), .val (.int p1)] [(.int p1), (.ref a0)])) (fun _ k => XS.iloadN X53.here hx rfl (hb hby d7_5) rfl k) ?_
  obtain ⟨T54, h54, X54, e54, W54, st54⟩ := putF X53 hx hZ hown (host := "") (Or.inl (hw _ (List.mem_of_getElem? (i := 53) rfl))) Via.refl e53 F_v E_a (Or.inr ⟨(hw _ (List.mem_of_getElem? (i := 54) rfl)), rfl, hnm⟩) (hw _ (List.mem_of_getElem? (i := 41) rfl)) (ty := .int) (by decide) rfl rfl (g := (mkF m 6 #[.val (.ref a0), .val (.int p1)] [(.int p1), (.ref a0)])) rfl rfl (hb hby d7_6)
  have c54_0 : Exa Z h54 a0 "java/lang/Integer" := E_a.wr W54
  have w54 : Fld Z h54 a0 "java/lang/Integer" "value" "I" (.int p1) := F_v.same W54
  have Z54 : n0 ≤ h54.size := Nat.le_trans Z0 (Keep.of_wr W54).1
  have K54 := Keep.wr (Keep.refl h0 [a0]) W54 (Or.inl (by simp))
  have N54 := Fr.snoc X54 N53 g_a0
  refine own_go (U' := T54.setTop (mkF m 9 #[.val (.ref a0), .val (.int p1)] [])) (fun _ k => st54 _ k) ?_
  refine own_ret X54 (v := none) hlk (fun _ => rfl) (by decide) (by decide) (fun fs hr => X54.returnOut hx Bd.returns (hb hby d7_9) hr) ?_
  show (Q7 Z a0 p1 h0 n0) _ T54.heap _
  rw [e54]
  exact ⟨rfl, N54, K54, c54_0⟩

def own_Cache (Z : State) (h : Heap) (w : Addr) : Prop := ∃ cl : Cell, Arr Z h w cl (.object "java/lang/Integer") ∧ cl.slots.size = (256 : Int32).toNatClampNeg ∧ ∀ j : Int32, ¬ j < 0 → j < 256 → ∃ r, cl.slots[j.toNatClampNeg]? = some (.ref r) ∧ Exa Z h r "java/lang/Integer"
theorem own_Cache.keep {Z : State} {h h' : Heap} {w : Addr} (C : own_Cache Z h w) (K : Keep h h' []) : own_Cache Z h' w := by
  obtain ⟨cl, A, S, H⟩ := C
  exact ⟨cl, ⟨K.2.1 w cl A.1 nin0, A.2⟩, S, fun j h1 h2 => by obtain ⟨r, e, E⟩ := H j h1 h2; exact ⟨r, e, E.keep K⟩⟩
theorem own_i128 {x : Int32} (h : ¬ x < (-128 : Int32)) (h2 : ¬ (127 : Int32) < x) : ¬ x + 128 < 0 ∧ x + 128 < 256 := by
  have a := c_iadd x 128
  have r := rng32 (x + 128)
  have k0 : (0 : Int32).toInt = 0 := by decide
  have k1 : (-128 : Int32).toInt = -128 := by decide
  have k2 : (127 : Int32).toInt = 127 := by decide
  have k3 : (128 : Int32).toInt = 128 := by decide
  have k4 : (256 : Int32).toInt = 256 := by decide
  simp only [Int32.lt_iff_toInt_lt, k0, k1, k2, k4] at *
  omega

theorem d6_0 : decode jdk_33_method_22_code 0 = .ok (.iload_n 0, 1) := by decide +kernel
theorem d6_1 : decode jdk_33_method_22_code 1 = .ok (.bipush (-128), 2) := by decide +kernel
theorem d6_3 : decode jdk_33_method_22_code 3 = .ok (.if_icmp .lt 20, 3) := by decide +kernel
theorem d6_23 : decode jdk_33_method_22_code 23 = .ok (.new 1, 3) := by decide +kernel
theorem d6_26 : decode jdk_33_method_22_code 26 = .ok (.dup, 1) := by decide +kernel
theorem d6_27 : decode jdk_33_method_22_code 27 = .ok (.iload_n 0, 1) := by decide +kernel
theorem d6_28 : decode jdk_33_method_22_code 28 = .ok (.invokespecial 199, 3) := by decide +kernel
theorem own_pd2 : parseMethodDescriptor "(I)V" = some ⟨[.int], none⟩ := by decide +kernel
theorem d6_31 : decode jdk_33_method_22_code 31 = .ok (.areturn, 1) := by decide +kernel
theorem d6_6 : decode jdk_33_method_22_code 6 = .ok (.iload_n 0, 1) := by decide +kernel
theorem d6_7 : decode jdk_33_method_22_code 7 = .ok (.getstatic 191, 3) := by decide +kernel
theorem d6_10 : decode jdk_33_method_22_code 10 = .ok (.if_icmp .gt 13, 3) := by decide +kernel
theorem d6_13 : decode jdk_33_method_22_code 13 = .ok (.getstatic 195, 3) := by decide +kernel
theorem d6_16 : decode jdk_33_method_22_code 16 = .ok (.iload_n 0, 1) := by decide +kernel
theorem d6_17 : decode jdk_33_method_22_code 17 = .ok (.sipush 128, 3) := by decide +kernel
theorem d6_20 : decode jdk_33_method_22_code 20 = .ok (.iadd, 1) := by decide +kernel
theorem d6_21 : decode jdk_33_method_22_code 21 = .ok (.aaload, 1) := by decide +kernel
theorem d6_22 : decode jdk_33_method_22_code 22 = .ok (.areturn, 1) := by decide +kernel
theorem own_ef6 (m : MethodId) (x0 : Int32) : entryFrame m #[(.int x0)] 1 = mkF m 0 #[.val (.int x0)] [] := by first | (simp [entryFrame, mkF, argsToLocals, Value.category]; done) | rfl
def Q6 (Z : State) (p0 : Int32) (wc : Addr) (h0 : Heap) (n0 : Nat) (v : Option Value) (h : Heap) (L : List Loc) : Prop := ∃ r : Addr, v = some (.ref r) ∧ Fr n0 L ∧ Keep h0 h [] ∧ Exa Z h r "java/lang/Integer"
set_option maxRecDepth 65536 in
set_option maxHeartbeats 40000000 in
theorem rm6 (l : Launch) (Z : State) (aw : Array Value) (hw : ∀ d ∈ tables_1, d.before aw Z = true) (ws : List Jvm.Cond) (p0 : Int32) (wc : Addr) (h0 : Heap) (n0 : Nat) (Z0 : n0 ≤ h0.size) (S_h : Sta Z h0 "java/lang/Integer$IntegerCache" "high" "I" (.int (127 : Int32))) (S_c : Sta Z h0 "java/lang/Integer$IntegerCache" "cache" "[Ljava/lang/Integer;" (.ref wc)) (C_ : own_Cache Z h0 wc) :
    MetFree l (⟨"java/lang/Integer", "valueOf", "(I)Ljava/lang/Integer;"⟩ : MethodName) (head1 (Jvm.Cond.code (⟨"java/lang/Integer", "valueOf", "(I)Ljava/lang/Integer;"⟩ : MethodName) jdk_33_method_22_code 1 (some (.object "java/lang/Integer")) :: ws) ({ frames := 3, cells := 1, slots := 1, locals := 38 } : Room)) (fun a U => a = #[(.int p0)] ∧ Z.Warmed39 U.vm ∧ U.heap = h0) (fun _ _ _ _ _ => True) (fun _ U o U' => ∃ v L, o = .returned v ∧ (Q6 Z p0 wc h0 n0) v U'.heap L ∧ FrameEnd U o U' L ({ frames := 3, cells := 1, slots := 1, locals := 38 } : Room).cells ({ frames := 3, cells := 1, slots := 1, locals := 38 } : Room).slots) := by
  refine MetFree.of_bodySF (plainFor_of_name own_pn3) hisR ?_
  intro p e s m args below meth c s₁ Bd hml0 hP hK
  obtain ⟨rfl, hZ, hh⟩ := hP
  have hx := Bd.exec
  have hby := Bd.bytes
  have hml : c.maxLocals = 1 := hml0
  have hown : s.vm.findClass "java/lang/Integer" = some m.cls := findClass_of_methodNamed Bd.named
  have hnm := (name_of_methodNamed Bd.named Bd.method).1
  have hlk : meth.locks = false := BodyLoose.notSynchronized (by assumption)
  have X0 : Stand p l e ({ frames := 3, cells := 1, slots := 1, locals := 38 } : Room) s m #[(.int p0)] below meth c s₁ [] 0 0 := Stand.of_body Bd
  have e0 : s₁.heap = h0 := by rw [← hh, Bd.state]; rfl
  have N0 := Fr.nil n0
  show own_Done p e below s (Q6 Z p0 wc h0 n0) ({ frames := 3, cells := 1, slots := 1, locals := 38 } : Room).cells ({ frames := 3, cells := 1, slots := 1, locals := 38 } : Room).slots (s₁.setTop (entryFrame m #[(.int p0)] 1))
  refine own_go (U' := s₁.setTop (mkF m 0 #[.val (.int p0)] [])) (fun _ k => castTop (own_ef6 m p0) k) ?_
  refine own_go (U' := s₁.setTop (mkF m 1 #[.val (.int p0)] [(.int p0)])) (fun _ k => XS.iloadN X0.here hx rfl (hb hby d6_0) rfl k) ?_
  refine own_go (U' := s₁.setTop (mkF m 3 #[.val (.int p0)] [(.int (-128 : Int32)), (.int p0)])) (fun _ k => XS.bipush X0.here hx rfl (hb hby d6_1) k) ?_
  by_cases hc3_55 : p0 < (-128 : Int32)
  · refine own_go (U' := s₁.setTop (mkF m 23 #[.val (.int p0)] [])) (fun _ k => XS.icmpYes X0.here hx rfl (pc0 := 3) (pc' := 23) rfl (hb hby d6_3) rfl (tlt hc3_55).1 (by decide) (by decide) k) ?_
    obtain ⟨T56, h56, X56, e56, E56, A56, D56, -, st56⟩ := newO X0 hx hZ hown (hw _ (List.mem_of_getElem? (i := 40) rfl)) (hw _ (List.mem_of_getElem? (i := 41) rfl)) (hw _ (List.mem_of_getElem? (i := 36) rfl)) e0 (g := (mkF m 23 #[.val (.int p0)] [])) rfl (hb hby d6_23) (by decide) (by decide)
    obtain ⟨b56, g56⟩ : ∃ z, z = h0.size := ⟨_, rfl⟩
    have g_b56 : n0 ≤ b56 := Nat.le_trans Z0 (Nat.le_of_eq g56.symm)
    have sz_b56 : h0.size ≤ b56 := Nat.le_trans (Keep.refl h0 []).1 (Nat.le_of_eq g56.symm)
    rw [← g56] at A56 D56 st56
    have c56_0 : Sta Z h56 "java/lang/Integer$IntegerCache" "high" "I" (.int (127 : Int32)) := S_h.ext E56
    have c56_1 : Sta Z h56 "java/lang/Integer$IntegerCache" "cache" "[Ljava/lang/Integer;" (.ref wc) := S_c.ext E56
    have Z56 : n0 ≤ h56.size := Nat.le_trans Z0 E56.1
    have K56 := Keep.ext (Keep.refl h0 []) E56
    have F56_54 : Fld Z h56 b56 "java/lang/Integer" "value" "I" (.int (0 : Int32)) := D56 (Or.inr (hw _ (List.mem_of_getElem? (i := 54) rfl))) (ty := .int) (by decide)
    refine own_go (U' := T56.setTop (mkF m 26 #[.val (.int p0)] [(.ref b56)])) (fun _ k => st56 _ k) ?_
    refine own_go (U' := T56.setTop (mkF m 27 #[.val (.int p0)] [(.ref b56), (.ref b56)])) (fun _ k => XS.dup X56.here hx rfl (hb hby d6_26) rfl rfl k) ?_
    refine own_go (U' := T56.setTop (mkF m 28 #[.val (.int p0)] [(.int p0), (.ref b56), (.ref b56)])) (fun _ k => XS.iloadN X56.here hx rfl (hb hby d6_27) rfl k) ?_
    obtain ⟨_, _, ⟨T57, L57, k57, n57⟩, -, X57, ⟨Lc57, hQ57, l57, y57, z57⟩, st57⟩ := X56.specialBack hx (y := (⟨"java/lang/Integer", "<init>", "(I)V"⟩ : MethodName)) rfl hown (mvT hZ (hw _ (List.mem_of_getElem? (i := 42) rfl))) (mvT hZ (hw _ (List.mem_of_getElem? (i := 43) rfl))) (mvT hZ (hw _ (List.mem_of_getElem? (i := 45) rfl))) (by decide) (backOf (W := 1) (rm7 l Z aw hw [] b56 p0 h56 n0 Z56 A56 F56_54 (by first | assumption | decide)) hZ (hw _ (List.mem_of_getElem? (i := 45) rfl)) (hw _ (List.mem_of_getElem? (i := 36) rfl)) (by decide) (by decide)) (g := (mkF m 28 #[.val (.int p0)] [(.int p0), (.ref b56), (.ref b56)])) rfl (by rw [hml]; rfl) (Steps.refl _) (a := b56) (argsL := [(.int p0)]) (rest := [(.ref b56)]) (lenOf own_pd2 rfl) rfl (by show 2 * 0 + _ ≤ _; exact Nat.le_of_eq rfl) (hb hby d6_28) (fun _ _ => ⟨rfl, e56, (by decide : 1 + 0 ≤ _), (by decide : 1 + 0 ≤ _)⟩)
    dsimp only [Pt.U, Pt.locs, Pt.cells, Pt.slots] at X57 l57 y57 z57 st57 hQ57
    subst l57 y57 z57
    obtain ⟨rfl, N57q, K57q, xE57⟩ := hQ57
    have N57 := Fr.app N0 N57q
    have c57_2 : Exa Z T57.heap b56 "java/lang/Integer" := A56.keep K57q
    have Z57 : n0 ≤ T57.heap.size := Nat.le_trans Z56 K57q.1
    have K57 := Keep.trans K56 K57q (allS (Or.inr sz_b56) all0)
    refine own_go (U' := T57.setTop (mkF m 31 #[.val (.int p0)] [(.ref b56)])) (fun _ k => st57.trans k) ?_
    refine own_ret X57 (v := (some (.ref b56))) hlk (fun h => by rw [Bd.returns] at h; cases h) (by decide) (by decide) (fun fs hr => own_retR X57 hx Bd.returns rfl rfl rfl (hb hby d6_31) hr) ?_
    show (Q6 Z p0 wc h0 n0) _ T57.heap _
    exact ⟨_, rfl, N57, K57, xE57⟩
  · refine own_go (U' := s₁.setTop (mkF m 6 #[.val (.int p0)] [])) (fun _ k => XS.icmpNo X0.here hx rfl (hb hby d6_3) rfl (flt hc3_55).1 k) ?_
    refine own_go (U' := s₁.setTop (mkF m 7 #[.val (.int p0)] [(.int p0)])) (fun _ k => XS.iloadN X0.here hx rfl (hb hby d6_6) rfl k) ?_
    obtain ⟨T58, X58, e58, st58⟩ := getS2 X0 hx hZ hown (host := "") (Or.inl (hw _ (List.mem_of_getElem? (i := 38) rfl))) Via.refl e0 S_h (g := (mkF m 7 #[.val (.int p0)] [(.int p0)])) rfl (hb hby d6_7)
    refine own_go (U' := T58.setTop (mkF m 10 #[.val (.int p0)] [(.int (127 : Int32)), (.int p0)])) (fun _ k => st58 _ k) ?_
    by_cases hc10_59 : (127 : Int32) < p0
    · refine own_go (U' := T58.setTop (mkF m 23 #[.val (.int p0)] [])) (fun _ k => XS.icmpYes X58.here hx rfl (pc0 := 10) (pc' := 23) rfl (hb hby d6_10) rfl (tlt hc10_59).2.2.1 (by decide) (by decide) k) ?_
      obtain ⟨T60, h60, X60, e60, E60, A60, D60, -, st60⟩ := newO X58 hx hZ hown (hw _ (List.mem_of_getElem? (i := 40) rfl)) (hw _ (List.mem_of_getElem? (i := 41) rfl)) (hw _ (List.mem_of_getElem? (i := 36) rfl)) e58 (g := (mkF m 23 #[.val (.int p0)] [])) rfl (hb hby d6_23) (by decide) (by decide)
      obtain ⟨b60, g60⟩ : ∃ z, z = h0.size := ⟨_, rfl⟩
      have g_b60 : n0 ≤ b60 := Nat.le_trans Z0 (Nat.le_of_eq g60.symm)
      have sz_b60 : h0.size ≤ b60 := Nat.le_trans (Keep.refl h0 []).1 (Nat.le_of_eq g60.symm)
      rw [← g60] at A60 D60 st60
      have c60_0 : Sta Z h60 "java/lang/Integer$IntegerCache" "high" "I" (.int (127 : Int32)) := S_h.ext E60
      have c60_1 : Sta Z h60 "java/lang/Integer$IntegerCache" "cache" "[Ljava/lang/Integer;" (.ref wc) := S_c.ext E60
      have Z60 : n0 ≤ h60.size := Nat.le_trans Z0 E60.1
      have K60 := Keep.ext (Keep.refl h0 []) E60
      have F60_54 : Fld Z h60 b60 "java/lang/Integer" "value" "I" (.int (0 : Int32)) := D60 (Or.inr (hw _ (List.mem_of_getElem? (i := 54) rfl))) (ty := .int) (by decide)
      refine own_go (U' := T60.setTop (mkF m 26 #[.val (.int p0)] [(.ref b60)])) (fun _ k => st60 _ k) ?_
      refine own_go (U' := T60.setTop (mkF m 27 #[.val (.int p0)] [(.ref b60), (.ref b60)])) (fun _ k => XS.dup X60.here hx rfl (hb hby d6_26) rfl rfl k) ?_
      refine own_go (U' := T60.setTop (mkF m 28 #[.val (.int p0)] [(.int p0), (.ref b60), (.ref b60)])) (fun _ k => XS.iloadN X60.here hx rfl (hb hby d6_27) rfl k) ?_
      obtain ⟨_, _, ⟨T61, L61, k61, n61⟩, -, X61, ⟨Lc61, hQ61, l61, y61, z61⟩, st61⟩ := X60.specialBack hx (y := (⟨"java/lang/Integer", "<init>", "(I)V"⟩ : MethodName)) rfl hown (mvT hZ (hw _ (List.mem_of_getElem? (i := 42) rfl))) (mvT hZ (hw _ (List.mem_of_getElem? (i := 43) rfl))) (mvT hZ (hw _ (List.mem_of_getElem? (i := 45) rfl))) (by decide) (backOf (W := 1) (rm7 l Z aw hw [] b60 p0 h60 n0 Z60 A60 F60_54 (by first | assumption | decide)) hZ (hw _ (List.mem_of_getElem? (i := 45) rfl)) (hw _ (List.mem_of_getElem? (i := 36) rfl)) (by decide) (by decide)) (g := (mkF m 28 #[.val (.int p0)] [(.int p0), (.ref b60), (.ref b60)])) rfl (by rw [hml]; rfl) (Steps.refl _) (a := b60) (argsL := [(.int p0)]) (rest := [(.ref b60)]) (lenOf own_pd2 rfl) rfl (by show 2 * 0 + _ ≤ _; exact Nat.le_of_eq rfl) (hb hby d6_28) (fun _ _ => ⟨rfl, e60, (by decide : 1 + 0 ≤ _), (by decide : 1 + 0 ≤ _)⟩)
      dsimp only [Pt.U, Pt.locs, Pt.cells, Pt.slots] at X61 l61 y61 z61 st61 hQ61
      subst l61 y61 z61
      obtain ⟨rfl, N61q, K61q, xE61⟩ := hQ61
      have N61 := Fr.app N0 N61q
      have c61_2 : Exa Z T61.heap b60 "java/lang/Integer" := A60.keep K61q
      have Z61 : n0 ≤ T61.heap.size := Nat.le_trans Z60 K61q.1
      have K61 := Keep.trans K60 K61q (allS (Or.inr sz_b60) all0)
      refine own_go (U' := T61.setTop (mkF m 31 #[.val (.int p0)] [(.ref b60)])) (fun _ k => st61.trans k) ?_
      refine own_ret X61 (v := (some (.ref b60))) hlk (fun h => by rw [Bd.returns] at h; cases h) (by decide) (by decide) (fun fs hr => own_retR X61 hx Bd.returns rfl rfl rfl (hb hby d6_31) hr) ?_
      show (Q6 Z p0 wc h0 n0) _ T61.heap _
      exact ⟨_, rfl, N61, K61, xE61⟩
    · refine own_go (U' := T58.setTop (mkF m 13 #[.val (.int p0)] [])) (fun _ k => XS.icmpNo X58.here hx rfl (hb hby d6_10) rfl (flt hc10_59).2.2.1 k) ?_
      obtain ⟨T62, X62, e62, st62⟩ := getS2 X58 hx hZ hown (host := "") (Or.inl (hw _ (List.mem_of_getElem? (i := 58) rfl))) Via.refl e58 S_c (g := (mkF m 13 #[.val (.int p0)] [])) rfl (hb hby d6_13)
      refine own_go (U' := T62.setTop (mkF m 16 #[.val (.int p0)] [(.ref wc)])) (fun _ k => st62 _ k) ?_
      refine own_go (U' := T62.setTop (mkF m 17 #[.val (.int p0)] [(.int p0), (.ref wc)])) (fun _ k => XS.iloadN X62.here hx rfl (hb hby d6_16) rfl k) ?_
      refine own_go (U' := T62.setTop (mkF m 20 #[.val (.int p0)] [(.int (128 : Int32)), (.int p0), (.ref wc)])) (fun _ k => XS.sipush X62.here hx rfl (hb hby d6_17) k) ?_
      refine own_go (U' := T62.setTop (mkF m 21 #[.val (.int p0)] [(.int (p0 + (128 : Int32))), (.ref wc)])) (fun _ k => XS.iadd X62.here hx rfl (hb hby d6_20) rfl k) ?_
      obtain ⟨clC, ArC, SzC, HC⟩ := C_
      have hjC := own_i128 hc3_55 hc10_59
      obtain ⟨rC, hatC, ExC⟩ := HC _ hjC.1 hjC.2
      refine own_go (U' := T62.setTop (mkF m 22 #[.val (.int p0)] [(.ref rC)])) (fun _ k => X62.aaload hx (j := (p0 + (128 : Int32))) (v := (.ref rC)) (own_cell e62 ArC.1) (State.isArrayOf_alike hZ.alike ArC.2.1) rfl ArC.2.2 (inb_of SzC hjC) hatC (g := (mkF m 21 #[.val (.int p0)] [(.int (p0 + (128 : Int32))), (.ref wc)])) rfl rfl (hb hby d6_21) _ k) ?_
      refine own_ret X62 (v := (some (.ref rC))) hlk (fun h => by rw [Bd.returns] at h; cases h) (by decide) (by decide) (fun fs hr => own_retR X62 hx Bd.returns rfl rfl rfl (hb hby d6_22) hr) ?_
      show (Q6 Z p0 wc h0 n0) _ T62.heap _
      rw [e62]
      exact ⟨_, rfl, N0, (Keep.refl h0 []), ExC⟩

theorem own_mx (x y : Int32) : (f_2 x y).toInt = (if x.toInt < y.toInt then y.toInt else x.toInt) := by
  unfold f_2
  by_cases h : x < y
  · rw [if_pos h, if_pos (Int32.lt_iff_toInt_lt.mp h)]
  · rw [if_neg h, if_neg (fun q => h (Int32.lt_iff_toInt_lt.mpr q))]
theorem own_sn {f : Int32 → Int32} {j v i : Int32} (h : i ≠ j) : own_set f j v i = f i := if_neg h
theorem own_se {f : Int32 → Int32} {j v : Int32} : own_set f j v j = v := if_pos rfl
theorem own_g1v (f : Int32 → Int32) : own_g1 f 0 = f 0 ∧ own_g1 f 1 = f_2 (f 0) (f 1) ∧ own_g1 f 2 = f 2 ∧ own_g1 f 3 = f_2 (f 2) (f 3) := by
  unfold own_g1 own_g0
  refine ⟨?_, ?_, ?_, ?_⟩
  · rw [own_sn (by decide), own_sn (by decide)]
  · rw [own_sn (by decide), own_se]
  · rw [own_sn (by decide), own_sn (by decide)]
  · rw [own_se, own_sn (by decide), own_sn (by decide)]
theorem own_fixok {f : Int32 → Int32} (h0 : 0 ≤ (f 0).toInt) (h1 : 0 ≤ (f 1).toInt) (h2 : 0 ≤ (f 2).toInt) (h3 : 0 ≤ (f 3).toInt) : 0 ≤ (own_fix f 0).toInt ∧ 0 ≤ (own_fix f 2).toInt ∧ (own_fix f 0).toInt ≤ (own_fix f 1).toInt ∧ (own_fix f 2).toInt ≤ (own_fix f 3).toInt ∧ ¬ ((own_fix f 1).toInt = (own_fix f 0).toInt ∧ (own_fix f 3).toInt = (own_fix f 2).toInt) := by
  have m1 := own_mx (f 0) (f 1)
  have m3 := own_mx (f 2) (f 3)
  obtain ⟨e0, e1, e2, e3⟩ := own_g1v f
  have km : (2147483647 : Int32).toInt = 2147483647 := by decide
  have k1 : (1 : Int32).toInt = 1 := by decide
  have r1 := rng32 (own_g1 f 1)
  rw [← e1] at m1
  rw [← e3] at m3
  rw [← e0] at m1 h0
  rw [← e2] at m3 h2
  have b1 : 0 ≤ (own_g1 f 1).toInt ∧ (own_g1 f 0).toInt ≤ (own_g1 f 1).toInt := by split at m1 <;> omega
  have b3 : 0 ≤ (own_g1 f 3).toInt ∧ (own_g1 f 2).toInt ≤ (own_g1 f 3).toInt := by split at m3 <;> omega
  unfold own_fix
  by_cases c0 : own_g1 f 0 = own_g1 f 1
  · rw [if_pos c0]
    by_cases c2 : own_g1 f 2 = own_g1 f 3
    · rw [if_pos c2]
      have d0 := congrArg Int32.toInt c0
      have d2 := congrArg Int32.toInt c2
      by_cases c4 : own_g1 f 1 < 2147483647
      · rw [if_pos c4]
        rw [Int32.lt_iff_toInt_lt, km] at c4
        have a := c_iadd (own_g1 f 1) 1
        have r := rng32 (own_g1 f 1 + 1)
        have u0 : own_set (own_g1 f) 1 (own_g1 f 1 + 1) 0 = own_g1 f 0 := own_sn (by decide)
        have u1 : own_set (own_g1 f) 1 (own_g1 f 1 + 1) 1 = own_g1 f 1 + 1 := own_se
        have u2 : own_set (own_g1 f) 1 (own_g1 f 1 + 1) 2 = own_g1 f 2 := own_sn (by decide)
        have u3 : own_set (own_g1 f) 1 (own_g1 f 1 + 1) 3 = own_g1 f 3 := own_sn (by decide)
        rw [u0, u1, u2, u3]
        omega
      · rw [if_neg c4]
        rw [Int32.lt_iff_toInt_lt, km] at c4
        have a := c_isub (own_g1 f 0) 1
        have r := rng32 (own_g1 f 0 - 1)
        have u0 : own_set (own_g1 f) 0 (own_g1 f 0 - 1) 0 = own_g1 f 0 - 1 := own_se
        have u1 : own_set (own_g1 f) 0 (own_g1 f 0 - 1) 1 = own_g1 f 1 := own_sn (by decide)
        have u2 : own_set (own_g1 f) 0 (own_g1 f 0 - 1) 2 = own_g1 f 2 := own_sn (by decide)
        have u3 : own_set (own_g1 f) 0 (own_g1 f 0 - 1) 3 = own_g1 f 3 := own_sn (by decide)
        rw [u0, u1, u2, u3]
        omega
    · rw [if_neg c2]
      have d2 : ¬ (own_g1 f 2).toInt = (own_g1 f 3).toInt := fun q => c2 (Int32.toInt_inj.mp q)
      omega
  · rw [if_neg c0]
    have d0 : ¬ (own_g1 f 0).toInt = (own_g1 f 1).toInt := fun q => c0 (Int32.toInt_inj.mp q)
    omega
theorem own_five {f : Int32 → Int32} (h : 0 ≤ (own_fix f 0).toInt ∧ 0 ≤ (own_fix f 2).toInt ∧ (own_fix f 0).toInt ≤ (own_fix f 1).toInt ∧ (own_fix f 2).toInt ≤ (own_fix f 3).toInt ∧ ¬ ((own_fix f 1).toInt = (own_fix f 0).toInt ∧ (own_fix f 3).toInt = (own_fix f 2).toInt)) :
    ¬ ((own_fix f 0) < (0 : Int32)) ∧ ¬ ((own_fix f 2) < (0 : Int32)) ∧ ¬ ((own_fix f 1) < (own_fix f 0)) ∧ ¬ ((own_fix f 3) < (own_fix f 2)) ∧ ¬ ((own_fix f 1) = (own_fix f 0) ∧ (own_fix f 3) = (own_fix f 2)) := by
  have k0 : (0 : Int32).toInt = 0 := by decide
  simp only [Int32.lt_iff_toInt_lt, ← Int32.toInt_inj, k0]
  omega
theorem own_mask (x : Int32) : 0 ≤ (x &&& (2147483647 : Int32)).toInt := by
  have e : (x &&& (2147483647 : Int32)).toInt = x.toInt % 2147483648 := c_mask x _ 31 (by decide) (by decide)
  omega
theorem own_four {v0 v1 v2 v3 : Int32} {f0 f1 f2 f3 : Int32 → Int32} (h0 : f0 = (fun i : Int32 => if i = (0 : Int32) then v0 else (fun _ => (0 : Int32)) i)) (h1 : f1 = (fun i : Int32 => if i = (1 : Int32) then v1 else f0 i)) (h2 : f2 = (fun i : Int32 => if i = (2 : Int32) then v2 else f1 i)) (h3 : f3 = (fun i : Int32 => if i = (3 : Int32) then v3 else f2 i)) :
    f3 0 = v0 ∧ f3 1 = v1 ∧ f3 2 = v2 ∧ f3 3 = v3 := by
  subst h0 h1 h2 h3
  exact ⟨rfl, rfl, rfl, rfl⟩
theorem own_putok {f f' : Int32 → Int32} {j v : Int32} (h : f' = (fun i : Int32 => if i = j then v else f i)) (hv : 0 ≤ v.toInt) (i : Int32) (hi : 0 ≤ (f i).toInt) : 0 ≤ (f' i).toInt := by
  subst h
  by_cases q : i = j
  · simp only [if_pos q]; exact hv
  · simp only [if_neg q]; exact hi
theorem own_eqs (a b : Addr) (x0 x1 x2 x3 y0 y1 y2 y3 : Int32) : f_5 a b x0 x1 x2 x3 y0 y1 y2 y3 = (if x0 = y0 then (if x1 = y1 then (if x2 = y2 then (if x3 = y3 then 1 else 0) else 0) else 0) else 0) ∧ f_5 b a y0 y1 y2 y3 x0 x1 x2 x3 = (if x0 = y0 then (if x1 = y1 then (if x2 = y2 then (if x3 = y3 then 1 else 0) else 0) else 0) else 0) := by
  by_cases h0 : x0 = y0 <;> by_cases h1 : x1 = y1 <;> by_cases h2 : x2 = y2 <;> by_cases h3 : x3 = y3 <;> simp [f_5, h0, h1, h2, h3, Ne.symm, eq_comm]
theorem own_k {p k : Int32} (h : (p &&& (7 : Int32)) = k) (h5 : ¬ k = 5) (h6 : ¬ k = 6) (h7 : ¬ k = 7) (h1 : ¬ k < 1) : ¬ k - 1 < 0 ∧ k - 1 < 4 := by
  have e : (p &&& (7 : Int32)).toInt = p.toInt % 8 := c_mask p _ 3 (by decide) (by decide)
  have a := c_isub k 1
  have r := rng32 (k - 1)
  have k0 : (0 : Int32).toInt = 0 := by decide
  have k1 : (1 : Int32).toInt = 1 := by decide
  have k4 : (4 : Int32).toInt = 4 := by decide
  have k5 : (5 : Int32).toInt = 5 := by decide
  have k6 : (6 : Int32).toInt = 6 := by decide
  have k7 : (7 : Int32).toInt = 7 := by decide
  rw [h] at e
  simp only [Int32.lt_iff_toInt_lt, ← Int32.toInt_inj, k0, k1, k4, k5, k6, k7] at *
  omega

theorem own_pd3 : parseMethodDescriptor "([I)V" = some ⟨[(.array .int)], none⟩ := by decide +kernel
theorem own_pd4 : parseMethodDescriptor "(IIII)V" = some ⟨[.int, .int, .int, .int], none⟩ := by decide +kernel
theorem own_pd5 : parseMethodDescriptor "(Ljava/lang/Object;)Z" = some ⟨[(.object "java/lang/Object")], some .boolean⟩ := by decide +kernel
theorem own_pd6 : parseMethodDescriptor "(I)Ljava/lang/Integer;" = some ⟨[.int], some (.object "java/lang/Integer")⟩ := by decide +kernel
theorem own_ef0 (m : MethodId) (x0 : Int32) (x1 : Int32) (x2 : Int32) (x3 : Int32) (x4 : Int32) (x5 : Int32) : entryFrame m #[(.int x0), (.int x1), (.int x2), (.int x3), (.int x4), (.int x5)] maxLocals = mkF m 0 #[.val (.int x0), .val (.int x1), .val (.int x2), .val (.int x3), .val (.int x4), .val (.int x5), .unset, .unset, .unset, .unset, .unset, .unset] [] := by first | (simp [entryFrame, mkF, argsToLocals, Value.category, maxLocals]; done) | rfl
def Q0 (Z : State) (p0 : Int32) (p1 : Int32) (p2 : Int32) (p3 : Int32) (p4 : Int32) (p5 : Int32) (wc : Addr) (h0 : Heap) (n0 : Nat) (v : Option Value) (h : Heap) (L : List Loc) : Prop := v = some (.int 1) ∧ Fr n0 L
set_option maxRecDepth 65536 in
set_option maxHeartbeats 40000000 in
theorem rm0 (l : Launch) (Z : State) (aw : Array Value) (hw : ∀ d ∈ tables_1, d.before aw Z = true) (ws : List Jvm.Cond) (p0 : Int32) (p1 : Int32) (p2 : Int32) (p3 : Int32) (p4 : Int32) (p5 : Int32) (wc : Addr) (h0 : Heap) (n0 : Nat) (Z0 : n0 ≤ h0.size) (S_h : Sta Z h0 "java/lang/Integer$IntegerCache" "high" "I" (.int (127 : Int32))) (S_c : Sta Z h0 "java/lang/Integer$IntegerCache" "cache" "[Ljava/lang/Integer;" (.ref wc)) (C_ : own_Cache Z h0 wc) :
    MetFree l x (head1 (Jvm.Cond.code x code maxLocals ret :: ws) room_1) (fun a U => a = #[(.int p0), (.int p1), (.int p2), (.int p3), (.int p4), (.int p5)] ∧ Z.Warmed39 U.vm ∧ U.heap = h0) (fun _ _ _ _ _ => True) (fun _ U o U' => ∃ v L, o = .returned v ∧ (Q0 Z p0 p1 p2 p3 p4 p5 wc h0 n0) v U'.heap L ∧ FrameEnd U o U' L room_1.cells room_1.slots) := by
  refine MetFree.of_bodySF (plainFor_of_name own_pn0) hisR ?_
  intro p e s m args below meth c s₁ Bd hml0 hP hK
  obtain ⟨rfl, hZ, hh⟩ := hP
  have hx := Bd.exec
  have hby := Bd.bytes
  have hml : c.maxLocals = 12 := hml0
  have hown : s.vm.findClass "com/example/layout_to_evidence/layouttoevidence/CellSpanEqualsPinLaw" = some m.cls := findClass_of_methodNamed Bd.named
  have hnm := (name_of_methodNamed Bd.named Bd.method).1
  have hlk : meth.locks = false := BodyLoose.notSynchronized (by assumption)
  have X0 : Stand p l e room_1 s m #[(.int p0), (.int p1), (.int p2), (.int p3), (.int p4), (.int p5)] below meth c s₁ [] 0 0 := Stand.of_body Bd
  have e0 : s₁.heap = h0 := by rw [← hh, Bd.state]; rfl
  have N0 := Fr.nil n0
  show own_Done p e below s (Q0 Z p0 p1 p2 p3 p4 p5 wc h0 n0) room_1.cells room_1.slots (s₁.setTop (entryFrame m #[(.int p0), (.int p1), (.int p2), (.int p3), (.int p4), (.int p5)] maxLocals))
  refine own_go (U' := s₁.setTop (mkF m 0 #[.val (.int p0), .val (.int p1), .val (.int p2), .val (.int p3), .val (.int p4), .val (.int p5), .unset, .unset, .unset, .unset, .unset, .unset] [])) (fun _ k => castTop (own_ef0 m p0 p1 p2 p3 p4 p5) k) ?_
  refine own_go (U' := s₁.setTop (mkF m 1 #[.val (.int p0), .val (.int p1), .val (.int p2), .val (.int p3), .val (.int p4), .val (.int p5), .unset, .unset, .unset, .unset, .unset, .unset] [(.int (4 : Int32))])) (fun _ k => XS.iconst X0.here hx rfl (hb hby at_0) k) ?_
  obtain ⟨T63, h63, k63, X63, e63, E63, A63, st63⟩ := newP X0 hx hZ (hw _ (List.mem_of_getElem? (i := 0) rfl)) e0 (g := (mkF m 1 #[.val (.int p0), .val (.int p1), .val (.int p2), .val (.int p3), .val (.int p4), .val (.int p5), .unset, .unset, .unset, .unset, .unset, .unset] [(.int (4 : Int32))])) rfl (hb hby at_1) rfl (by decide) (cap := 4) (by decide) (by decide) (by decide) (by decide)
  obtain ⟨b63, g63⟩ : ∃ z, z = h0.size := ⟨_, rfl⟩
  have g_b63 : n0 ≤ b63 := Nat.le_trans Z0 (Nat.le_of_eq g63.symm)
  have sz_b63 : h0.size ≤ b63 := Nat.le_trans (Keep.refl h0 []).1 (Nat.le_of_eq g63.symm)
  rw [← g63] at A63 st63
  have c63_0 : Sta Z h63 "java/lang/Integer$IntegerCache" "high" "I" (.int (127 : Int32)) := S_h.ext E63
  have c63_1 : Sta Z h63 "java/lang/Integer$IntegerCache" "cache" "[Ljava/lang/Integer;" (.ref wc) := S_c.ext E63
  have Z63 : n0 ≤ h63.size := Nat.le_trans Z0 E63.1
  have K63 := Keep.ext (Keep.refl h0 []) E63
  have V_b63 : own_Arf Z h63 b63 k63 .int (4 : Int32) (fun _ => (0 : Int32)) := own_Arf.new A63 (by decide) rfl
  refine own_go (U' := T63.setTop (mkF m 3 #[.val (.int p0), .val (.int p1), .val (.int p2), .val (.int p3), .val (.int p4), .val (.int p5), .unset, .unset, .unset, .unset, .unset, .unset] [(.ref b63)])) (fun _ k => st63 _ k) ?_
  refine own_go (U' := T63.setTop (mkF m 4 #[.val (.int p0), .val (.int p1), .val (.int p2), .val (.int p3), .val (.int p4), .val (.int p5), .unset, .unset, .unset, .unset, .unset, .unset] [(.ref b63), (.ref b63)])) (fun _ k => XS.dup X63.here hx rfl (hb hby at_3) rfl rfl k) ?_
  refine own_go (U' := T63.setTop (mkF m 5 #[.val (.int p0), .val (.int p1), .val (.int p2), .val (.int p3), .val (.int p4), .val (.int p5), .unset, .unset, .unset, .unset, .unset, .unset] [(.int (0 : Int32)), (.ref b63), (.ref b63)])) (fun _ k => XS.iconst X63.here hx rfl (hb hby at_4) k) ?_
  refine own_go (U' := T63.setTop (mkF m 6 #[.val (.int p0), .val (.int p1), .val (.int p2), .val (.int p3), .val (.int p4), .val (.int p5), .unset, .unset, .unset, .unset, .unset, .unset] [(.int p0), (.int (0 : Int32)), (.ref b63), (.ref b63)])) (fun _ k => XS.iloadN X63.here hx rfl (hb hby at_5) rfl k) ?_
  refine own_go (U' := T63.setTop (mkF m 8 #[.val (.int p0), .val (.int p1), .val (.int p2), .val (.int p3), .val (.int p4), .val (.int p5), .unset, .unset, .unset, .unset, .unset, .unset] [(.int (2147483647 : Int32)), (.int p0), (.int (0 : Int32)), (.ref b63), (.ref b63)])) (fun _ k => X63.ldcInt hx hown (mvT hZ (hw _ (List.mem_of_getElem? (i := 1) rfl))) (g := (mkF m 6 #[.val (.int p0), .val (.int p1), .val (.int p2), .val (.int p3), .val (.int p4), .val (.int p5), .unset, .unset, .unset, .unset, .unset, .unset] [(.int p0), (.int (0 : Int32)), (.ref b63), (.ref b63)])) rfl (hb hby at_6) _ k) ?_
  refine own_go (U' := T63.setTop (mkF m 9 #[.val (.int p0), .val (.int p1), .val (.int p2), .val (.int p3), .val (.int p4), .val (.int p5), .unset, .unset, .unset, .unset, .unset, .unset] [(.int (p0 &&& (2147483647 : Int32))), (.int (0 : Int32)), (.ref b63), (.ref b63)])) (fun _ k => XS.iand X63.here hx rfl (hb hby at_8) rfl k) ?_
  have V64 := V_b63
  obtain ⟨cl64, Ar64, q64, S64, Ng64, Hh64⟩ := V64
  have hj64 : ¬ (0 : Int32) < 0 ∧ (0 : Int32) < (4 : Int32) := ⟨by decide, by decide⟩
  obtain ⟨T65, h65, X65, e65, W65, st65⟩ := stI X63 hx hZ e63 Ar64 (j := (0 : Int32)) (inb_of S64 hj64) (g := (mkF m 9 #[.val (.int p0), .val (.int p1), .val (.int p2), .val (.int p3), .val (.int p4), .val (.int p5), .unset, .unset, .unset, .unset, .unset, .unset] [(.int (p0 &&& (2147483647 : Int32))), (.int (0 : Int32)), (.ref b63), (.ref b63)])) rfl rfl (hb hby at_9)
  obtain ⟨f9, hf9⟩ : ∃ F_ : Int32 → Int32, F_ = (fun i : Int32 => if i = (0 : Int32) then (p0 &&& (2147483647 : Int32)) else (fun _ => (0 : Int32)) i) := ⟨_, rfl⟩
  have c65_0 : Sta Z h65 "java/lang/Integer$IntegerCache" "high" "I" (.int (127 : Int32)) := c63_0.wr W65
  have c65_1 : Sta Z h65 "java/lang/Integer$IntegerCache" "cache" "[Ljava/lang/Integer;" (.ref wc) := c63_1.wr W65
  have w65 : own_Arf Z h65 b63 k63 .int (4 : Int32) f9 := by rw [hf9]; exact own_Arf.set Ar64 q64 S64 Ng64 Hh64 hj64 W65
  have Z65 : n0 ≤ h65.size := Nat.le_trans Z63 (Keep.of_wr W65).1
  have K65 := Keep.wr K63 W65 (Or.inr sz_b63)
  have N65 := Fr.snoc X65 N0 g_b63
  refine own_go (U' := T65.setTop (mkF m 10 #[.val (.int p0), .val (.int p1), .val (.int p2), .val (.int p3), .val (.int p4), .val (.int p5), .unset, .unset, .unset, .unset, .unset, .unset] [(.ref b63)])) (fun _ k => st65 _ k) ?_
  refine own_go (U' := T65.setTop (mkF m 11 #[.val (.int p0), .val (.int p1), .val (.int p2), .val (.int p3), .val (.int p4), .val (.int p5), .unset, .unset, .unset, .unset, .unset, .unset] [(.ref b63), (.ref b63)])) (fun _ k => XS.dup X65.here hx rfl (hb hby at_10) rfl rfl k) ?_
  refine own_go (U' := T65.setTop (mkF m 12 #[.val (.int p0), .val (.int p1), .val (.int p2), .val (.int p3), .val (.int p4), .val (.int p5), .unset, .unset, .unset, .unset, .unset, .unset] [(.int (1 : Int32)), (.ref b63), (.ref b63)])) (fun _ k => XS.iconst X65.here hx rfl (hb hby at_11) k) ?_
  refine own_go (U' := T65.setTop (mkF m 13 #[.val (.int p0), .val (.int p1), .val (.int p2), .val (.int p3), .val (.int p4), .val (.int p5), .unset, .unset, .unset, .unset, .unset, .unset] [(.int p1), (.int (1 : Int32)), (.ref b63), (.ref b63)])) (fun _ k => XS.iloadN X65.here hx rfl (hb hby at_12) rfl k) ?_
  refine own_go (U' := T65.setTop (mkF m 15 #[.val (.int p0), .val (.int p1), .val (.int p2), .val (.int p3), .val (.int p4), .val (.int p5), .unset, .unset, .unset, .unset, .unset, .unset] [(.int (2147483647 : Int32)), (.int p1), (.int (1 : Int32)), (.ref b63), (.ref b63)])) (fun _ k => X65.ldcInt hx hown (mvT hZ (hw _ (List.mem_of_getElem? (i := 1) rfl))) (g := (mkF m 13 #[.val (.int p0), .val (.int p1), .val (.int p2), .val (.int p3), .val (.int p4), .val (.int p5), .unset, .unset, .unset, .unset, .unset, .unset] [(.int p1), (.int (1 : Int32)), (.ref b63), (.ref b63)])) rfl (hb hby at_13) _ k) ?_
  refine own_go (U' := T65.setTop (mkF m 16 #[.val (.int p0), .val (.int p1), .val (.int p2), .val (.int p3), .val (.int p4), .val (.int p5), .unset, .unset, .unset, .unset, .unset, .unset] [(.int (p1 &&& (2147483647 : Int32))), (.int (1 : Int32)), (.ref b63), (.ref b63)])) (fun _ k => XS.iand X65.here hx rfl (hb hby at_15) rfl k) ?_
  have V66 := w65
  obtain ⟨cl66, Ar66, q66, S66, Ng66, Hh66⟩ := V66
  have hj66 : ¬ (1 : Int32) < 0 ∧ (1 : Int32) < (4 : Int32) := ⟨by decide, by decide⟩
  obtain ⟨T67, h67, X67, e67, W67, st67⟩ := stI X65 hx hZ e65 Ar66 (j := (1 : Int32)) (inb_of S66 hj66) (g := (mkF m 16 #[.val (.int p0), .val (.int p1), .val (.int p2), .val (.int p3), .val (.int p4), .val (.int p5), .unset, .unset, .unset, .unset, .unset, .unset] [(.int (p1 &&& (2147483647 : Int32))), (.int (1 : Int32)), (.ref b63), (.ref b63)])) rfl rfl (hb hby at_16)
  obtain ⟨f16, hf16⟩ : ∃ F_ : Int32 → Int32, F_ = (fun i : Int32 => if i = (1 : Int32) then (p1 &&& (2147483647 : Int32)) else f9 i) := ⟨_, rfl⟩
  have c67_0 : Sta Z h67 "java/lang/Integer$IntegerCache" "high" "I" (.int (127 : Int32)) := c65_0.wr W67
  have c67_1 : Sta Z h67 "java/lang/Integer$IntegerCache" "cache" "[Ljava/lang/Integer;" (.ref wc) := c65_1.wr W67
  have w67 : own_Arf Z h67 b63 k63 .int (4 : Int32) f16 := by rw [hf16]; exact own_Arf.set Ar66 q66 S66 Ng66 Hh66 hj66 W67
  have Z67 : n0 ≤ h67.size := Nat.le_trans Z65 (Keep.of_wr W67).1
  have K67 := Keep.wr K65 W67 (Or.inr sz_b63)
  have N67 := Fr.snoc X67 N65 g_b63
  refine own_go (U' := T67.setTop (mkF m 17 #[.val (.int p0), .val (.int p1), .val (.int p2), .val (.int p3), .val (.int p4), .val (.int p5), .unset, .unset, .unset, .unset, .unset, .unset] [(.ref b63)])) (fun _ k => st67 _ k) ?_
  refine own_go (U' := T67.setTop (mkF m 18 #[.val (.int p0), .val (.int p1), .val (.int p2), .val (.int p3), .val (.int p4), .val (.int p5), .unset, .unset, .unset, .unset, .unset, .unset] [(.ref b63), (.ref b63)])) (fun _ k => XS.dup X67.here hx rfl (hb hby at_17) rfl rfl k) ?_
  refine own_go (U' := T67.setTop (mkF m 19 #[.val (.int p0), .val (.int p1), .val (.int p2), .val (.int p3), .val (.int p4), .val (.int p5), .unset, .unset, .unset, .unset, .unset, .unset] [(.int (2 : Int32)), (.ref b63), (.ref b63)])) (fun _ k => XS.iconst X67.here hx rfl (hb hby at_18) k) ?_
  refine own_go (U' := T67.setTop (mkF m 20 #[.val (.int p0), .val (.int p1), .val (.int p2), .val (.int p3), .val (.int p4), .val (.int p5), .unset, .unset, .unset, .unset, .unset, .unset] [(.int p2), (.int (2 : Int32)), (.ref b63), (.ref b63)])) (fun _ k => XS.iloadN X67.here hx rfl (hb hby at_19) rfl k) ?_
  refine own_go (U' := T67.setTop (mkF m 22 #[.val (.int p0), .val (.int p1), .val (.int p2), .val (.int p3), .val (.int p4), .val (.int p5), .unset, .unset, .unset, .unset, .unset, .unset] [(.int (2147483647 : Int32)), (.int p2), (.int (2 : Int32)), (.ref b63), (.ref b63)])) (fun _ k => X67.ldcInt hx hown (mvT hZ (hw _ (List.mem_of_getElem? (i := 1) rfl))) (g := (mkF m 20 #[.val (.int p0), .val (.int p1), .val (.int p2), .val (.int p3), .val (.int p4), .val (.int p5), .unset, .unset, .unset, .unset, .unset, .unset] [(.int p2), (.int (2 : Int32)), (.ref b63), (.ref b63)])) rfl (hb hby at_20) _ k) ?_
  refine own_go (U' := T67.setTop (mkF m 23 #[.val (.int p0), .val (.int p1), .val (.int p2), .val (.int p3), .val (.int p4), .val (.int p5), .unset, .unset, .unset, .unset, .unset, .unset] [(.int (p2 &&& (2147483647 : Int32))), (.int (2 : Int32)), (.ref b63), (.ref b63)])) (fun _ k => XS.iand X67.here hx rfl (hb hby at_22) rfl k) ?_
  have V68 := w67
  obtain ⟨cl68, Ar68, q68, S68, Ng68, Hh68⟩ := V68
  have hj68 : ¬ (2 : Int32) < 0 ∧ (2 : Int32) < (4 : Int32) := ⟨by decide, by decide⟩
  obtain ⟨T69, h69, X69, e69, W69, st69⟩ := stI X67 hx hZ e67 Ar68 (j := (2 : Int32)) (inb_of S68 hj68) (g := (mkF m 23 #[.val (.int p0), .val (.int p1), .val (.int p2), .val (.int p3), .val (.int p4), .val (.int p5), .unset, .unset, .unset, .unset, .unset, .unset] [(.int (p2 &&& (2147483647 : Int32))), (.int (2 : Int32)), (.ref b63), (.ref b63)])) rfl rfl (hb hby at_23)
  obtain ⟨f23, hf23⟩ : ∃ F_ : Int32 → Int32, F_ = (fun i : Int32 => if i = (2 : Int32) then (p2 &&& (2147483647 : Int32)) else f16 i) := ⟨_, rfl⟩
  have c69_0 : Sta Z h69 "java/lang/Integer$IntegerCache" "high" "I" (.int (127 : Int32)) := c67_0.wr W69
  have c69_1 : Sta Z h69 "java/lang/Integer$IntegerCache" "cache" "[Ljava/lang/Integer;" (.ref wc) := c67_1.wr W69
  have w69 : own_Arf Z h69 b63 k63 .int (4 : Int32) f23 := by rw [hf23]; exact own_Arf.set Ar68 q68 S68 Ng68 Hh68 hj68 W69
  have Z69 : n0 ≤ h69.size := Nat.le_trans Z67 (Keep.of_wr W69).1
  have K69 := Keep.wr K67 W69 (Or.inr sz_b63)
  have N69 := Fr.snoc X69 N67 g_b63
  refine own_go (U' := T69.setTop (mkF m 24 #[.val (.int p0), .val (.int p1), .val (.int p2), .val (.int p3), .val (.int p4), .val (.int p5), .unset, .unset, .unset, .unset, .unset, .unset] [(.ref b63)])) (fun _ k => st69 _ k) ?_
  refine own_go (U' := T69.setTop (mkF m 25 #[.val (.int p0), .val (.int p1), .val (.int p2), .val (.int p3), .val (.int p4), .val (.int p5), .unset, .unset, .unset, .unset, .unset, .unset] [(.ref b63), (.ref b63)])) (fun _ k => XS.dup X69.here hx rfl (hb hby at_24) rfl rfl k) ?_
  refine own_go (U' := T69.setTop (mkF m 26 #[.val (.int p0), .val (.int p1), .val (.int p2), .val (.int p3), .val (.int p4), .val (.int p5), .unset, .unset, .unset, .unset, .unset, .unset] [(.int (3 : Int32)), (.ref b63), (.ref b63)])) (fun _ k => XS.iconst X69.here hx rfl (hb hby at_25) k) ?_
  refine own_go (U' := T69.setTop (mkF m 27 #[.val (.int p0), .val (.int p1), .val (.int p2), .val (.int p3), .val (.int p4), .val (.int p5), .unset, .unset, .unset, .unset, .unset, .unset] [(.int p3), (.int (3 : Int32)), (.ref b63), (.ref b63)])) (fun _ k => XS.iloadN X69.here hx rfl (hb hby at_26) rfl k) ?_
  refine own_go (U' := T69.setTop (mkF m 29 #[.val (.int p0), .val (.int p1), .val (.int p2), .val (.int p3), .val (.int p4), .val (.int p5), .unset, .unset, .unset, .unset, .unset, .unset] [(.int (2147483647 : Int32)), (.int p3), (.int (3 : Int32)), (.ref b63), (.ref b63)])) (fun _ k => X69.ldcInt hx hown (mvT hZ (hw _ (List.mem_of_getElem? (i := 1) rfl))) (g := (mkF m 27 #[.val (.int p0), .val (.int p1), .val (.int p2), .val (.int p3), .val (.int p4), .val (.int p5), .unset, .unset, .unset, .unset, .unset, .unset] [(.int p3), (.int (3 : Int32)), (.ref b63), (.ref b63)])) rfl (hb hby at_27) _ k) ?_
  refine own_go (U' := T69.setTop (mkF m 30 #[.val (.int p0), .val (.int p1), .val (.int p2), .val (.int p3), .val (.int p4), .val (.int p5), .unset, .unset, .unset, .unset, .unset, .unset] [(.int (p3 &&& (2147483647 : Int32))), (.int (3 : Int32)), (.ref b63), (.ref b63)])) (fun _ k => XS.iand X69.here hx rfl (hb hby at_29) rfl k) ?_
  have V70 := w69
  obtain ⟨cl70, Ar70, q70, S70, Ng70, Hh70⟩ := V70
  have hj70 : ¬ (3 : Int32) < 0 ∧ (3 : Int32) < (4 : Int32) := ⟨by decide, by decide⟩
  obtain ⟨T71, h71, X71, e71, W71, st71⟩ := stI X69 hx hZ e69 Ar70 (j := (3 : Int32)) (inb_of S70 hj70) (g := (mkF m 30 #[.val (.int p0), .val (.int p1), .val (.int p2), .val (.int p3), .val (.int p4), .val (.int p5), .unset, .unset, .unset, .unset, .unset, .unset] [(.int (p3 &&& (2147483647 : Int32))), (.int (3 : Int32)), (.ref b63), (.ref b63)])) rfl rfl (hb hby at_30)
  obtain ⟨f30, hf30⟩ : ∃ F_ : Int32 → Int32, F_ = (fun i : Int32 => if i = (3 : Int32) then (p3 &&& (2147483647 : Int32)) else f23 i) := ⟨_, rfl⟩
  have c71_0 : Sta Z h71 "java/lang/Integer$IntegerCache" "high" "I" (.int (127 : Int32)) := c69_0.wr W71
  have c71_1 : Sta Z h71 "java/lang/Integer$IntegerCache" "cache" "[Ljava/lang/Integer;" (.ref wc) := c69_1.wr W71
  have w71 : own_Arf Z h71 b63 k63 .int (4 : Int32) f30 := by rw [hf30]; exact own_Arf.set Ar70 q70 S70 Ng70 Hh70 hj70 W71
  have Z71 : n0 ≤ h71.size := Nat.le_trans Z69 (Keep.of_wr W71).1
  have K71 := Keep.wr K69 W71 (Or.inr sz_b63)
  have N71 := Fr.snoc X71 N69 g_b63
  refine own_go (U' := T71.setTop (mkF m 31 #[.val (.int p0), .val (.int p1), .val (.int p2), .val (.int p3), .val (.int p4), .val (.int p5), .unset, .unset, .unset, .unset, .unset, .unset] [(.ref b63)])) (fun _ k => st71 _ k) ?_
  refine own_go (U' := T71.setTop (mkF m 33 #[.val (.int p0), .val (.int p1), .val (.int p2), .val (.int p3), .val (.int p4), .val (.int p5), .val (.ref b63), .unset, .unset, .unset, .unset, .unset] [])) (fun _ k => XS.astore X71.here hx rfl (hb hby at_31) rfl rfl (l' := #[.val (.int p0), .val (.int p1), .val (.int p2), .val (.int p3), .val (.int p4), .val (.int p5), .val (.ref b63), .unset, .unset, .unset, .unset, .unset]) rfl k) ?_
  refine own_go (U' := T71.setTop (mkF m 35 #[.val (.int p0), .val (.int p1), .val (.int p2), .val (.int p3), .val (.int p4), .val (.int p5), .val (.ref b63), .unset, .unset, .unset, .unset, .unset] [(.ref b63)])) (fun _ k => XS.aload X71.here hx rfl (hb hby at_33) rfl rfl k) ?_
  obtain ⟨_, _, ⟨T72, L72, k72, n72⟩, -, X72, ⟨Lc72, hQ72, l72, y72, z72⟩, st72⟩ := Jvm.LawKit.callS X71 hx (y := (⟨"com/example/layout_to_evidence/layouttoevidence/CellSpanEqualsPinLaw", "fix", "([I)V"⟩ : MethodName)) hown (mvT hZ (hw _ (List.mem_of_getElem? (i := 2) rfl))) (mvT hZ (hw _ (List.mem_of_getElem? (i := 3) rfl))) (mvT hZ (hw _ (List.mem_of_getElem? (i := 4) rfl))) (mvT hZ (hw _ (List.mem_of_getElem? (i := 5) rfl))) (by decide) (backOf (W := 0) (rm1 l Z aw hw [] b63 k63 f30 h71 n0 Z71 w71 (by first | assumption | decide)) hZ (hw _ (List.mem_of_getElem? (i := 5) rfl)) (hw _ (List.mem_of_getElem? (i := 4) rfl)) (by decide) (by decide)) (g := (mkF m 35 #[.val (.int p0), .val (.int p1), .val (.int p2), .val (.int p3), .val (.int p4), .val (.int p5), .val (.ref b63), .unset, .unset, .unset, .unset, .unset] [(.ref b63)])) rfl (by rw [hml]; rfl) (argsL := [(.ref b63)]) (rest := []) (lenOf own_pd3 rfl) rfl (by show 2 * 0 + _ ≤ _; exact Nat.le_of_eq rfl) (hb hby at_35) (fun _ _ => ⟨rfl, e71, (by decide : 1 + 0 ≤ _), (by decide : 4 + 0 ≤ _)⟩)
  dsimp only [Pt.U, Pt.locs, Pt.cells, Pt.slots] at X72 l72 y72 z72 st72 hQ72
  subst l72 y72 z72
  obtain ⟨rfl, N72q, K72q, xV72⟩ := hQ72
  have N72 := Fr.app N71 N72q
  have Z72 : n0 ≤ T72.heap.size := Nat.le_trans Z71 K72q.1
  have K72 := Keep.trans K71 K72q (allS (Or.inr sz_b63) all0)
  refine own_go (U' := T72.setTop (mkF m 38 #[.val (.int p0), .val (.int p1), .val (.int p2), .val (.int p3), .val (.int p4), .val (.int p5), .val (.ref b63), .unset, .unset, .unset, .unset, .unset] [])) (fun _ k => st72 _ k) ?_
  obtain ⟨T73, h73, X73, e73, E73, A73, D73, -, st73⟩ := newO X72 hx hZ hown (hw _ (List.mem_of_getElem? (i := 10) rfl)) (hw _ (List.mem_of_getElem? (i := 11) rfl)) (hw _ (List.mem_of_getElem? (i := 12) rfl)) rfl (g := (mkF m 38 #[.val (.int p0), .val (.int p1), .val (.int p2), .val (.int p3), .val (.int p4), .val (.int p5), .val (.ref b63), .unset, .unset, .unset, .unset, .unset] [])) rfl (hb hby at_38) (by decide) (by decide)
  obtain ⟨b73, g73⟩ : ∃ z, z = T72.heap.size := ⟨_, rfl⟩
  have g_b73 : n0 ≤ b73 := Nat.le_trans Z72 (Nat.le_of_eq g73.symm)
  have sz_b73 : h0.size ≤ b73 := Nat.le_trans K72.1 (Nat.le_of_eq g73.symm)
  have ne_b63_b73 : b63 ≠ b73 := Nat.ne_of_lt (Nat.lt_of_lt_of_le xV72.lt (Nat.le_of_eq g73.symm))
  rw [← g73] at A73 D73 st73
  have c73_0 : own_Arf Z h73 b63 k63 .int (4 : Int32) (own_fix f30) := xV72.ext E73
  have Z73 : n0 ≤ h73.size := Nat.le_trans Z72 E73.1
  have K73 := Keep.ext K72 E73
  have F73_20 : Fld Z h73 b73 "com/example/layout_to_evidence/layouttoevidence/CellSpan" "startRow" "I" (.int (0 : Int32)) := D73 (Or.inr (hw _ (List.mem_of_getElem? (i := 20) rfl))) (ty := .int) (by decide)
  have F73_22 : Fld Z h73 b73 "com/example/layout_to_evidence/layouttoevidence/CellSpan" "endRow" "I" (.int (0 : Int32)) := D73 (Or.inr (hw _ (List.mem_of_getElem? (i := 22) rfl))) (ty := .int) (by decide)
  have F73_24 : Fld Z h73 b73 "com/example/layout_to_evidence/layouttoevidence/CellSpan" "startColumn" "I" (.int (0 : Int32)) := D73 (Or.inr (hw _ (List.mem_of_getElem? (i := 24) rfl))) (ty := .int) (by decide)
  have F73_26 : Fld Z h73 b73 "com/example/layout_to_evidence/layouttoevidence/CellSpan" "endColumn" "I" (.int (0 : Int32)) := D73 (Or.inr (hw _ (List.mem_of_getElem? (i := 26) rfl))) (ty := .int) (by decide)
  refine own_go (U' := T73.setTop (mkF m 41 #[.val (.int p0), .val (.int p1), .val (.int p2), .val (.int p3), .val (.int p4), .val (.int p5), .val (.ref b63), .unset, .unset, .unset, .unset, .unset] [(.ref b73)])) (fun _ k => st73 _ k) ?_
  refine own_go (U' := T73.setTop (mkF m 42 #[.val (.int p0), .val (.int p1), .val (.int p2), .val (.int p3), .val (.int p4), .val (.int p5), .val (.ref b63), .unset, .unset, .unset, .unset, .unset] [(.ref b73), (.ref b73)])) (fun _ k => XS.dup X73.here hx rfl (hb hby at_41) rfl rfl k) ?_
  obtain ⟨ea0, ea1, ea2, ea3⟩ := own_four hf9 hf16 hf23 hf30
  have hfx := own_fixok (f := f30) (by rw [ea0]; exact own_mask _) (by rw [ea1]; exact own_mask _) (by rw [ea2]; exact own_mask _) (by rw [ea3]; exact own_mask _)
  obtain ⟨ho1, ho2, ho3, ho4, ho5⟩ := own_five hfx
  refine own_go (U' := T73.setTop (mkF m 44 #[.val (.int p0), .val (.int p1), .val (.int p2), .val (.int p3), .val (.int p4), .val (.int p5), .val (.ref b63), .unset, .unset, .unset, .unset, .unset] [(.ref b63), (.ref b73), (.ref b73)])) (fun _ k => XS.aload X73.here hx rfl (hb hby at_42) rfl rfl k) ?_
  refine own_go (U' := T73.setTop (mkF m 45 #[.val (.int p0), .val (.int p1), .val (.int p2), .val (.int p3), .val (.int p4), .val (.int p5), .val (.ref b63), .unset, .unset, .unset, .unset, .unset] [(.int (0 : Int32)), (.ref b63), (.ref b73), (.ref b73)])) (fun _ k => XS.iconst X73.here hx rfl (hb hby at_44) k) ?_
  have V74 := c73_0
  obtain ⟨cl74, Ar74, q74, S74, Ng74, Hh74⟩ := V74
  have hj74 : ¬ (0 : Int32) < 0 ∧ (0 : Int32) < (4 : Int32) := ⟨by decide, by decide⟩
  have hat74 := Hh74 _ hj74.1 hj74.2
  refine own_go (U' := T73.setTop (mkF m 46 #[.val (.int p0), .val (.int p1), .val (.int p2), .val (.int p3), .val (.int p4), .val (.int p5), .val (.ref b63), .unset, .unset, .unset, .unset, .unset] [(.int ((own_fix f30) (0 : Int32))), (.ref b73), (.ref b73)])) (fun _ k => X73.iaload hx (j := (0 : Int32)) (v := (.int ((own_fix f30) (0 : Int32)))) (own_cell e73 Ar74.1) (State.isArrayOf_alike hZ.alike Ar74.2.1) Ar74.2.2 (inb_of S74 hj74) hat74 (g := (mkF m 45 #[.val (.int p0), .val (.int p1), .val (.int p2), .val (.int p3), .val (.int p4), .val (.int p5), .val (.ref b63), .unset, .unset, .unset, .unset, .unset] [(.int (0 : Int32)), (.ref b63), (.ref b73), (.ref b73)])) rfl rfl (hb hby at_45) _ k) ?_
  refine own_go (U' := T73.setTop (mkF m 48 #[.val (.int p0), .val (.int p1), .val (.int p2), .val (.int p3), .val (.int p4), .val (.int p5), .val (.ref b63), .unset, .unset, .unset, .unset, .unset] [(.ref b63), (.int ((own_fix f30) (0 : Int32))), (.ref b73), (.ref b73)])) (fun _ k => XS.aload X73.here hx rfl (hb hby at_46) rfl rfl k) ?_
  refine own_go (U' := T73.setTop (mkF m 49 #[.val (.int p0), .val (.int p1), .val (.int p2), .val (.int p3), .val (.int p4), .val (.int p5), .val (.ref b63), .unset, .unset, .unset, .unset, .unset] [(.int (1 : Int32)), (.ref b63), (.int ((own_fix f30) (0 : Int32))), (.ref b73), (.ref b73)])) (fun _ k => XS.iconst X73.here hx rfl (hb hby at_48) k) ?_
  have V75 := c73_0
  obtain ⟨cl75, Ar75, q75, S75, Ng75, Hh75⟩ := V75
  have hj75 : ¬ (1 : Int32) < 0 ∧ (1 : Int32) < (4 : Int32) := ⟨by decide, by decide⟩
  have hat75 := Hh75 _ hj75.1 hj75.2
  refine own_go (U' := T73.setTop (mkF m 50 #[.val (.int p0), .val (.int p1), .val (.int p2), .val (.int p3), .val (.int p4), .val (.int p5), .val (.ref b63), .unset, .unset, .unset, .unset, .unset] [(.int ((own_fix f30) (1 : Int32))), (.int ((own_fix f30) (0 : Int32))), (.ref b73), (.ref b73)])) (fun _ k => X73.iaload hx (j := (1 : Int32)) (v := (.int ((own_fix f30) (1 : Int32)))) (own_cell e73 Ar75.1) (State.isArrayOf_alike hZ.alike Ar75.2.1) Ar75.2.2 (inb_of S75 hj75) hat75 (g := (mkF m 49 #[.val (.int p0), .val (.int p1), .val (.int p2), .val (.int p3), .val (.int p4), .val (.int p5), .val (.ref b63), .unset, .unset, .unset, .unset, .unset] [(.int (1 : Int32)), (.ref b63), (.int ((own_fix f30) (0 : Int32))), (.ref b73), (.ref b73)])) rfl rfl (hb hby at_49) _ k) ?_
  refine own_go (U' := T73.setTop (mkF m 52 #[.val (.int p0), .val (.int p1), .val (.int p2), .val (.int p3), .val (.int p4), .val (.int p5), .val (.ref b63), .unset, .unset, .unset, .unset, .unset] [(.ref b63), (.int ((own_fix f30) (1 : Int32))), (.int ((own_fix f30) (0 : Int32))), (.ref b73), (.ref b73)])) (fun _ k => XS.aload X73.here hx rfl (hb hby at_50) rfl rfl k) ?_
  refine own_go (U' := T73.setTop (mkF m 53 #[.val (.int p0), .val (.int p1), .val (.int p2), .val (.int p3), .val (.int p4), .val (.int p5), .val (.ref b63), .unset, .unset, .unset, .unset, .unset] [(.int (2 : Int32)), (.ref b63), (.int ((own_fix f30) (1 : Int32))), (.int ((own_fix f30) (0 : Int32))), (.ref b73), (.ref b73)])) (fun _ k => XS.iconst X73.here hx rfl (hb hby at_52) k) ?_
  have V76 := c73_0
  obtain ⟨cl76, Ar76, q76, S76, Ng76, Hh76⟩ := V76
  have hj76 : ¬ (2 : Int32) < 0 ∧ (2 : Int32) < (4 : Int32) := ⟨by decide, by decide⟩
  have hat76 := Hh76 _ hj76.1 hj76.2
  refine own_go (U' := T73.setTop (mkF m 54 #[.val (.int p0), .val (.int p1), .val (.int p2), .val (.int p3), .val (.int p4), .val (.int p5), .val (.ref b63), .unset, .unset, .unset, .unset, .unset] [(.int ((own_fix f30) (2 : Int32))), (.int ((own_fix f30) (1 : Int32))), (.int ((own_fix f30) (0 : Int32))), (.ref b73), (.ref b73)])) (fun _ k => X73.iaload hx (j := (2 : Int32)) (v := (.int ((own_fix f30) (2 : Int32)))) (own_cell e73 Ar76.1) (State.isArrayOf_alike hZ.alike Ar76.2.1) Ar76.2.2 (inb_of S76 hj76) hat76 (g := (mkF m 53 #[.val (.int p0), .val (.int p1), .val (.int p2), .val (.int p3), .val (.int p4), .val (.int p5), .val (.ref b63), .unset, .unset, .unset, .unset, .unset] [(.int (2 : Int32)), (.ref b63), (.int ((own_fix f30) (1 : Int32))), (.int ((own_fix f30) (0 : Int32))), (.ref b73), (.ref b73)])) rfl rfl (hb hby at_53) _ k) ?_
  refine own_go (U' := T73.setTop (mkF m 56 #[.val (.int p0), .val (.int p1), .val (.int p2), .val (.int p3), .val (.int p4), .val (.int p5), .val (.ref b63), .unset, .unset, .unset, .unset, .unset] [(.ref b63), (.int ((own_fix f30) (2 : Int32))), (.int ((own_fix f30) (1 : Int32))), (.int ((own_fix f30) (0 : Int32))), (.ref b73), (.ref b73)])) (fun _ k => XS.aload X73.here hx rfl (hb hby at_54) rfl rfl k) ?_
  refine own_go (U' := T73.setTop (mkF m 57 #[.val (.int p0), .val (.int p1), .val (.int p2), .val (.int p3), .val (.int p4), .val (.int p5), .val (.ref b63), .unset, .unset, .unset, .unset, .unset] [(.int (3 : Int32)), (.ref b63), (.int ((own_fix f30) (2 : Int32))), (.int ((own_fix f30) (1 : Int32))), (.int ((own_fix f30) (0 : Int32))), (.ref b73), (.ref b73)])) (fun _ k => XS.iconst X73.here hx rfl (hb hby at_56) k) ?_
  have V77 := c73_0
  obtain ⟨cl77, Ar77, q77, S77, Ng77, Hh77⟩ := V77
  have hj77 : ¬ (3 : Int32) < 0 ∧ (3 : Int32) < (4 : Int32) := ⟨by decide, by decide⟩
  have hat77 := Hh77 _ hj77.1 hj77.2
  refine own_go (U' := T73.setTop (mkF m 58 #[.val (.int p0), .val (.int p1), .val (.int p2), .val (.int p3), .val (.int p4), .val (.int p5), .val (.ref b63), .unset, .unset, .unset, .unset, .unset] [(.int ((own_fix f30) (3 : Int32))), (.int ((own_fix f30) (2 : Int32))), (.int ((own_fix f30) (1 : Int32))), (.int ((own_fix f30) (0 : Int32))), (.ref b73), (.ref b73)])) (fun _ k => X73.iaload hx (j := (3 : Int32)) (v := (.int ((own_fix f30) (3 : Int32)))) (own_cell e73 Ar77.1) (State.isArrayOf_alike hZ.alike Ar77.2.1) Ar77.2.2 (inb_of S77 hj77) hat77 (g := (mkF m 57 #[.val (.int p0), .val (.int p1), .val (.int p2), .val (.int p3), .val (.int p4), .val (.int p5), .val (.ref b63), .unset, .unset, .unset, .unset, .unset] [(.int (3 : Int32)), (.ref b63), (.int ((own_fix f30) (2 : Int32))), (.int ((own_fix f30) (1 : Int32))), (.int ((own_fix f30) (0 : Int32))), (.ref b73), (.ref b73)])) rfl rfl (hb hby at_57) _ k) ?_
  obtain ⟨_, _, ⟨T78, L78, k78, n78⟩, -, X78, ⟨Lc78, hQ78, l78, y78, z78⟩, st78⟩ := X73.specialBack hx (y := (⟨"com/example/layout_to_evidence/layouttoevidence/CellSpan", "<init>", "(IIII)V"⟩ : MethodName)) rfl hown (mvT hZ (hw _ (List.mem_of_getElem? (i := 13) rfl))) (mvT hZ (hw _ (List.mem_of_getElem? (i := 14) rfl))) (mvT hZ (hw _ (List.mem_of_getElem? (i := 15) rfl))) (by decide) (backOf (W := 1) (rm3 l Z aw hw [] b73 ((own_fix f30) (0 : Int32)) ((own_fix f30) (1 : Int32)) ((own_fix f30) (2 : Int32)) ((own_fix f30) (3 : Int32)) h73 n0 Z73 A73 F73_20 F73_22 F73_24 F73_26 (by first | assumption | decide) (by first | assumption | decide) (by first | assumption | decide) (by first | assumption | decide) (by first | assumption | decide) (by first | assumption | decide)) hZ (hw _ (List.mem_of_getElem? (i := 15) rfl)) (hw _ (List.mem_of_getElem? (i := 12) rfl)) (by decide) (by decide)) (g := (mkF m 58 #[.val (.int p0), .val (.int p1), .val (.int p2), .val (.int p3), .val (.int p4), .val (.int p5), .val (.ref b63), .unset, .unset, .unset, .unset, .unset] [(.int ((own_fix f30) (3 : Int32))), (.int ((own_fix f30) (2 : Int32))), (.int ((own_fix f30) (1 : Int32))), (.int ((own_fix f30) (0 : Int32))), (.ref b73), (.ref b73)])) rfl (by rw [hml]; rfl) (Steps.refl _) (a := b73) (argsL := [(.int ((own_fix f30) (0 : Int32))), (.int ((own_fix f30) (1 : Int32))), (.int ((own_fix f30) (2 : Int32))), (.int ((own_fix f30) (3 : Int32)))]) (rest := [(.ref b73)]) (lenOf own_pd4 rfl) rfl (by show 2 * 0 + _ ≤ _; exact Nat.le_of_eq rfl) (hb hby at_58) (fun _ _ => ⟨rfl, e73, (by decide : 2 + 0 ≤ _), (by decide : 8 + 0 ≤ _)⟩)
  dsimp only [Pt.U, Pt.locs, Pt.cells, Pt.slots] at X78 l78 y78 z78 st78 hQ78
  subst l78 y78 z78
  obtain ⟨rfl, N78q, K78q, xE78, x078, x178, x278, x378⟩ := hQ78
  have N78 := Fr.app N72 N78q
  have c78_0 : own_Arf Z T78.heap b63 k63 .int (4 : Int32) (own_fix f30) := c73_0.keep K78q (ninS ne_b63_b73 nin0)
  have c78_1 : Exa Z T78.heap b73 "com/example/layout_to_evidence/layouttoevidence/CellSpan" := A73.keep K78q
  have Z78 : n0 ≤ T78.heap.size := Nat.le_trans Z73 K78q.1
  have K78 := Keep.trans K73 K78q (allS (Or.inr sz_b73) all0)
  refine own_go (U' := T78.setTop (mkF m 61 #[.val (.int p0), .val (.int p1), .val (.int p2), .val (.int p3), .val (.int p4), .val (.int p5), .val (.ref b63), .unset, .unset, .unset, .unset, .unset] [(.ref b73)])) (fun _ k => st78.trans k) ?_
  refine own_go (U' := T78.setTop (mkF m 63 #[.val (.int p0), .val (.int p1), .val (.int p2), .val (.int p3), .val (.int p4), .val (.int p5), .val (.ref b63), .val (.ref b73), .unset, .unset, .unset, .unset] [])) (fun _ k => XS.astore X78.here hx rfl (hb hby at_61) rfl rfl (l' := #[.val (.int p0), .val (.int p1), .val (.int p2), .val (.int p3), .val (.int p4), .val (.int p5), .val (.ref b63), .val (.ref b73), .unset, .unset, .unset, .unset]) rfl k) ?_
  refine own_go (U' := T78.setTop (mkF m 65 #[.val (.int p0), .val (.int p1), .val (.int p2), .val (.int p3), .val (.int p4), .val (.int p5), .val (.ref b63), .val (.ref b73), .unset, .unset, .unset, .unset] [(.int p5)])) (fun _ k => XS.iload X78.here hx rfl (hb hby at_63) rfl k) ?_
  refine own_go (U' := T78.setTop (mkF m 67 #[.val (.int p0), .val (.int p1), .val (.int p2), .val (.int p3), .val (.int p4), .val (.int p5), .val (.ref b63), .val (.ref b73), .unset, .unset, .unset, .unset] [(.int (7 : Int32)), (.int p5)])) (fun _ k => XS.bipush X78.here hx rfl (hb hby at_65) k) ?_
  refine own_go (U' := T78.setTop (mkF m 68 #[.val (.int p0), .val (.int p1), .val (.int p2), .val (.int p3), .val (.int p4), .val (.int p5), .val (.ref b63), .val (.ref b73), .unset, .unset, .unset, .unset] [(.int (p5 &&& (7 : Int32)))])) (fun _ k => XS.iand X78.here hx rfl (hb hby at_67) rfl k) ?_
  generalize hy68 : (p5 &&& (7 : Int32)) = y68
  refine own_go (U' := T78.setTop (mkF m 70 #[.val (.int p0), .val (.int p1), .val (.int p2), .val (.int p3), .val (.int p4), .val (.int p5), .val (.ref b63), .val (.ref b73), .val (.int y68), .unset, .unset, .unset] [])) (fun _ k => XS.istore X78.here hx rfl (hb hby at_68) rfl (l' := #[.val (.int p0), .val (.int p1), .val (.int p2), .val (.int p3), .val (.int p4), .val (.int p5), .val (.ref b63), .val (.ref b73), .val (.int y68), .unset, .unset, .unset]) rfl k) ?_
  refine own_go (U' := T78.setTop (mkF m 72 #[.val (.int p0), .val (.int p1), .val (.int p2), .val (.int p3), .val (.int p4), .val (.int p5), .val (.ref b63), .val (.ref b73), .val (.int y68), .unset, .unset, .unset] [(.int y68)])) (fun _ k => XS.iload X78.here hx rfl (hb hby at_70) rfl k) ?_
  refine own_go (U' := T78.setTop (mkF m 73 #[.val (.int p0), .val (.int p1), .val (.int p2), .val (.int p3), .val (.int p4), .val (.int p5), .val (.ref b63), .val (.ref b73), .val (.int y68), .unset, .unset, .unset] [(.int (5 : Int32)), (.int y68)])) (fun _ k => XS.iconst X78.here hx rfl (hb hby at_72) k) ?_
  by_cases hc73_79 : y68 = (5 : Int32)
  · refine own_go (U' := T78.setTop (mkF m 76 #[.val (.int p0), .val (.int p1), .val (.int p2), .val (.int p3), .val (.int p4), .val (.int p5), .val (.ref b63), .val (.ref b73), .val (.int y68), .unset, .unset, .unset] [])) (fun _ k => XS.icmpNo X78.here hx rfl (hb hby at_73) rfl (teq hc73_79).2 k) ?_
    refine own_go (U' := T78.setTop (mkF m 78 #[.val (.int p0), .val (.int p1), .val (.int p2), .val (.int p3), .val (.int p4), .val (.int p5), .val (.ref b63), .val (.ref b73), .val (.int y68), .unset, .unset, .unset] [(.ref b73)])) (fun _ k => XS.aload X78.here hx rfl (hb hby at_76) rfl rfl k) ?_
    refine own_go (U' := T78.setTop (mkF m 79 #[.val (.int p0), .val (.int p1), .val (.int p2), .val (.int p3), .val (.int p4), .val (.int p5), .val (.ref b63), .val (.ref b73), .val (.int y68), .unset, .unset, .unset] [.null, (.ref b73)])) (fun _ k => XS.aconstNull X78.here hx rfl (hb hby at_78) k) ?_
    obtain ⟨cq80, kq80, q80a, q80b, q80c⟩ := isOf hZ rfl xE78
    obtain ⟨_, _, ⟨T80, L80, k80, n80⟩, -, X80, ⟨Lc80, hQ80, l80, y80, z80⟩, st80⟩ := X78.virtualBack hx (y := (⟨"com/example/layout_to_evidence/layouttoevidence/CellSpan", "equals", "(Ljava/lang/Object;)Z"⟩ : MethodName)) (z := (⟨"com/example/layout_to_evidence/layouttoevidence/CellSpan", "equals", "(Ljava/lang/Object;)Z"⟩ : MethodName)) hown (mvT hZ (hw _ (List.mem_of_getElem? (i := 27) rfl))) (mvT hZ (hw _ (List.mem_of_getElem? (i := 28) rfl))) (notFace_of_selects (args := #[]) (mvT hZ (hw _ (List.mem_of_getElem? (i := 30) rfl)))) (mvT hZ (hw _ (List.mem_of_getElem? (i := 30) rfl))) (mvT hZ (hw _ (List.mem_of_getElem? (i := 29) rfl))) (by decide) (backOf (W := 0) (rm5n l Z aw hw [] b73 T78.heap n0 Z78 ) hZ (hw _ (List.mem_of_getElem? (i := 31) rfl)) (hw _ (List.mem_of_getElem? (i := 12) rfl)) (by decide) (by decide)) q80a q80c (g := (mkF m 79 #[.val (.int p0), .val (.int p1), .val (.int p2), .val (.int p3), .val (.int p4), .val (.int p5), .val (.ref b63), .val (.ref b73), .val (.int y68), .unset, .unset, .unset] [.null, (.ref b73)])) rfl (by rw [hml]; rfl) (Steps.refl _) (argsL := [.null]) (rest := []) (lenOf own_pd5 rfl) rfl (by show 2 * 0 + _ ≤ _; exact Nat.le_of_eq rfl) (hb hby at_79) (fun _ _ => ⟨rfl, rfl, (by decide : 2 + 0 ≤ _), (by decide : 8 + 0 ≤ _)⟩)
    dsimp only [Pt.U, Pt.locs, Pt.cells, Pt.slots] at X80 l80 y80 z80 st80 hQ80
    subst l80 y80 z80
    obtain ⟨rfl, N80q, e80⟩ := hQ80
    have N80 := Fr.app N78 N80q
    refine own_go (U' := T80.setTop (mkF m 82 #[.val (.int p0), .val (.int p1), .val (.int p2), .val (.int p3), .val (.int p4), .val (.int p5), .val (.ref b63), .val (.ref b73), .val (.int y68), .unset, .unset, .unset] [(.int (f_5n b73))])) (fun _ k => st80.trans k) ?_
    have hc82_81 : (f_5n b73) = (0 : Int32) := rfl
    refine own_go (U' := T80.setTop (mkF m 85 #[.val (.int p0), .val (.int p1), .val (.int p2), .val (.int p3), .val (.int p4), .val (.int p5), .val (.ref b63), .val (.ref b73), .val (.int y68), .unset, .unset, .unset] [])) (fun _ k => XS.ifNo X80.here hx rfl (hb hby at_82) rfl ((if0 _ _).trans (teq hc82_81).2) k) ?_
    refine own_go (U' := T80.setTop (mkF m 86 #[.val (.int p0), .val (.int p1), .val (.int p2), .val (.int p3), .val (.int p4), .val (.int p5), .val (.ref b63), .val (.ref b73), .val (.int y68), .unset, .unset, .unset] [(.int (1 : Int32))])) (fun _ k => XS.iconst X80.here hx rfl (hb hby at_85) k) ?_
    refine own_go (U' := T80.setTop (mkF m 90 #[.val (.int p0), .val (.int p1), .val (.int p2), .val (.int p3), .val (.int p4), .val (.int p5), .val (.ref b63), .val (.ref b73), .val (.int y68), .unset, .unset, .unset] [(.int (1 : Int32))])) (fun _ k => XS.goto X80.here hx rfl (pc0 := 86) (pc' := 90) rfl (hb hby at_86) (by decide) (by decide) k) ?_
    refine own_ret X80 (v := (some (.int (1 : Int32)))) hlk (fun h => by rw [Bd.returns] at h; cases h) (by decide) (by decide) (fun fs hr => retN X80 hx (t := .boolean) Bd.returns (by simp) (hb hby at_90) hr) ?_
    show (Q0 Z p0 p1 p2 p3 p4 p5 wc h0 n0) _ T80.heap _
    rw [e80]
    exact ⟨rfl, N80⟩
  · refine own_go (U' := T78.setTop (mkF m 91 #[.val (.int p0), .val (.int p1), .val (.int p2), .val (.int p3), .val (.int p4), .val (.int p5), .val (.ref b63), .val (.ref b73), .val (.int y68), .unset, .unset, .unset] [])) (fun _ k => XS.icmpYes X78.here hx rfl (pc0 := 73) (pc' := 91) rfl (hb hby at_73) rfl (feq hc73_79).2 (by decide) (by decide) k) ?_
    refine own_go (U' := T78.setTop (mkF m 93 #[.val (.int p0), .val (.int p1), .val (.int p2), .val (.int p3), .val (.int p4), .val (.int p5), .val (.ref b63), .val (.ref b73), .val (.int y68), .unset, .unset, .unset] [(.int y68)])) (fun _ k => XS.iload X78.here hx rfl (hb hby at_91) rfl k) ?_
    refine own_go (U' := T78.setTop (mkF m 95 #[.val (.int p0), .val (.int p1), .val (.int p2), .val (.int p3), .val (.int p4), .val (.int p5), .val (.ref b63), .val (.ref b73), .val (.int y68), .unset, .unset, .unset] [(.int (6 : Int32)), (.int y68)])) (fun _ k => XS.bipush X78.here hx rfl (hb hby at_93) k) ?_
    by_cases hc95_82 : y68 = (6 : Int32)
    · refine own_go (U' := T78.setTop (mkF m 98 #[.val (.int p0), .val (.int p1), .val (.int p2), .val (.int p3), .val (.int p4), .val (.int p5), .val (.ref b63), .val (.ref b73), .val (.int y68), .unset, .unset, .unset] [])) (fun _ k => XS.icmpNo X78.here hx rfl (hb hby at_95) rfl (teq hc95_82).2 k) ?_
      have S_h2 := own_sta_keep S_h K78
      have S_c2 := own_sta_keep S_c K78
      have C_2 := C_.keep K78
      refine own_go (U' := T78.setTop (mkF m 100 #[.val (.int p0), .val (.int p1), .val (.int p2), .val (.int p3), .val (.int p4), .val (.int p5), .val (.ref b63), .val (.ref b73), .val (.int y68), .unset, .unset, .unset] [(.int p4)])) (fun _ k => XS.iload X78.here hx rfl (hb hby at_98) rfl k) ?_
      obtain ⟨_, _, ⟨T83, L83, k83, n83⟩, -, X83, ⟨Lc83, hQ83, l83, y83, z83⟩, st83⟩ := Jvm.LawKit.callS X78 hx (y := (⟨"java/lang/Integer", "valueOf", "(I)Ljava/lang/Integer;"⟩ : MethodName)) hown (mvT hZ (hw _ (List.mem_of_getElem? (i := 34) rfl))) (mvT hZ (hw _ (List.mem_of_getElem? (i := 35) rfl))) (mvT hZ (hw _ (List.mem_of_getElem? (i := 36) rfl))) (mvT hZ (hw _ (List.mem_of_getElem? (i := 37) rfl))) (by decide) (backOf (W := 0) (rm6 l Z aw hw [] p4 wc T78.heap n0 Z78 S_h2 S_c2 (by first | assumption | decide)) hZ (hw _ (List.mem_of_getElem? (i := 37) rfl)) (hw _ (List.mem_of_getElem? (i := 36) rfl)) (by decide) (by decide)) (g := (mkF m 100 #[.val (.int p0), .val (.int p1), .val (.int p2), .val (.int p3), .val (.int p4), .val (.int p5), .val (.ref b63), .val (.ref b73), .val (.int y68), .unset, .unset, .unset] [(.int p4)])) rfl (by rw [hml]; rfl) (argsL := [(.int p4)]) (rest := []) (lenOf own_pd6 rfl) rfl (by show 2 * 0 + _ ≤ _; exact Nat.le_of_eq rfl) (hb hby at_100) (fun _ _ => ⟨rfl, rfl, (by decide : 2 + 1 ≤ _), (by decide : 8 + 1 ≤ _)⟩)
      dsimp only [Pt.U, Pt.locs, Pt.cells, Pt.slots] at X83 l83 y83 z83 st83 hQ83
      subst l83 y83 z83
      obtain ⟨r83, rfl, N83q, K83q, xE83⟩ := hQ83
      have N83 := Fr.app N78 N83q
      have c83_0 : own_Arf Z T83.heap b63 k63 .int (4 : Int32) (own_fix f30) := c78_0.keep K83q nin0
      have c83_1 : Exa Z T83.heap b73 "com/example/layout_to_evidence/layouttoevidence/CellSpan" := xE78.keep K83q
      have c83_2 : Fld Z T83.heap b73 "com/example/layout_to_evidence/layouttoevidence/CellSpan" "startRow" "I" (.int ((own_fix f30) (0 : Int32))) := x078.keep K83q nin0
      have c83_3 : Fld Z T83.heap b73 "com/example/layout_to_evidence/layouttoevidence/CellSpan" "endRow" "I" (.int ((own_fix f30) (1 : Int32))) := x178.keep K83q nin0
      have c83_4 : Fld Z T83.heap b73 "com/example/layout_to_evidence/layouttoevidence/CellSpan" "startColumn" "I" (.int ((own_fix f30) (2 : Int32))) := x278.keep K83q nin0
      have c83_5 : Fld Z T83.heap b73 "com/example/layout_to_evidence/layouttoevidence/CellSpan" "endColumn" "I" (.int ((own_fix f30) (3 : Int32))) := x378.keep K83q nin0
      have c83_6 : Sta Z T83.heap "java/lang/Integer$IntegerCache" "high" "I" (.int (127 : Int32)) := own_sta_keep S_h2 K83q
      have c83_7 : Sta Z T83.heap "java/lang/Integer$IntegerCache" "cache" "[Ljava/lang/Integer;" (.ref wc) := own_sta_keep S_c2 K83q
      have Z83 : n0 ≤ T83.heap.size := Nat.le_trans Z78 K83q.1
      have K83 := Keep.trans K78 K83q all0
      refine own_go (U' := T83.setTop (mkF m 103 #[.val (.int p0), .val (.int p1), .val (.int p2), .val (.int p3), .val (.int p4), .val (.int p5), .val (.ref b63), .val (.ref b73), .val (.int y68), .unset, .unset, .unset] [(.ref r83)])) (fun _ k => st83 _ k) ?_
      refine own_go (U' := T83.setTop (mkF m 105 #[.val (.int p0), .val (.int p1), .val (.int p2), .val (.int p3), .val (.int p4), .val (.int p5), .val (.ref b63), .val (.ref b73), .val (.int y68), .val (.ref r83), .unset, .unset] [])) (fun _ k => XS.astore X83.here hx rfl (hb hby at_103) rfl rfl (l' := #[.val (.int p0), .val (.int p1), .val (.int p2), .val (.int p3), .val (.int p4), .val (.int p5), .val (.ref b63), .val (.ref b73), .val (.int y68), .val (.ref r83), .unset, .unset]) rfl k) ?_
      refine own_go (U' := T83.setTop (mkF m 107 #[.val (.int p0), .val (.int p1), .val (.int p2), .val (.int p3), .val (.int p4), .val (.int p5), .val (.ref b63), .val (.ref b73), .val (.int y68), .val (.ref r83), .unset, .unset] [(.ref b73)])) (fun _ k => XS.aload X83.here hx rfl (hb hby at_105) rfl rfl k) ?_
      refine own_go (U' := T83.setTop (mkF m 109 #[.val (.int p0), .val (.int p1), .val (.int p2), .val (.int p3), .val (.int p4), .val (.int p5), .val (.ref b63), .val (.ref b73), .val (.int y68), .val (.ref r83), .unset, .unset] [(.ref r83), (.ref b73)])) (fun _ k => XS.aload X83.here hx rfl (hb hby at_107) rfl rfl k) ?_
      obtain ⟨cq84, kq84, q84a, q84b, q84c⟩ := isOf hZ rfl c83_1
      obtain ⟨_, _, ⟨T84, L84, k84, n84⟩, -, X84, ⟨Lc84, hQ84, l84, y84, z84⟩, st84⟩ := X83.virtualBack hx (y := (⟨"com/example/layout_to_evidence/layouttoevidence/CellSpan", "equals", "(Ljava/lang/Object;)Z"⟩ : MethodName)) (z := (⟨"com/example/layout_to_evidence/layouttoevidence/CellSpan", "equals", "(Ljava/lang/Object;)Z"⟩ : MethodName)) hown (mvT hZ (hw _ (List.mem_of_getElem? (i := 27) rfl))) (mvT hZ (hw _ (List.mem_of_getElem? (i := 28) rfl))) (notFace_of_selects (args := #[]) (mvT hZ (hw _ (List.mem_of_getElem? (i := 30) rfl)))) (mvT hZ (hw _ (List.mem_of_getElem? (i := 30) rfl))) (mvT hZ (hw _ (List.mem_of_getElem? (i := 29) rfl))) (by decide) (backOf (W := 0) (rm5i l Z aw hw [] b73 r83 T83.heap n0 Z83 xE83) hZ (hw _ (List.mem_of_getElem? (i := 31) rfl)) (hw _ (List.mem_of_getElem? (i := 12) rfl)) (by decide) (by decide)) q84a q84c (g := (mkF m 109 #[.val (.int p0), .val (.int p1), .val (.int p2), .val (.int p3), .val (.int p4), .val (.int p5), .val (.ref b63), .val (.ref b73), .val (.int y68), .val (.ref r83), .unset, .unset] [(.ref r83), (.ref b73)])) rfl (by rw [hml]; rfl) (Steps.refl _) (argsL := [(.ref r83)]) (rest := []) (lenOf own_pd5 rfl) rfl (by show 2 * 0 + _ ≤ _; exact Nat.le_of_eq rfl) (hb hby at_109) (fun _ _ => ⟨rfl, rfl, (by decide : 3 + 0 ≤ _), (by decide : 9 + 0 ≤ _)⟩)
      dsimp only [Pt.U, Pt.locs, Pt.cells, Pt.slots] at X84 l84 y84 z84 st84 hQ84
      subst l84 y84 z84
      obtain ⟨rfl, N84q, e84⟩ := hQ84
      have N84 := Fr.app N83 N84q
      refine own_go (U' := T84.setTop (mkF m 112 #[.val (.int p0), .val (.int p1), .val (.int p2), .val (.int p3), .val (.int p4), .val (.int p5), .val (.ref b63), .val (.ref b73), .val (.int y68), .val (.ref r83), .unset, .unset] [(.int (f_5i b73 r83))])) (fun _ k => st84.trans k) ?_
      have hc112_85 : (f_5i b73 r83) = (0 : Int32) := rfl
      refine own_go (U' := T84.setTop (mkF m 115 #[.val (.int p0), .val (.int p1), .val (.int p2), .val (.int p3), .val (.int p4), .val (.int p5), .val (.ref b63), .val (.ref b73), .val (.int y68), .val (.ref r83), .unset, .unset] [])) (fun _ k => XS.ifNo X84.here hx rfl (hb hby at_112) rfl ((if0 _ _).trans (teq hc112_85).2) k) ?_
      refine own_go (U' := T84.setTop (mkF m 116 #[.val (.int p0), .val (.int p1), .val (.int p2), .val (.int p3), .val (.int p4), .val (.int p5), .val (.ref b63), .val (.ref b73), .val (.int y68), .val (.ref r83), .unset, .unset] [(.int (1 : Int32))])) (fun _ k => XS.iconst X84.here hx rfl (hb hby at_115) k) ?_
      refine own_go (U' := T84.setTop (mkF m 120 #[.val (.int p0), .val (.int p1), .val (.int p2), .val (.int p3), .val (.int p4), .val (.int p5), .val (.ref b63), .val (.ref b73), .val (.int y68), .val (.ref r83), .unset, .unset] [(.int (1 : Int32))])) (fun _ k => XS.goto X84.here hx rfl (pc0 := 116) (pc' := 120) rfl (hb hby at_116) (by decide) (by decide) k) ?_
      refine own_ret X84 (v := (some (.int (1 : Int32)))) hlk (fun h => by rw [Bd.returns] at h; cases h) (by decide) (by decide) (fun fs hr => retN X84 hx (t := .boolean) Bd.returns (by simp) (hb hby at_120) hr) ?_
      show (Q0 Z p0 p1 p2 p3 p4 p5 wc h0 n0) _ T84.heap _
      rw [e84]
      exact ⟨rfl, N84⟩
    · refine own_go (U' := T78.setTop (mkF m 121 #[.val (.int p0), .val (.int p1), .val (.int p2), .val (.int p3), .val (.int p4), .val (.int p5), .val (.ref b63), .val (.ref b73), .val (.int y68), .unset, .unset, .unset] [])) (fun _ k => XS.icmpYes X78.here hx rfl (pc0 := 95) (pc' := 121) rfl (hb hby at_95) rfl (feq hc95_82).2 (by decide) (by decide) k) ?_
      refine own_go (U' := T78.setTop (mkF m 123 #[.val (.int p0), .val (.int p1), .val (.int p2), .val (.int p3), .val (.int p4), .val (.int p5), .val (.ref b63), .val (.ref b73), .val (.int y68), .unset, .unset, .unset] [(.int y68)])) (fun _ k => XS.iload X78.here hx rfl (hb hby at_121) rfl k) ?_
      refine own_go (U' := T78.setTop (mkF m 125 #[.val (.int p0), .val (.int p1), .val (.int p2), .val (.int p3), .val (.int p4), .val (.int p5), .val (.ref b63), .val (.ref b73), .val (.int y68), .unset, .unset, .unset] [(.int (7 : Int32)), (.int y68)])) (fun _ k => XS.bipush X78.here hx rfl (hb hby at_123) k) ?_
      by_cases hc125_86 : y68 = (7 : Int32)
      · refine own_go (U' := T78.setTop (mkF m 128 #[.val (.int p0), .val (.int p1), .val (.int p2), .val (.int p3), .val (.int p4), .val (.int p5), .val (.ref b63), .val (.ref b73), .val (.int y68), .unset, .unset, .unset] [])) (fun _ k => XS.icmpNo X78.here hx rfl (hb hby at_125) rfl (teq hc125_86).2 k) ?_
        refine own_go (U' := T78.setTop (mkF m 130 #[.val (.int p0), .val (.int p1), .val (.int p2), .val (.int p3), .val (.int p4), .val (.int p5), .val (.ref b63), .val (.ref b73), .val (.int y68), .unset, .unset, .unset] [(.ref b73)])) (fun _ k => XS.aload X78.here hx rfl (hb hby at_128) rfl rfl k) ?_
        refine own_go (U' := T78.setTop (mkF m 132 #[.val (.int p0), .val (.int p1), .val (.int p2), .val (.int p3), .val (.int p4), .val (.int p5), .val (.ref b63), .val (.ref b73), .val (.int y68), .unset, .unset, .unset] [(.ref b73), (.ref b73)])) (fun _ k => XS.aload X78.here hx rfl (hb hby at_130) rfl rfl k) ?_
        obtain ⟨cq87, kq87, q87a, q87b, q87c⟩ := isOf hZ rfl xE78
        obtain ⟨_, _, ⟨T87, L87, k87, n87⟩, -, X87, ⟨Lc87, hQ87, l87, y87, z87⟩, st87⟩ := X78.virtualBack hx (y := (⟨"com/example/layout_to_evidence/layouttoevidence/CellSpan", "equals", "(Ljava/lang/Object;)Z"⟩ : MethodName)) (z := (⟨"com/example/layout_to_evidence/layouttoevidence/CellSpan", "equals", "(Ljava/lang/Object;)Z"⟩ : MethodName)) hown (mvT hZ (hw _ (List.mem_of_getElem? (i := 27) rfl))) (mvT hZ (hw _ (List.mem_of_getElem? (i := 28) rfl))) (notFace_of_selects (args := #[]) (mvT hZ (hw _ (List.mem_of_getElem? (i := 30) rfl)))) (mvT hZ (hw _ (List.mem_of_getElem? (i := 30) rfl))) (mvT hZ (hw _ (List.mem_of_getElem? (i := 29) rfl))) (by decide) (backOf (W := 0) (rm5 l Z aw hw [] b73 b73 ((own_fix f30) (0 : Int32)) ((own_fix f30) (1 : Int32)) ((own_fix f30) (2 : Int32)) ((own_fix f30) (3 : Int32)) ((own_fix f30) (0 : Int32)) ((own_fix f30) (1 : Int32)) ((own_fix f30) (2 : Int32)) ((own_fix f30) (3 : Int32)) T78.heap n0 Z78 xE78 x078 x178 x278 x378 x078 x178 x278 x378) hZ (hw _ (List.mem_of_getElem? (i := 31) rfl)) (hw _ (List.mem_of_getElem? (i := 12) rfl)) (by decide) (by decide)) q87a q87c (g := (mkF m 132 #[.val (.int p0), .val (.int p1), .val (.int p2), .val (.int p3), .val (.int p4), .val (.int p5), .val (.ref b63), .val (.ref b73), .val (.int y68), .unset, .unset, .unset] [(.ref b73), (.ref b73)])) rfl (by rw [hml]; rfl) (Steps.refl _) (argsL := [(.ref b73)]) (rest := []) (lenOf own_pd5 rfl) rfl (by show 2 * 0 + _ ≤ _; exact Nat.le_of_eq rfl) (hb hby at_132) (fun _ _ => ⟨rfl, rfl, (by decide : 2 + 0 ≤ _), (by decide : 8 + 0 ≤ _)⟩)
        dsimp only [Pt.U, Pt.locs, Pt.cells, Pt.slots] at X87 l87 y87 z87 st87 hQ87
        subst l87 y87 z87
        obtain ⟨rfl, N87q, e87⟩ := hQ87
        have N87 := Fr.app N78 N87q
        refine own_go (U' := T87.setTop (mkF m 135 #[.val (.int p0), .val (.int p1), .val (.int p2), .val (.int p3), .val (.int p4), .val (.int p5), .val (.ref b63), .val (.ref b73), .val (.int y68), .unset, .unset, .unset] [(.int (f_5 b73 b73 ((own_fix f30) (0 : Int32)) ((own_fix f30) (1 : Int32)) ((own_fix f30) (2 : Int32)) ((own_fix f30) (3 : Int32)) ((own_fix f30) (0 : Int32)) ((own_fix f30) (1 : Int32)) ((own_fix f30) (2 : Int32)) ((own_fix f30) (3 : Int32))))])) (fun _ k => st87.trans k) ?_
        refine own_ret X87 (v := (some (.int (nar .boolean (f_5 b73 b73 ((own_fix f30) (0 : Int32)) ((own_fix f30) (1 : Int32)) ((own_fix f30) (2 : Int32)) ((own_fix f30) (3 : Int32)) ((own_fix f30) (0 : Int32)) ((own_fix f30) (1 : Int32)) ((own_fix f30) (2 : Int32)) ((own_fix f30) (3 : Int32))))))) hlk (fun h => by rw [Bd.returns] at h; cases h) (by decide) (by decide) (fun fs hr => retN X87 hx (t := .boolean) Bd.returns (by simp) (hb hby at_135) hr) ?_
        show (Q0 Z p0 p1 p2 p3 p4 p5 wc h0 n0) _ T87.heap _
        rw [e87]
        exact ⟨congrArg (fun z => some (Value.int z)) (by rw [(own_eqs _ _ _ _ _ _ _ _ _ _).1]; simp only [if_true]; decide), N87⟩
      · refine own_go (U' := T78.setTop (mkF m 136 #[.val (.int p0), .val (.int p1), .val (.int p2), .val (.int p3), .val (.int p4), .val (.int p5), .val (.ref b63), .val (.ref b73), .val (.int y68), .unset, .unset, .unset] [])) (fun _ k => XS.icmpYes X78.here hx rfl (pc0 := 125) (pc' := 136) rfl (hb hby at_125) rfl (feq hc125_86).2 (by decide) (by decide) k) ?_
        refine own_go (U' := T78.setTop (mkF m 137 #[.val (.int p0), .val (.int p1), .val (.int p2), .val (.int p3), .val (.int p4), .val (.int p5), .val (.ref b63), .val (.ref b73), .val (.int y68), .unset, .unset, .unset] [(.int (4 : Int32))])) (fun _ k => XS.iconst X78.here hx rfl (hb hby at_136) k) ?_
        obtain ⟨T88, h88, k88, X88, e88, E88, A88, st88⟩ := newP X78 hx hZ (hw _ (List.mem_of_getElem? (i := 0) rfl)) rfl (g := (mkF m 137 #[.val (.int p0), .val (.int p1), .val (.int p2), .val (.int p3), .val (.int p4), .val (.int p5), .val (.ref b63), .val (.ref b73), .val (.int y68), .unset, .unset, .unset] [(.int (4 : Int32))])) rfl (hb hby at_137) rfl (by decide) (cap := 4) (by decide) (by decide) (by decide) (by decide)
        obtain ⟨b88, g88⟩ : ∃ z, z = T78.heap.size := ⟨_, rfl⟩
        have g_b88 : n0 ≤ b88 := Nat.le_trans Z78 (Nat.le_of_eq g88.symm)
        have sz_b88 : h0.size ≤ b88 := Nat.le_trans K78.1 (Nat.le_of_eq g88.symm)
        have ne_b63_b88 : b63 ≠ b88 := Nat.ne_of_lt (Nat.lt_of_lt_of_le c78_0.lt (Nat.le_of_eq g88.symm))
        have ne_b73_b88 : b73 ≠ b88 := Nat.ne_of_lt (Nat.lt_of_lt_of_le xE78.lt (Nat.le_of_eq g88.symm))
        rw [← g88] at A88 st88
        have c88_0 : own_Arf Z h88 b63 k63 .int (4 : Int32) (own_fix f30) := c78_0.ext E88
        have c88_1 : Exa Z h88 b73 "com/example/layout_to_evidence/layouttoevidence/CellSpan" := xE78.ext E88
        have c88_2 : Fld Z h88 b73 "com/example/layout_to_evidence/layouttoevidence/CellSpan" "startRow" "I" (.int ((own_fix f30) (0 : Int32))) := x078.ext E88
        have c88_3 : Fld Z h88 b73 "com/example/layout_to_evidence/layouttoevidence/CellSpan" "endRow" "I" (.int ((own_fix f30) (1 : Int32))) := x178.ext E88
        have c88_4 : Fld Z h88 b73 "com/example/layout_to_evidence/layouttoevidence/CellSpan" "startColumn" "I" (.int ((own_fix f30) (2 : Int32))) := x278.ext E88
        have c88_5 : Fld Z h88 b73 "com/example/layout_to_evidence/layouttoevidence/CellSpan" "endColumn" "I" (.int ((own_fix f30) (3 : Int32))) := x378.ext E88
        have Z88 : n0 ≤ h88.size := Nat.le_trans Z78 E88.1
        have K88 := Keep.ext K78 E88
        have V_b88 : own_Arf Z h88 b88 k88 .int (4 : Int32) (fun _ => (0 : Int32)) := own_Arf.new A88 (by decide) rfl
        refine own_go (U' := T88.setTop (mkF m 139 #[.val (.int p0), .val (.int p1), .val (.int p2), .val (.int p3), .val (.int p4), .val (.int p5), .val (.ref b63), .val (.ref b73), .val (.int y68), .unset, .unset, .unset] [(.ref b88)])) (fun _ k => st88 _ k) ?_
        refine own_go (U' := T88.setTop (mkF m 140 #[.val (.int p0), .val (.int p1), .val (.int p2), .val (.int p3), .val (.int p4), .val (.int p5), .val (.ref b63), .val (.ref b73), .val (.int y68), .unset, .unset, .unset] [(.ref b88), (.ref b88)])) (fun _ k => XS.dup X88.here hx rfl (hb hby at_139) rfl rfl k) ?_
        refine own_go (U' := T88.setTop (mkF m 141 #[.val (.int p0), .val (.int p1), .val (.int p2), .val (.int p3), .val (.int p4), .val (.int p5), .val (.ref b63), .val (.ref b73), .val (.int y68), .unset, .unset, .unset] [(.int (0 : Int32)), (.ref b88), (.ref b88)])) (fun _ k => XS.iconst X88.here hx rfl (hb hby at_140) k) ?_
        refine own_go (U' := T88.setTop (mkF m 143 #[.val (.int p0), .val (.int p1), .val (.int p2), .val (.int p3), .val (.int p4), .val (.int p5), .val (.ref b63), .val (.ref b73), .val (.int y68), .unset, .unset, .unset] [(.ref b63), (.int (0 : Int32)), (.ref b88), (.ref b88)])) (fun _ k => XS.aload X88.here hx rfl (hb hby at_141) rfl rfl k) ?_
        refine own_go (U' := T88.setTop (mkF m 144 #[.val (.int p0), .val (.int p1), .val (.int p2), .val (.int p3), .val (.int p4), .val (.int p5), .val (.ref b63), .val (.ref b73), .val (.int y68), .unset, .unset, .unset] [(.int (0 : Int32)), (.ref b63), (.int (0 : Int32)), (.ref b88), (.ref b88)])) (fun _ k => XS.iconst X88.here hx rfl (hb hby at_143) k) ?_
        have V89 := c88_0
        obtain ⟨cl89, Ar89, q89, S89, Ng89, Hh89⟩ := V89
        have hj89 : ¬ (0 : Int32) < 0 ∧ (0 : Int32) < (4 : Int32) := ⟨by decide, by decide⟩
        have hat89 := Hh89 _ hj89.1 hj89.2
        refine own_go (U' := T88.setTop (mkF m 145 #[.val (.int p0), .val (.int p1), .val (.int p2), .val (.int p3), .val (.int p4), .val (.int p5), .val (.ref b63), .val (.ref b73), .val (.int y68), .unset, .unset, .unset] [(.int ((own_fix f30) (0 : Int32))), (.int (0 : Int32)), (.ref b88), (.ref b88)])) (fun _ k => X88.iaload hx (j := (0 : Int32)) (v := (.int ((own_fix f30) (0 : Int32)))) (own_cell e88 Ar89.1) (State.isArrayOf_alike hZ.alike Ar89.2.1) Ar89.2.2 (inb_of S89 hj89) hat89 (g := (mkF m 144 #[.val (.int p0), .val (.int p1), .val (.int p2), .val (.int p3), .val (.int p4), .val (.int p5), .val (.ref b63), .val (.ref b73), .val (.int y68), .unset, .unset, .unset] [(.int (0 : Int32)), (.ref b63), (.int (0 : Int32)), (.ref b88), (.ref b88)])) rfl rfl (hb hby at_144) _ k) ?_
        have V90 := V_b88
        obtain ⟨cl90, Ar90, q90, S90, Ng90, Hh90⟩ := V90
        have hj90 : ¬ (0 : Int32) < 0 ∧ (0 : Int32) < (4 : Int32) := ⟨by decide, by decide⟩
        obtain ⟨T91, h91, X91, e91, W91, st91⟩ := stI X88 hx hZ e88 Ar90 (j := (0 : Int32)) (inb_of S90 hj90) (g := (mkF m 145 #[.val (.int p0), .val (.int p1), .val (.int p2), .val (.int p3), .val (.int p4), .val (.int p5), .val (.ref b63), .val (.ref b73), .val (.int y68), .unset, .unset, .unset] [(.int ((own_fix f30) (0 : Int32))), (.int (0 : Int32)), (.ref b88), (.ref b88)])) rfl rfl (hb hby at_145)
        obtain ⟨f145, hf145⟩ : ∃ F_ : Int32 → Int32, F_ = (fun i : Int32 => if i = (0 : Int32) then ((own_fix f30) (0 : Int32)) else (fun _ => (0 : Int32)) i) := ⟨_, rfl⟩
        have c91_0 : own_Arf Z h91 b63 k63 .int (4 : Int32) (own_fix f30) := c88_0.other W91 ne_b63_b88
        have c91_1 : Exa Z h91 b73 "com/example/layout_to_evidence/layouttoevidence/CellSpan" := c88_1.wr W91
        have c91_2 : Fld Z h91 b73 "com/example/layout_to_evidence/layouttoevidence/CellSpan" "startRow" "I" (.int ((own_fix f30) (0 : Int32))) := c88_2.other W91 (Or.inl ne_b73_b88)
        have c91_3 : Fld Z h91 b73 "com/example/layout_to_evidence/layouttoevidence/CellSpan" "endRow" "I" (.int ((own_fix f30) (1 : Int32))) := c88_3.other W91 (Or.inl ne_b73_b88)
        have c91_4 : Fld Z h91 b73 "com/example/layout_to_evidence/layouttoevidence/CellSpan" "startColumn" "I" (.int ((own_fix f30) (2 : Int32))) := c88_4.other W91 (Or.inl ne_b73_b88)
        have c91_5 : Fld Z h91 b73 "com/example/layout_to_evidence/layouttoevidence/CellSpan" "endColumn" "I" (.int ((own_fix f30) (3 : Int32))) := c88_5.other W91 (Or.inl ne_b73_b88)
        have w91 : own_Arf Z h91 b88 k88 .int (4 : Int32) f145 := by rw [hf145]; exact own_Arf.set Ar90 q90 S90 Ng90 Hh90 hj90 W91
        have Z91 : n0 ≤ h91.size := Nat.le_trans Z88 (Keep.of_wr W91).1
        have K91 := Keep.wr K88 W91 (Or.inr sz_b88)
        have N91 := Fr.snoc X91 N78 g_b88
        refine own_go (U' := T91.setTop (mkF m 146 #[.val (.int p0), .val (.int p1), .val (.int p2), .val (.int p3), .val (.int p4), .val (.int p5), .val (.ref b63), .val (.ref b73), .val (.int y68), .unset, .unset, .unset] [(.ref b88)])) (fun _ k => st91 _ k) ?_
        refine own_go (U' := T91.setTop (mkF m 147 #[.val (.int p0), .val (.int p1), .val (.int p2), .val (.int p3), .val (.int p4), .val (.int p5), .val (.ref b63), .val (.ref b73), .val (.int y68), .unset, .unset, .unset] [(.ref b88), (.ref b88)])) (fun _ k => XS.dup X91.here hx rfl (hb hby at_146) rfl rfl k) ?_
        refine own_go (U' := T91.setTop (mkF m 148 #[.val (.int p0), .val (.int p1), .val (.int p2), .val (.int p3), .val (.int p4), .val (.int p5), .val (.ref b63), .val (.ref b73), .val (.int y68), .unset, .unset, .unset] [(.int (1 : Int32)), (.ref b88), (.ref b88)])) (fun _ k => XS.iconst X91.here hx rfl (hb hby at_147) k) ?_
        refine own_go (U' := T91.setTop (mkF m 150 #[.val (.int p0), .val (.int p1), .val (.int p2), .val (.int p3), .val (.int p4), .val (.int p5), .val (.ref b63), .val (.ref b73), .val (.int y68), .unset, .unset, .unset] [(.ref b63), (.int (1 : Int32)), (.ref b88), (.ref b88)])) (fun _ k => XS.aload X91.here hx rfl (hb hby at_148) rfl rfl k) ?_
        refine own_go (U' := T91.setTop (mkF m 151 #[.val (.int p0), .val (.int p1), .val (.int p2), .val (.int p3), .val (.int p4), .val (.int p5), .val (.ref b63), .val (.ref b73), .val (.int y68), .unset, .unset, .unset] [(.int (1 : Int32)), (.ref b63), (.int (1 : Int32)), (.ref b88), (.ref b88)])) (fun _ k => XS.iconst X91.here hx rfl (hb hby at_150) k) ?_
        have V92 := c91_0
        obtain ⟨cl92, Ar92, q92, S92, Ng92, Hh92⟩ := V92
        have hj92 : ¬ (1 : Int32) < 0 ∧ (1 : Int32) < (4 : Int32) := ⟨by decide, by decide⟩
        have hat92 := Hh92 _ hj92.1 hj92.2
        refine own_go (U' := T91.setTop (mkF m 152 #[.val (.int p0), .val (.int p1), .val (.int p2), .val (.int p3), .val (.int p4), .val (.int p5), .val (.ref b63), .val (.ref b73), .val (.int y68), .unset, .unset, .unset] [(.int ((own_fix f30) (1 : Int32))), (.int (1 : Int32)), (.ref b88), (.ref b88)])) (fun _ k => X91.iaload hx (j := (1 : Int32)) (v := (.int ((own_fix f30) (1 : Int32)))) (own_cell e91 Ar92.1) (State.isArrayOf_alike hZ.alike Ar92.2.1) Ar92.2.2 (inb_of S92 hj92) hat92 (g := (mkF m 151 #[.val (.int p0), .val (.int p1), .val (.int p2), .val (.int p3), .val (.int p4), .val (.int p5), .val (.ref b63), .val (.ref b73), .val (.int y68), .unset, .unset, .unset] [(.int (1 : Int32)), (.ref b63), (.int (1 : Int32)), (.ref b88), (.ref b88)])) rfl rfl (hb hby at_151) _ k) ?_
        have V93 := w91
        obtain ⟨cl93, Ar93, q93, S93, Ng93, Hh93⟩ := V93
        have hj93 : ¬ (1 : Int32) < 0 ∧ (1 : Int32) < (4 : Int32) := ⟨by decide, by decide⟩
        obtain ⟨T94, h94, X94, e94, W94, st94⟩ := stI X91 hx hZ e91 Ar93 (j := (1 : Int32)) (inb_of S93 hj93) (g := (mkF m 152 #[.val (.int p0), .val (.int p1), .val (.int p2), .val (.int p3), .val (.int p4), .val (.int p5), .val (.ref b63), .val (.ref b73), .val (.int y68), .unset, .unset, .unset] [(.int ((own_fix f30) (1 : Int32))), (.int (1 : Int32)), (.ref b88), (.ref b88)])) rfl rfl (hb hby at_152)
        obtain ⟨f152, hf152⟩ : ∃ F_ : Int32 → Int32, F_ = (fun i : Int32 => if i = (1 : Int32) then ((own_fix f30) (1 : Int32)) else f145 i) := ⟨_, rfl⟩
        have c94_0 : own_Arf Z h94 b63 k63 .int (4 : Int32) (own_fix f30) := c91_0.other W94 ne_b63_b88
        have c94_1 : Exa Z h94 b73 "com/example/layout_to_evidence/layouttoevidence/CellSpan" := c91_1.wr W94
        have c94_2 : Fld Z h94 b73 "com/example/layout_to_evidence/layouttoevidence/CellSpan" "startRow" "I" (.int ((own_fix f30) (0 : Int32))) := c91_2.other W94 (Or.inl ne_b73_b88)
        have c94_3 : Fld Z h94 b73 "com/example/layout_to_evidence/layouttoevidence/CellSpan" "endRow" "I" (.int ((own_fix f30) (1 : Int32))) := c91_3.other W94 (Or.inl ne_b73_b88)
        have c94_4 : Fld Z h94 b73 "com/example/layout_to_evidence/layouttoevidence/CellSpan" "startColumn" "I" (.int ((own_fix f30) (2 : Int32))) := c91_4.other W94 (Or.inl ne_b73_b88)
        have c94_5 : Fld Z h94 b73 "com/example/layout_to_evidence/layouttoevidence/CellSpan" "endColumn" "I" (.int ((own_fix f30) (3 : Int32))) := c91_5.other W94 (Or.inl ne_b73_b88)
        have w94 : own_Arf Z h94 b88 k88 .int (4 : Int32) f152 := by rw [hf152]; exact own_Arf.set Ar93 q93 S93 Ng93 Hh93 hj93 W94
        have Z94 : n0 ≤ h94.size := Nat.le_trans Z91 (Keep.of_wr W94).1
        have K94 := Keep.wr K91 W94 (Or.inr sz_b88)
        have N94 := Fr.snoc X94 N91 g_b88
        refine own_go (U' := T94.setTop (mkF m 153 #[.val (.int p0), .val (.int p1), .val (.int p2), .val (.int p3), .val (.int p4), .val (.int p5), .val (.ref b63), .val (.ref b73), .val (.int y68), .unset, .unset, .unset] [(.ref b88)])) (fun _ k => st94 _ k) ?_
        refine own_go (U' := T94.setTop (mkF m 154 #[.val (.int p0), .val (.int p1), .val (.int p2), .val (.int p3), .val (.int p4), .val (.int p5), .val (.ref b63), .val (.ref b73), .val (.int y68), .unset, .unset, .unset] [(.ref b88), (.ref b88)])) (fun _ k => XS.dup X94.here hx rfl (hb hby at_153) rfl rfl k) ?_
        refine own_go (U' := T94.setTop (mkF m 155 #[.val (.int p0), .val (.int p1), .val (.int p2), .val (.int p3), .val (.int p4), .val (.int p5), .val (.ref b63), .val (.ref b73), .val (.int y68), .unset, .unset, .unset] [(.int (2 : Int32)), (.ref b88), (.ref b88)])) (fun _ k => XS.iconst X94.here hx rfl (hb hby at_154) k) ?_
        refine own_go (U' := T94.setTop (mkF m 157 #[.val (.int p0), .val (.int p1), .val (.int p2), .val (.int p3), .val (.int p4), .val (.int p5), .val (.ref b63), .val (.ref b73), .val (.int y68), .unset, .unset, .unset] [(.ref b63), (.int (2 : Int32)), (.ref b88), (.ref b88)])) (fun _ k => XS.aload X94.here hx rfl (hb hby at_155) rfl rfl k) ?_
        refine own_go (U' := T94.setTop (mkF m 158 #[.val (.int p0), .val (.int p1), .val (.int p2), .val (.int p3), .val (.int p4), .val (.int p5), .val (.ref b63), .val (.ref b73), .val (.int y68), .unset, .unset, .unset] [(.int (2 : Int32)), (.ref b63), (.int (2 : Int32)), (.ref b88), (.ref b88)])) (fun _ k => XS.iconst X94.here hx rfl (hb hby at_157) k) ?_
        have V95 := c94_0
        obtain ⟨cl95, Ar95, q95, S95, Ng95, Hh95⟩ := V95
        have hj95 : ¬ (2 : Int32) < 0 ∧ (2 : Int32) < (4 : Int32) := ⟨by decide, by decide⟩
        have hat95 := Hh95 _ hj95.1 hj95.2
        refine own_go (U' := T94.setTop (mkF m 159 #[.val (.int p0), .val (.int p1), .val (.int p2), .val (.int p3), .val (.int p4), .val (.int p5), .val (.ref b63), .val (.ref b73), .val (.int y68), .unset, .unset, .unset] [(.int ((own_fix f30) (2 : Int32))), (.int (2 : Int32)), (.ref b88), (.ref b88)])) (fun _ k => X94.iaload hx (j := (2 : Int32)) (v := (.int ((own_fix f30) (2 : Int32)))) (own_cell e94 Ar95.1) (State.isArrayOf_alike hZ.alike Ar95.2.1) Ar95.2.2 (inb_of S95 hj95) hat95 (g := (mkF m 158 #[.val (.int p0), .val (.int p1), .val (.int p2), .val (.int p3), .val (.int p4), .val (.int p5), .val (.ref b63), .val (.ref b73), .val (.int y68), .unset, .unset, .unset] [(.int (2 : Int32)), (.ref b63), (.int (2 : Int32)), (.ref b88), (.ref b88)])) rfl rfl (hb hby at_158) _ k) ?_
        have V96 := w94
        obtain ⟨cl96, Ar96, q96, S96, Ng96, Hh96⟩ := V96
        have hj96 : ¬ (2 : Int32) < 0 ∧ (2 : Int32) < (4 : Int32) := ⟨by decide, by decide⟩
        obtain ⟨T97, h97, X97, e97, W97, st97⟩ := stI X94 hx hZ e94 Ar96 (j := (2 : Int32)) (inb_of S96 hj96) (g := (mkF m 159 #[.val (.int p0), .val (.int p1), .val (.int p2), .val (.int p3), .val (.int p4), .val (.int p5), .val (.ref b63), .val (.ref b73), .val (.int y68), .unset, .unset, .unset] [(.int ((own_fix f30) (2 : Int32))), (.int (2 : Int32)), (.ref b88), (.ref b88)])) rfl rfl (hb hby at_159)
        obtain ⟨f159, hf159⟩ : ∃ F_ : Int32 → Int32, F_ = (fun i : Int32 => if i = (2 : Int32) then ((own_fix f30) (2 : Int32)) else f152 i) := ⟨_, rfl⟩
        have c97_0 : own_Arf Z h97 b63 k63 .int (4 : Int32) (own_fix f30) := c94_0.other W97 ne_b63_b88
        have c97_1 : Exa Z h97 b73 "com/example/layout_to_evidence/layouttoevidence/CellSpan" := c94_1.wr W97
        have c97_2 : Fld Z h97 b73 "com/example/layout_to_evidence/layouttoevidence/CellSpan" "startRow" "I" (.int ((own_fix f30) (0 : Int32))) := c94_2.other W97 (Or.inl ne_b73_b88)
        have c97_3 : Fld Z h97 b73 "com/example/layout_to_evidence/layouttoevidence/CellSpan" "endRow" "I" (.int ((own_fix f30) (1 : Int32))) := c94_3.other W97 (Or.inl ne_b73_b88)
        have c97_4 : Fld Z h97 b73 "com/example/layout_to_evidence/layouttoevidence/CellSpan" "startColumn" "I" (.int ((own_fix f30) (2 : Int32))) := c94_4.other W97 (Or.inl ne_b73_b88)
        have c97_5 : Fld Z h97 b73 "com/example/layout_to_evidence/layouttoevidence/CellSpan" "endColumn" "I" (.int ((own_fix f30) (3 : Int32))) := c94_5.other W97 (Or.inl ne_b73_b88)
        have w97 : own_Arf Z h97 b88 k88 .int (4 : Int32) f159 := by rw [hf159]; exact own_Arf.set Ar96 q96 S96 Ng96 Hh96 hj96 W97
        have Z97 : n0 ≤ h97.size := Nat.le_trans Z94 (Keep.of_wr W97).1
        have K97 := Keep.wr K94 W97 (Or.inr sz_b88)
        have N97 := Fr.snoc X97 N94 g_b88
        refine own_go (U' := T97.setTop (mkF m 160 #[.val (.int p0), .val (.int p1), .val (.int p2), .val (.int p3), .val (.int p4), .val (.int p5), .val (.ref b63), .val (.ref b73), .val (.int y68), .unset, .unset, .unset] [(.ref b88)])) (fun _ k => st97 _ k) ?_
        refine own_go (U' := T97.setTop (mkF m 161 #[.val (.int p0), .val (.int p1), .val (.int p2), .val (.int p3), .val (.int p4), .val (.int p5), .val (.ref b63), .val (.ref b73), .val (.int y68), .unset, .unset, .unset] [(.ref b88), (.ref b88)])) (fun _ k => XS.dup X97.here hx rfl (hb hby at_160) rfl rfl k) ?_
        refine own_go (U' := T97.setTop (mkF m 162 #[.val (.int p0), .val (.int p1), .val (.int p2), .val (.int p3), .val (.int p4), .val (.int p5), .val (.ref b63), .val (.ref b73), .val (.int y68), .unset, .unset, .unset] [(.int (3 : Int32)), (.ref b88), (.ref b88)])) (fun _ k => XS.iconst X97.here hx rfl (hb hby at_161) k) ?_
        refine own_go (U' := T97.setTop (mkF m 164 #[.val (.int p0), .val (.int p1), .val (.int p2), .val (.int p3), .val (.int p4), .val (.int p5), .val (.ref b63), .val (.ref b73), .val (.int y68), .unset, .unset, .unset] [(.ref b63), (.int (3 : Int32)), (.ref b88), (.ref b88)])) (fun _ k => XS.aload X97.here hx rfl (hb hby at_162) rfl rfl k) ?_
        refine own_go (U' := T97.setTop (mkF m 165 #[.val (.int p0), .val (.int p1), .val (.int p2), .val (.int p3), .val (.int p4), .val (.int p5), .val (.ref b63), .val (.ref b73), .val (.int y68), .unset, .unset, .unset] [(.int (3 : Int32)), (.ref b63), (.int (3 : Int32)), (.ref b88), (.ref b88)])) (fun _ k => XS.iconst X97.here hx rfl (hb hby at_164) k) ?_
        have V98 := c97_0
        obtain ⟨cl98, Ar98, q98, S98, Ng98, Hh98⟩ := V98
        have hj98 : ¬ (3 : Int32) < 0 ∧ (3 : Int32) < (4 : Int32) := ⟨by decide, by decide⟩
        have hat98 := Hh98 _ hj98.1 hj98.2
        refine own_go (U' := T97.setTop (mkF m 166 #[.val (.int p0), .val (.int p1), .val (.int p2), .val (.int p3), .val (.int p4), .val (.int p5), .val (.ref b63), .val (.ref b73), .val (.int y68), .unset, .unset, .unset] [(.int ((own_fix f30) (3 : Int32))), (.int (3 : Int32)), (.ref b88), (.ref b88)])) (fun _ k => X97.iaload hx (j := (3 : Int32)) (v := (.int ((own_fix f30) (3 : Int32)))) (own_cell e97 Ar98.1) (State.isArrayOf_alike hZ.alike Ar98.2.1) Ar98.2.2 (inb_of S98 hj98) hat98 (g := (mkF m 165 #[.val (.int p0), .val (.int p1), .val (.int p2), .val (.int p3), .val (.int p4), .val (.int p5), .val (.ref b63), .val (.ref b73), .val (.int y68), .unset, .unset, .unset] [(.int (3 : Int32)), (.ref b63), (.int (3 : Int32)), (.ref b88), (.ref b88)])) rfl rfl (hb hby at_165) _ k) ?_
        have V99 := w97
        obtain ⟨cl99, Ar99, q99, S99, Ng99, Hh99⟩ := V99
        have hj99 : ¬ (3 : Int32) < 0 ∧ (3 : Int32) < (4 : Int32) := ⟨by decide, by decide⟩
        obtain ⟨T100, h100, X100, e100, W100, st100⟩ := stI X97 hx hZ e97 Ar99 (j := (3 : Int32)) (inb_of S99 hj99) (g := (mkF m 166 #[.val (.int p0), .val (.int p1), .val (.int p2), .val (.int p3), .val (.int p4), .val (.int p5), .val (.ref b63), .val (.ref b73), .val (.int y68), .unset, .unset, .unset] [(.int ((own_fix f30) (3 : Int32))), (.int (3 : Int32)), (.ref b88), (.ref b88)])) rfl rfl (hb hby at_166)
        obtain ⟨f166, hf166⟩ : ∃ F_ : Int32 → Int32, F_ = (fun i : Int32 => if i = (3 : Int32) then ((own_fix f30) (3 : Int32)) else f159 i) := ⟨_, rfl⟩
        have c100_0 : own_Arf Z h100 b63 k63 .int (4 : Int32) (own_fix f30) := c97_0.other W100 ne_b63_b88
        have c100_1 : Exa Z h100 b73 "com/example/layout_to_evidence/layouttoevidence/CellSpan" := c97_1.wr W100
        have c100_2 : Fld Z h100 b73 "com/example/layout_to_evidence/layouttoevidence/CellSpan" "startRow" "I" (.int ((own_fix f30) (0 : Int32))) := c97_2.other W100 (Or.inl ne_b73_b88)
        have c100_3 : Fld Z h100 b73 "com/example/layout_to_evidence/layouttoevidence/CellSpan" "endRow" "I" (.int ((own_fix f30) (1 : Int32))) := c97_3.other W100 (Or.inl ne_b73_b88)
        have c100_4 : Fld Z h100 b73 "com/example/layout_to_evidence/layouttoevidence/CellSpan" "startColumn" "I" (.int ((own_fix f30) (2 : Int32))) := c97_4.other W100 (Or.inl ne_b73_b88)
        have c100_5 : Fld Z h100 b73 "com/example/layout_to_evidence/layouttoevidence/CellSpan" "endColumn" "I" (.int ((own_fix f30) (3 : Int32))) := c97_5.other W100 (Or.inl ne_b73_b88)
        have w100 : own_Arf Z h100 b88 k88 .int (4 : Int32) f166 := by rw [hf166]; exact own_Arf.set Ar99 q99 S99 Ng99 Hh99 hj99 W100
        have Z100 : n0 ≤ h100.size := Nat.le_trans Z97 (Keep.of_wr W100).1
        have K100 := Keep.wr K97 W100 (Or.inr sz_b88)
        have N100 := Fr.snoc X100 N97 g_b88
        refine own_go (U' := T100.setTop (mkF m 167 #[.val (.int p0), .val (.int p1), .val (.int p2), .val (.int p3), .val (.int p4), .val (.int p5), .val (.ref b63), .val (.ref b73), .val (.int y68), .unset, .unset, .unset] [(.ref b88)])) (fun _ k => st100 _ k) ?_
        refine own_go (U' := T100.setTop (mkF m 169 #[.val (.int p0), .val (.int p1), .val (.int p2), .val (.int p3), .val (.int p4), .val (.int p5), .val (.ref b63), .val (.ref b73), .val (.int y68), .val (.ref b88), .unset, .unset] [])) (fun _ k => XS.astore X100.here hx rfl (hb hby at_167) rfl rfl (l' := #[.val (.int p0), .val (.int p1), .val (.int p2), .val (.int p3), .val (.int p4), .val (.int p5), .val (.ref b63), .val (.ref b73), .val (.int y68), .val (.ref b88), .unset, .unset]) rfl k) ?_
        obtain ⟨eb0, eb1, eb2, eb3⟩ := own_four hf145 hf152 hf159 hf166
        have hu0 : 0 ≤ (f166 0).toInt := by rw [eb0]; omega
        have hu1 : 0 ≤ (f166 1).toInt := by rw [eb1]; omega
        have hu2 : 0 ≤ (f166 2).toInt := by rw [eb2]; omega
        have hu3 : 0 ≤ (f166 3).toInt := by rw [eb3]; omega
        refine own_go (U' := T100.setTop (mkF m 171 #[.val (.int p0), .val (.int p1), .val (.int p2), .val (.int p3), .val (.int p4), .val (.int p5), .val (.ref b63), .val (.ref b73), .val (.int y68), .val (.ref b88), .unset, .unset] [(.int y68)])) (fun _ k => XS.iload X100.here hx rfl (hb hby at_169) rfl k) ?_
        refine own_go (U' := T100.setTop (mkF m 172 #[.val (.int p0), .val (.int p1), .val (.int p2), .val (.int p3), .val (.int p4), .val (.int p5), .val (.ref b63), .val (.ref b73), .val (.int y68), .val (.ref b88), .unset, .unset] [(.int (1 : Int32)), (.int y68)])) (fun _ k => XS.iconst X100.here hx rfl (hb hby at_171) k) ?_
        by_cases hc172_101 : y68 < (1 : Int32)
        · refine own_go (U' := T100.setTop (mkF m 187 #[.val (.int p0), .val (.int p1), .val (.int p2), .val (.int p3), .val (.int p4), .val (.int p5), .val (.ref b63), .val (.ref b73), .val (.int y68), .val (.ref b88), .unset, .unset] [])) (fun _ k => XS.icmpYes X100.here hx rfl (pc0 := 172) (pc' := 187) rfl (hb hby at_172) rfl (tlt hc172_101).1 (by decide) (by decide) k) ?_
          refine own_go (U' := T100.setTop (mkF m 189 #[.val (.int p0), .val (.int p1), .val (.int p2), .val (.int p3), .val (.int p4), .val (.int p5), .val (.ref b63), .val (.ref b73), .val (.int y68), .val (.ref b88), .unset, .unset] [(.ref b88)])) (fun _ k => XS.aload X100.here hx rfl (hb hby at_187) rfl rfl k) ?_
          obtain ⟨_, _, ⟨T102, L102, k102, n102⟩, -, X102, ⟨Lc102, hQ102, l102, y102, z102⟩, st102⟩ := Jvm.LawKit.callS X100 hx (y := (⟨"com/example/layout_to_evidence/layouttoevidence/CellSpanEqualsPinLaw", "fix", "([I)V"⟩ : MethodName)) hown (mvT hZ (hw _ (List.mem_of_getElem? (i := 2) rfl))) (mvT hZ (hw _ (List.mem_of_getElem? (i := 3) rfl))) (mvT hZ (hw _ (List.mem_of_getElem? (i := 4) rfl))) (mvT hZ (hw _ (List.mem_of_getElem? (i := 5) rfl))) (by decide) (backOf (W := 0) (rm1 l Z aw hw [] b88 k88 f166 h100 n0 Z100 w100 (by first | assumption | decide)) hZ (hw _ (List.mem_of_getElem? (i := 5) rfl)) (hw _ (List.mem_of_getElem? (i := 4) rfl)) (by decide) (by decide)) (g := (mkF m 189 #[.val (.int p0), .val (.int p1), .val (.int p2), .val (.int p3), .val (.int p4), .val (.int p5), .val (.ref b63), .val (.ref b73), .val (.int y68), .val (.ref b88), .unset, .unset] [(.ref b88)])) rfl (by rw [hml]; rfl) (argsL := [(.ref b88)]) (rest := []) (lenOf own_pd3 rfl) rfl (by show 2 * 0 + _ ≤ _; exact Nat.le_of_eq rfl) (hb hby at_189) (fun _ _ => ⟨rfl, e100, (by decide : 3 + 0 ≤ _), (by decide : 12 + 0 ≤ _)⟩)
          dsimp only [Pt.U, Pt.locs, Pt.cells, Pt.slots] at X102 l102 y102 z102 st102 hQ102
          subst l102 y102 z102
          obtain ⟨rfl, N102q, K102q, xV102⟩ := hQ102
          have N102 := Fr.app N100 N102q
          have c102_0 : own_Arf Z T102.heap b63 k63 .int (4 : Int32) (own_fix f30) := c100_0.keep K102q (ninS ne_b63_b88 nin0)
          have c102_1 : Exa Z T102.heap b73 "com/example/layout_to_evidence/layouttoevidence/CellSpan" := c100_1.keep K102q
          have c102_2 : Fld Z T102.heap b73 "com/example/layout_to_evidence/layouttoevidence/CellSpan" "startRow" "I" (.int ((own_fix f30) (0 : Int32))) := c100_2.keep K102q (ninS ne_b73_b88 nin0)
          have c102_3 : Fld Z T102.heap b73 "com/example/layout_to_evidence/layouttoevidence/CellSpan" "endRow" "I" (.int ((own_fix f30) (1 : Int32))) := c100_3.keep K102q (ninS ne_b73_b88 nin0)
          have c102_4 : Fld Z T102.heap b73 "com/example/layout_to_evidence/layouttoevidence/CellSpan" "startColumn" "I" (.int ((own_fix f30) (2 : Int32))) := c100_4.keep K102q (ninS ne_b73_b88 nin0)
          have c102_5 : Fld Z T102.heap b73 "com/example/layout_to_evidence/layouttoevidence/CellSpan" "endColumn" "I" (.int ((own_fix f30) (3 : Int32))) := c100_5.keep K102q (ninS ne_b73_b88 nin0)
          have Z102 : n0 ≤ T102.heap.size := Nat.le_trans Z100 K102q.1
          have K102 := Keep.trans K100 K102q (allS (Or.inr sz_b88) all0)
          refine own_go (U' := T102.setTop (mkF m 192 #[.val (.int p0), .val (.int p1), .val (.int p2), .val (.int p3), .val (.int p4), .val (.int p5), .val (.ref b63), .val (.ref b73), .val (.int y68), .val (.ref b88), .unset, .unset] [])) (fun _ k => st102 _ k) ?_
          obtain ⟨T103, h103, X103, e103, E103, A103, D103, -, st103⟩ := newO X102 hx hZ hown (hw _ (List.mem_of_getElem? (i := 10) rfl)) (hw _ (List.mem_of_getElem? (i := 11) rfl)) (hw _ (List.mem_of_getElem? (i := 12) rfl)) rfl (g := (mkF m 192 #[.val (.int p0), .val (.int p1), .val (.int p2), .val (.int p3), .val (.int p4), .val (.int p5), .val (.ref b63), .val (.ref b73), .val (.int y68), .val (.ref b88), .unset, .unset] [])) rfl (hb hby at_192) (by decide) (by decide)
          obtain ⟨b103, g103⟩ : ∃ z, z = T102.heap.size := ⟨_, rfl⟩
          have g_b103 : n0 ≤ b103 := Nat.le_trans Z102 (Nat.le_of_eq g103.symm)
          have sz_b103 : h0.size ≤ b103 := Nat.le_trans K102.1 (Nat.le_of_eq g103.symm)
          have ne_b63_b103 : b63 ≠ b103 := Nat.ne_of_lt (Nat.lt_of_lt_of_le c102_0.lt (Nat.le_of_eq g103.symm))
          have ne_b73_b103 : b73 ≠ b103 := Nat.ne_of_lt (Nat.lt_of_lt_of_le c102_1.lt (Nat.le_of_eq g103.symm))
          have ne_b88_b103 : b88 ≠ b103 := Nat.ne_of_lt (Nat.lt_of_lt_of_le xV102.lt (Nat.le_of_eq g103.symm))
          rw [← g103] at A103 D103 st103
          have c103_0 : own_Arf Z h103 b63 k63 .int (4 : Int32) (own_fix f30) := c102_0.ext E103
          have c103_1 : Exa Z h103 b73 "com/example/layout_to_evidence/layouttoevidence/CellSpan" := c102_1.ext E103
          have c103_2 : Fld Z h103 b73 "com/example/layout_to_evidence/layouttoevidence/CellSpan" "startRow" "I" (.int ((own_fix f30) (0 : Int32))) := c102_2.ext E103
          have c103_3 : Fld Z h103 b73 "com/example/layout_to_evidence/layouttoevidence/CellSpan" "endRow" "I" (.int ((own_fix f30) (1 : Int32))) := c102_3.ext E103
          have c103_4 : Fld Z h103 b73 "com/example/layout_to_evidence/layouttoevidence/CellSpan" "startColumn" "I" (.int ((own_fix f30) (2 : Int32))) := c102_4.ext E103
          have c103_5 : Fld Z h103 b73 "com/example/layout_to_evidence/layouttoevidence/CellSpan" "endColumn" "I" (.int ((own_fix f30) (3 : Int32))) := c102_5.ext E103
          have c103_6 : own_Arf Z h103 b88 k88 .int (4 : Int32) (own_fix f166) := xV102.ext E103
          have Z103 : n0 ≤ h103.size := Nat.le_trans Z102 E103.1
          have K103 := Keep.ext K102 E103
          have F103_20 : Fld Z h103 b103 "com/example/layout_to_evidence/layouttoevidence/CellSpan" "startRow" "I" (.int (0 : Int32)) := D103 (Or.inr (hw _ (List.mem_of_getElem? (i := 20) rfl))) (ty := .int) (by decide)
          have F103_22 : Fld Z h103 b103 "com/example/layout_to_evidence/layouttoevidence/CellSpan" "endRow" "I" (.int (0 : Int32)) := D103 (Or.inr (hw _ (List.mem_of_getElem? (i := 22) rfl))) (ty := .int) (by decide)
          have F103_24 : Fld Z h103 b103 "com/example/layout_to_evidence/layouttoevidence/CellSpan" "startColumn" "I" (.int (0 : Int32)) := D103 (Or.inr (hw _ (List.mem_of_getElem? (i := 24) rfl))) (ty := .int) (by decide)
          have F103_26 : Fld Z h103 b103 "com/example/layout_to_evidence/layouttoevidence/CellSpan" "endColumn" "I" (.int (0 : Int32)) := D103 (Or.inr (hw _ (List.mem_of_getElem? (i := 26) rfl))) (ty := .int) (by decide)
          refine own_go (U' := T103.setTop (mkF m 195 #[.val (.int p0), .val (.int p1), .val (.int p2), .val (.int p3), .val (.int p4), .val (.int p5), .val (.ref b63), .val (.ref b73), .val (.int y68), .val (.ref b88), .unset, .unset] [(.ref b103)])) (fun _ k => st103 _ k) ?_
          refine own_go (U' := T103.setTop (mkF m 196 #[.val (.int p0), .val (.int p1), .val (.int p2), .val (.int p3), .val (.int p4), .val (.int p5), .val (.ref b63), .val (.ref b73), .val (.int y68), .val (.ref b88), .unset, .unset] [(.ref b103), (.ref b103)])) (fun _ k => XS.dup X103.here hx rfl (hb hby at_195) rfl rfl k) ?_
          obtain ⟨hv1, hv2, hv3, hv4, hv5⟩ := own_five (own_fixok hu0 hu1 hu2 hu3)
          refine own_go (U' := T103.setTop (mkF m 198 #[.val (.int p0), .val (.int p1), .val (.int p2), .val (.int p3), .val (.int p4), .val (.int p5), .val (.ref b63), .val (.ref b73), .val (.int y68), .val (.ref b88), .unset, .unset] [(.ref b88), (.ref b103), (.ref b103)])) (fun _ k => XS.aload X103.here hx rfl (hb hby at_196) rfl rfl k) ?_
          refine own_go (U' := T103.setTop (mkF m 199 #[.val (.int p0), .val (.int p1), .val (.int p2), .val (.int p3), .val (.int p4), .val (.int p5), .val (.ref b63), .val (.ref b73), .val (.int y68), .val (.ref b88), .unset, .unset] [(.int (0 : Int32)), (.ref b88), (.ref b103), (.ref b103)])) (fun _ k => XS.iconst X103.here hx rfl (hb hby at_198) k) ?_
          have V104 := c103_6
          obtain ⟨cl104, Ar104, q104, S104, Ng104, Hh104⟩ := V104
          have hj104 : ¬ (0 : Int32) < 0 ∧ (0 : Int32) < (4 : Int32) := ⟨by decide, by decide⟩
          have hat104 := Hh104 _ hj104.1 hj104.2
          refine own_go (U' := T103.setTop (mkF m 200 #[.val (.int p0), .val (.int p1), .val (.int p2), .val (.int p3), .val (.int p4), .val (.int p5), .val (.ref b63), .val (.ref b73), .val (.int y68), .val (.ref b88), .unset, .unset] [(.int ((own_fix f166) (0 : Int32))), (.ref b103), (.ref b103)])) (fun _ k => X103.iaload hx (j := (0 : Int32)) (v := (.int ((own_fix f166) (0 : Int32)))) (own_cell e103 Ar104.1) (State.isArrayOf_alike hZ.alike Ar104.2.1) Ar104.2.2 (inb_of S104 hj104) hat104 (g := (mkF m 199 #[.val (.int p0), .val (.int p1), .val (.int p2), .val (.int p3), .val (.int p4), .val (.int p5), .val (.ref b63), .val (.ref b73), .val (.int y68), .val (.ref b88), .unset, .unset] [(.int (0 : Int32)), (.ref b88), (.ref b103), (.ref b103)])) rfl rfl (hb hby at_199) _ k) ?_
          refine own_go (U' := T103.setTop (mkF m 202 #[.val (.int p0), .val (.int p1), .val (.int p2), .val (.int p3), .val (.int p4), .val (.int p5), .val (.ref b63), .val (.ref b73), .val (.int y68), .val (.ref b88), .unset, .unset] [(.ref b88), (.int ((own_fix f166) (0 : Int32))), (.ref b103), (.ref b103)])) (fun _ k => XS.aload X103.here hx rfl (hb hby at_200) rfl rfl k) ?_
          refine own_go (U' := T103.setTop (mkF m 203 #[.val (.int p0), .val (.int p1), .val (.int p2), .val (.int p3), .val (.int p4), .val (.int p5), .val (.ref b63), .val (.ref b73), .val (.int y68), .val (.ref b88), .unset, .unset] [(.int (1 : Int32)), (.ref b88), (.int ((own_fix f166) (0 : Int32))), (.ref b103), (.ref b103)])) (fun _ k => XS.iconst X103.here hx rfl (hb hby at_202) k) ?_
          have V105 := c103_6
          obtain ⟨cl105, Ar105, q105, S105, Ng105, Hh105⟩ := V105
          have hj105 : ¬ (1 : Int32) < 0 ∧ (1 : Int32) < (4 : Int32) := ⟨by decide, by decide⟩
          have hat105 := Hh105 _ hj105.1 hj105.2
          refine own_go (U' := T103.setTop (mkF m 204 #[.val (.int p0), .val (.int p1), .val (.int p2), .val (.int p3), .val (.int p4), .val (.int p5), .val (.ref b63), .val (.ref b73), .val (.int y68), .val (.ref b88), .unset, .unset] [(.int ((own_fix f166) (1 : Int32))), (.int ((own_fix f166) (0 : Int32))), (.ref b103), (.ref b103)])) (fun _ k => X103.iaload hx (j := (1 : Int32)) (v := (.int ((own_fix f166) (1 : Int32)))) (own_cell e103 Ar105.1) (State.isArrayOf_alike hZ.alike Ar105.2.1) Ar105.2.2 (inb_of S105 hj105) hat105 (g := (mkF m 203 #[.val (.int p0), .val (.int p1), .val (.int p2), .val (.int p3), .val (.int p4), .val (.int p5), .val (.ref b63), .val (.ref b73), .val (.int y68), .val (.ref b88), .unset, .unset] [(.int (1 : Int32)), (.ref b88), (.int ((own_fix f166) (0 : Int32))), (.ref b103), (.ref b103)])) rfl rfl (hb hby at_203) _ k) ?_
          refine own_go (U' := T103.setTop (mkF m 206 #[.val (.int p0), .val (.int p1), .val (.int p2), .val (.int p3), .val (.int p4), .val (.int p5), .val (.ref b63), .val (.ref b73), .val (.int y68), .val (.ref b88), .unset, .unset] [(.ref b88), (.int ((own_fix f166) (1 : Int32))), (.int ((own_fix f166) (0 : Int32))), (.ref b103), (.ref b103)])) (fun _ k => XS.aload X103.here hx rfl (hb hby at_204) rfl rfl k) ?_
          refine own_go (U' := T103.setTop (mkF m 207 #[.val (.int p0), .val (.int p1), .val (.int p2), .val (.int p3), .val (.int p4), .val (.int p5), .val (.ref b63), .val (.ref b73), .val (.int y68), .val (.ref b88), .unset, .unset] [(.int (2 : Int32)), (.ref b88), (.int ((own_fix f166) (1 : Int32))), (.int ((own_fix f166) (0 : Int32))), (.ref b103), (.ref b103)])) (fun _ k => XS.iconst X103.here hx rfl (hb hby at_206) k) ?_
          have V106 := c103_6
          obtain ⟨cl106, Ar106, q106, S106, Ng106, Hh106⟩ := V106
          have hj106 : ¬ (2 : Int32) < 0 ∧ (2 : Int32) < (4 : Int32) := ⟨by decide, by decide⟩
          have hat106 := Hh106 _ hj106.1 hj106.2
          refine own_go (U' := T103.setTop (mkF m 208 #[.val (.int p0), .val (.int p1), .val (.int p2), .val (.int p3), .val (.int p4), .val (.int p5), .val (.ref b63), .val (.ref b73), .val (.int y68), .val (.ref b88), .unset, .unset] [(.int ((own_fix f166) (2 : Int32))), (.int ((own_fix f166) (1 : Int32))), (.int ((own_fix f166) (0 : Int32))), (.ref b103), (.ref b103)])) (fun _ k => X103.iaload hx (j := (2 : Int32)) (v := (.int ((own_fix f166) (2 : Int32)))) (own_cell e103 Ar106.1) (State.isArrayOf_alike hZ.alike Ar106.2.1) Ar106.2.2 (inb_of S106 hj106) hat106 (g := (mkF m 207 #[.val (.int p0), .val (.int p1), .val (.int p2), .val (.int p3), .val (.int p4), .val (.int p5), .val (.ref b63), .val (.ref b73), .val (.int y68), .val (.ref b88), .unset, .unset] [(.int (2 : Int32)), (.ref b88), (.int ((own_fix f166) (1 : Int32))), (.int ((own_fix f166) (0 : Int32))), (.ref b103), (.ref b103)])) rfl rfl (hb hby at_207) _ k) ?_
          refine own_go (U' := T103.setTop (mkF m 210 #[.val (.int p0), .val (.int p1), .val (.int p2), .val (.int p3), .val (.int p4), .val (.int p5), .val (.ref b63), .val (.ref b73), .val (.int y68), .val (.ref b88), .unset, .unset] [(.ref b88), (.int ((own_fix f166) (2 : Int32))), (.int ((own_fix f166) (1 : Int32))), (.int ((own_fix f166) (0 : Int32))), (.ref b103), (.ref b103)])) (fun _ k => XS.aload X103.here hx rfl (hb hby at_208) rfl rfl k) ?_
          refine own_go (U' := T103.setTop (mkF m 211 #[.val (.int p0), .val (.int p1), .val (.int p2), .val (.int p3), .val (.int p4), .val (.int p5), .val (.ref b63), .val (.ref b73), .val (.int y68), .val (.ref b88), .unset, .unset] [(.int (3 : Int32)), (.ref b88), (.int ((own_fix f166) (2 : Int32))), (.int ((own_fix f166) (1 : Int32))), (.int ((own_fix f166) (0 : Int32))), (.ref b103), (.ref b103)])) (fun _ k => XS.iconst X103.here hx rfl (hb hby at_210) k) ?_
          have V107 := c103_6
          obtain ⟨cl107, Ar107, q107, S107, Ng107, Hh107⟩ := V107
          have hj107 : ¬ (3 : Int32) < 0 ∧ (3 : Int32) < (4 : Int32) := ⟨by decide, by decide⟩
          have hat107 := Hh107 _ hj107.1 hj107.2
          refine own_go (U' := T103.setTop (mkF m 212 #[.val (.int p0), .val (.int p1), .val (.int p2), .val (.int p3), .val (.int p4), .val (.int p5), .val (.ref b63), .val (.ref b73), .val (.int y68), .val (.ref b88), .unset, .unset] [(.int ((own_fix f166) (3 : Int32))), (.int ((own_fix f166) (2 : Int32))), (.int ((own_fix f166) (1 : Int32))), (.int ((own_fix f166) (0 : Int32))), (.ref b103), (.ref b103)])) (fun _ k => X103.iaload hx (j := (3 : Int32)) (v := (.int ((own_fix f166) (3 : Int32)))) (own_cell e103 Ar107.1) (State.isArrayOf_alike hZ.alike Ar107.2.1) Ar107.2.2 (inb_of S107 hj107) hat107 (g := (mkF m 211 #[.val (.int p0), .val (.int p1), .val (.int p2), .val (.int p3), .val (.int p4), .val (.int p5), .val (.ref b63), .val (.ref b73), .val (.int y68), .val (.ref b88), .unset, .unset] [(.int (3 : Int32)), (.ref b88), (.int ((own_fix f166) (2 : Int32))), (.int ((own_fix f166) (1 : Int32))), (.int ((own_fix f166) (0 : Int32))), (.ref b103), (.ref b103)])) rfl rfl (hb hby at_211) _ k) ?_
          obtain ⟨_, _, ⟨T108, L108, k108, n108⟩, -, X108, ⟨Lc108, hQ108, l108, y108, z108⟩, st108⟩ := X103.specialBack hx (y := (⟨"com/example/layout_to_evidence/layouttoevidence/CellSpan", "<init>", "(IIII)V"⟩ : MethodName)) rfl hown (mvT hZ (hw _ (List.mem_of_getElem? (i := 13) rfl))) (mvT hZ (hw _ (List.mem_of_getElem? (i := 14) rfl))) (mvT hZ (hw _ (List.mem_of_getElem? (i := 15) rfl))) (by decide) (backOf (W := 1) (rm3 l Z aw hw [] b103 ((own_fix f166) (0 : Int32)) ((own_fix f166) (1 : Int32)) ((own_fix f166) (2 : Int32)) ((own_fix f166) (3 : Int32)) h103 n0 Z103 A103 F103_20 F103_22 F103_24 F103_26 (by first | assumption | decide) (by first | assumption | decide) (by first | assumption | decide) (by first | assumption | decide) (by first | assumption | decide) (by first | assumption | decide)) hZ (hw _ (List.mem_of_getElem? (i := 15) rfl)) (hw _ (List.mem_of_getElem? (i := 12) rfl)) (by decide) (by decide)) (g := (mkF m 212 #[.val (.int p0), .val (.int p1), .val (.int p2), .val (.int p3), .val (.int p4), .val (.int p5), .val (.ref b63), .val (.ref b73), .val (.int y68), .val (.ref b88), .unset, .unset] [(.int ((own_fix f166) (3 : Int32))), (.int ((own_fix f166) (2 : Int32))), (.int ((own_fix f166) (1 : Int32))), (.int ((own_fix f166) (0 : Int32))), (.ref b103), (.ref b103)])) rfl (by rw [hml]; rfl) (Steps.refl _) (a := b103) (argsL := [(.int ((own_fix f166) (0 : Int32))), (.int ((own_fix f166) (1 : Int32))), (.int ((own_fix f166) (2 : Int32))), (.int ((own_fix f166) (3 : Int32)))]) (rest := [(.ref b103)]) (lenOf own_pd4 rfl) rfl (by show 2 * 0 + _ ≤ _; exact Nat.le_of_eq rfl) (hb hby at_212) (fun _ _ => ⟨rfl, e103, (by decide : 4 + 0 ≤ _), (by decide : 16 + 0 ≤ _)⟩)
          dsimp only [Pt.U, Pt.locs, Pt.cells, Pt.slots] at X108 l108 y108 z108 st108 hQ108
          subst l108 y108 z108
          obtain ⟨rfl, N108q, K108q, xE108, x0108, x1108, x2108, x3108⟩ := hQ108
          have N108 := Fr.app N102 N108q
          have c108_0 : own_Arf Z T108.heap b63 k63 .int (4 : Int32) (own_fix f30) := c103_0.keep K108q (ninS ne_b63_b103 nin0)
          have c108_1 : Exa Z T108.heap b73 "com/example/layout_to_evidence/layouttoevidence/CellSpan" := c103_1.keep K108q
          have c108_2 : Fld Z T108.heap b73 "com/example/layout_to_evidence/layouttoevidence/CellSpan" "startRow" "I" (.int ((own_fix f30) (0 : Int32))) := c103_2.keep K108q (ninS ne_b73_b103 nin0)
          have c108_3 : Fld Z T108.heap b73 "com/example/layout_to_evidence/layouttoevidence/CellSpan" "endRow" "I" (.int ((own_fix f30) (1 : Int32))) := c103_3.keep K108q (ninS ne_b73_b103 nin0)
          have c108_4 : Fld Z T108.heap b73 "com/example/layout_to_evidence/layouttoevidence/CellSpan" "startColumn" "I" (.int ((own_fix f30) (2 : Int32))) := c103_4.keep K108q (ninS ne_b73_b103 nin0)
          have c108_5 : Fld Z T108.heap b73 "com/example/layout_to_evidence/layouttoevidence/CellSpan" "endColumn" "I" (.int ((own_fix f30) (3 : Int32))) := c103_5.keep K108q (ninS ne_b73_b103 nin0)
          have c108_6 : own_Arf Z T108.heap b88 k88 .int (4 : Int32) (own_fix f166) := c103_6.keep K108q (ninS ne_b88_b103 nin0)
          have c108_7 : Exa Z T108.heap b103 "com/example/layout_to_evidence/layouttoevidence/CellSpan" := A103.keep K108q
          have Z108 : n0 ≤ T108.heap.size := Nat.le_trans Z103 K108q.1
          have K108 := Keep.trans K103 K108q (allS (Or.inr sz_b103) all0)
          refine own_go (U' := T108.setTop (mkF m 215 #[.val (.int p0), .val (.int p1), .val (.int p2), .val (.int p3), .val (.int p4), .val (.int p5), .val (.ref b63), .val (.ref b73), .val (.int y68), .val (.ref b88), .unset, .unset] [(.ref b103)])) (fun _ k => st108.trans k) ?_
          refine own_go (U' := T108.setTop (mkF m 217 #[.val (.int p0), .val (.int p1), .val (.int p2), .val (.int p3), .val (.int p4), .val (.int p5), .val (.ref b63), .val (.ref b73), .val (.int y68), .val (.ref b88), .val (.ref b103), .unset] [])) (fun _ k => XS.astore X108.here hx rfl (hb hby at_215) rfl rfl (l' := #[.val (.int p0), .val (.int p1), .val (.int p2), .val (.int p3), .val (.int p4), .val (.int p5), .val (.ref b63), .val (.ref b73), .val (.int y68), .val (.ref b88), .val (.ref b103), .unset]) rfl k) ?_
          refine own_go (U' := T108.setTop (mkF m 219 #[.val (.int p0), .val (.int p1), .val (.int p2), .val (.int p3), .val (.int p4), .val (.int p5), .val (.ref b63), .val (.ref b73), .val (.int y68), .val (.ref b88), .val (.ref b103), .unset] [(.ref b63)])) (fun _ k => XS.aload X108.here hx rfl (hb hby at_217) rfl rfl k) ?_
          refine own_go (U' := T108.setTop (mkF m 220 #[.val (.int p0), .val (.int p1), .val (.int p2), .val (.int p3), .val (.int p4), .val (.int p5), .val (.ref b63), .val (.ref b73), .val (.int y68), .val (.ref b88), .val (.ref b103), .unset] [(.int (0 : Int32)), (.ref b63)])) (fun _ k => XS.iconst X108.here hx rfl (hb hby at_219) k) ?_
          have V109 := c108_0
          obtain ⟨cl109, Ar109, q109, S109, Ng109, Hh109⟩ := V109
          have hj109 : ¬ (0 : Int32) < 0 ∧ (0 : Int32) < (4 : Int32) := ⟨by decide, by decide⟩
          have hat109 := Hh109 _ hj109.1 hj109.2
          refine own_go (U' := T108.setTop (mkF m 221 #[.val (.int p0), .val (.int p1), .val (.int p2), .val (.int p3), .val (.int p4), .val (.int p5), .val (.ref b63), .val (.ref b73), .val (.int y68), .val (.ref b88), .val (.ref b103), .unset] [(.int ((own_fix f30) (0 : Int32)))])) (fun _ k => X108.iaload hx (j := (0 : Int32)) (v := (.int ((own_fix f30) (0 : Int32)))) (own_cell rfl Ar109.1) (State.isArrayOf_alike hZ.alike Ar109.2.1) Ar109.2.2 (inb_of S109 hj109) hat109 (g := (mkF m 220 #[.val (.int p0), .val (.int p1), .val (.int p2), .val (.int p3), .val (.int p4), .val (.int p5), .val (.ref b63), .val (.ref b73), .val (.int y68), .val (.ref b88), .val (.ref b103), .unset] [(.int (0 : Int32)), (.ref b63)])) rfl rfl (hb hby at_220) _ k) ?_
          refine own_go (U' := T108.setTop (mkF m 223 #[.val (.int p0), .val (.int p1), .val (.int p2), .val (.int p3), .val (.int p4), .val (.int p5), .val (.ref b63), .val (.ref b73), .val (.int y68), .val (.ref b88), .val (.ref b103), .unset] [(.ref b88), (.int ((own_fix f30) (0 : Int32)))])) (fun _ k => XS.aload X108.here hx rfl (hb hby at_221) rfl rfl k) ?_
          refine own_go (U' := T108.setTop (mkF m 224 #[.val (.int p0), .val (.int p1), .val (.int p2), .val (.int p3), .val (.int p4), .val (.int p5), .val (.ref b63), .val (.ref b73), .val (.int y68), .val (.ref b88), .val (.ref b103), .unset] [(.int (0 : Int32)), (.ref b88), (.int ((own_fix f30) (0 : Int32)))])) (fun _ k => XS.iconst X108.here hx rfl (hb hby at_223) k) ?_
          have V110 := c108_6
          obtain ⟨cl110, Ar110, q110, S110, Ng110, Hh110⟩ := V110
          have hj110 : ¬ (0 : Int32) < 0 ∧ (0 : Int32) < (4 : Int32) := ⟨by decide, by decide⟩
          have hat110 := Hh110 _ hj110.1 hj110.2
          refine own_go (U' := T108.setTop (mkF m 225 #[.val (.int p0), .val (.int p1), .val (.int p2), .val (.int p3), .val (.int p4), .val (.int p5), .val (.ref b63), .val (.ref b73), .val (.int y68), .val (.ref b88), .val (.ref b103), .unset] [(.int ((own_fix f166) (0 : Int32))), (.int ((own_fix f30) (0 : Int32)))])) (fun _ k => X108.iaload hx (j := (0 : Int32)) (v := (.int ((own_fix f166) (0 : Int32)))) (own_cell rfl Ar110.1) (State.isArrayOf_alike hZ.alike Ar110.2.1) Ar110.2.2 (inb_of S110 hj110) hat110 (g := (mkF m 224 #[.val (.int p0), .val (.int p1), .val (.int p2), .val (.int p3), .val (.int p4), .val (.int p5), .val (.ref b63), .val (.ref b73), .val (.int y68), .val (.ref b88), .val (.ref b103), .unset] [(.int (0 : Int32)), (.ref b88), (.int ((own_fix f30) (0 : Int32)))])) rfl rfl (hb hby at_224) _ k) ?_
          obtain ⟨z225, hz225⟩ : ∃ z : Int32, z = (if ((own_fix f30) (0 : Int32)) = ((own_fix f166) (0 : Int32)) then (if ((own_fix f30) (1 : Int32)) = ((own_fix f166) (1 : Int32)) then (if ((own_fix f30) (2 : Int32)) = ((own_fix f166) (2 : Int32)) then (if ((own_fix f30) (3 : Int32)) = ((own_fix f166) (3 : Int32)) then (1 : Int32) else (0 : Int32)) else (0 : Int32)) else (0 : Int32)) else (0 : Int32)) := ⟨_, rfl⟩
          refine own_join (U' := T108.setTop (mkF m 266 #[.val (.int p0), .val (.int p1), .val (.int p2), .val (.int p3), .val (.int p4), .val (.int p5), .val (.ref b63), .val (.ref b73), .val (.int y68), .val (.ref b88), .val (.ref b103), .unset] [(.int z225)])) (fun J225_111 => ?_) ?_
          · by_cases hc225_112 : ((own_fix f30) (0 : Int32)) = ((own_fix f166) (0 : Int32))
            · refine own_go (U' := T108.setTop (mkF m 228 #[.val (.int p0), .val (.int p1), .val (.int p2), .val (.int p3), .val (.int p4), .val (.int p5), .val (.ref b63), .val (.ref b73), .val (.int y68), .val (.ref b88), .val (.ref b103), .unset] [])) (fun _ k => XS.icmpNo X108.here hx rfl (hb hby at_225) rfl (teq hc225_112).2 k) ?_
              refine own_go (U' := T108.setTop (mkF m 230 #[.val (.int p0), .val (.int p1), .val (.int p2), .val (.int p3), .val (.int p4), .val (.int p5), .val (.ref b63), .val (.ref b73), .val (.int y68), .val (.ref b88), .val (.ref b103), .unset] [(.ref b63)])) (fun _ k => XS.aload X108.here hx rfl (hb hby at_228) rfl rfl k) ?_
              refine own_go (U' := T108.setTop (mkF m 231 #[.val (.int p0), .val (.int p1), .val (.int p2), .val (.int p3), .val (.int p4), .val (.int p5), .val (.ref b63), .val (.ref b73), .val (.int y68), .val (.ref b88), .val (.ref b103), .unset] [(.int (1 : Int32)), (.ref b63)])) (fun _ k => XS.iconst X108.here hx rfl (hb hby at_230) k) ?_
              have V113 := c108_0
              obtain ⟨cl113, Ar113, q113, S113, Ng113, Hh113⟩ := V113
              have hj113 : ¬ (1 : Int32) < 0 ∧ (1 : Int32) < (4 : Int32) := ⟨by decide, by decide⟩
              have hat113 := Hh113 _ hj113.1 hj113.2
              refine own_go (U' := T108.setTop (mkF m 232 #[.val (.int p0), .val (.int p1), .val (.int p2), .val (.int p3), .val (.int p4), .val (.int p5), .val (.ref b63), .val (.ref b73), .val (.int y68), .val (.ref b88), .val (.ref b103), .unset] [(.int ((own_fix f30) (1 : Int32)))])) (fun _ k => X108.iaload hx (j := (1 : Int32)) (v := (.int ((own_fix f30) (1 : Int32)))) (own_cell rfl Ar113.1) (State.isArrayOf_alike hZ.alike Ar113.2.1) Ar113.2.2 (inb_of S113 hj113) hat113 (g := (mkF m 231 #[.val (.int p0), .val (.int p1), .val (.int p2), .val (.int p3), .val (.int p4), .val (.int p5), .val (.ref b63), .val (.ref b73), .val (.int y68), .val (.ref b88), .val (.ref b103), .unset] [(.int (1 : Int32)), (.ref b63)])) rfl rfl (hb hby at_231) _ k) ?_
              refine own_go (U' := T108.setTop (mkF m 234 #[.val (.int p0), .val (.int p1), .val (.int p2), .val (.int p3), .val (.int p4), .val (.int p5), .val (.ref b63), .val (.ref b73), .val (.int y68), .val (.ref b88), .val (.ref b103), .unset] [(.ref b88), (.int ((own_fix f30) (1 : Int32)))])) (fun _ k => XS.aload X108.here hx rfl (hb hby at_232) rfl rfl k) ?_
              refine own_go (U' := T108.setTop (mkF m 235 #[.val (.int p0), .val (.int p1), .val (.int p2), .val (.int p3), .val (.int p4), .val (.int p5), .val (.ref b63), .val (.ref b73), .val (.int y68), .val (.ref b88), .val (.ref b103), .unset] [(.int (1 : Int32)), (.ref b88), (.int ((own_fix f30) (1 : Int32)))])) (fun _ k => XS.iconst X108.here hx rfl (hb hby at_234) k) ?_
              have V114 := c108_6
              obtain ⟨cl114, Ar114, q114, S114, Ng114, Hh114⟩ := V114
              have hj114 : ¬ (1 : Int32) < 0 ∧ (1 : Int32) < (4 : Int32) := ⟨by decide, by decide⟩
              have hat114 := Hh114 _ hj114.1 hj114.2
              refine own_go (U' := T108.setTop (mkF m 236 #[.val (.int p0), .val (.int p1), .val (.int p2), .val (.int p3), .val (.int p4), .val (.int p5), .val (.ref b63), .val (.ref b73), .val (.int y68), .val (.ref b88), .val (.ref b103), .unset] [(.int ((own_fix f166) (1 : Int32))), (.int ((own_fix f30) (1 : Int32)))])) (fun _ k => X108.iaload hx (j := (1 : Int32)) (v := (.int ((own_fix f166) (1 : Int32)))) (own_cell rfl Ar114.1) (State.isArrayOf_alike hZ.alike Ar114.2.1) Ar114.2.2 (inb_of S114 hj114) hat114 (g := (mkF m 235 #[.val (.int p0), .val (.int p1), .val (.int p2), .val (.int p3), .val (.int p4), .val (.int p5), .val (.ref b63), .val (.ref b73), .val (.int y68), .val (.ref b88), .val (.ref b103), .unset] [(.int (1 : Int32)), (.ref b88), (.int ((own_fix f30) (1 : Int32)))])) rfl rfl (hb hby at_235) _ k) ?_
              by_cases hc236_115 : ((own_fix f30) (1 : Int32)) = ((own_fix f166) (1 : Int32))
              · refine own_go (U' := T108.setTop (mkF m 239 #[.val (.int p0), .val (.int p1), .val (.int p2), .val (.int p3), .val (.int p4), .val (.int p5), .val (.ref b63), .val (.ref b73), .val (.int y68), .val (.ref b88), .val (.ref b103), .unset] [])) (fun _ k => XS.icmpNo X108.here hx rfl (hb hby at_236) rfl (teq hc236_115).2 k) ?_
                refine own_go (U' := T108.setTop (mkF m 241 #[.val (.int p0), .val (.int p1), .val (.int p2), .val (.int p3), .val (.int p4), .val (.int p5), .val (.ref b63), .val (.ref b73), .val (.int y68), .val (.ref b88), .val (.ref b103), .unset] [(.ref b63)])) (fun _ k => XS.aload X108.here hx rfl (hb hby at_239) rfl rfl k) ?_
                refine own_go (U' := T108.setTop (mkF m 242 #[.val (.int p0), .val (.int p1), .val (.int p2), .val (.int p3), .val (.int p4), .val (.int p5), .val (.ref b63), .val (.ref b73), .val (.int y68), .val (.ref b88), .val (.ref b103), .unset] [(.int (2 : Int32)), (.ref b63)])) (fun _ k => XS.iconst X108.here hx rfl (hb hby at_241) k) ?_
                have V116 := c108_0
                obtain ⟨cl116, Ar116, q116, S116, Ng116, Hh116⟩ := V116
                have hj116 : ¬ (2 : Int32) < 0 ∧ (2 : Int32) < (4 : Int32) := ⟨by decide, by decide⟩
                have hat116 := Hh116 _ hj116.1 hj116.2
                refine own_go (U' := T108.setTop (mkF m 243 #[.val (.int p0), .val (.int p1), .val (.int p2), .val (.int p3), .val (.int p4), .val (.int p5), .val (.ref b63), .val (.ref b73), .val (.int y68), .val (.ref b88), .val (.ref b103), .unset] [(.int ((own_fix f30) (2 : Int32)))])) (fun _ k => X108.iaload hx (j := (2 : Int32)) (v := (.int ((own_fix f30) (2 : Int32)))) (own_cell rfl Ar116.1) (State.isArrayOf_alike hZ.alike Ar116.2.1) Ar116.2.2 (inb_of S116 hj116) hat116 (g := (mkF m 242 #[.val (.int p0), .val (.int p1), .val (.int p2), .val (.int p3), .val (.int p4), .val (.int p5), .val (.ref b63), .val (.ref b73), .val (.int y68), .val (.ref b88), .val (.ref b103), .unset] [(.int (2 : Int32)), (.ref b63)])) rfl rfl (hb hby at_242) _ k) ?_
                refine own_go (U' := T108.setTop (mkF m 245 #[.val (.int p0), .val (.int p1), .val (.int p2), .val (.int p3), .val (.int p4), .val (.int p5), .val (.ref b63), .val (.ref b73), .val (.int y68), .val (.ref b88), .val (.ref b103), .unset] [(.ref b88), (.int ((own_fix f30) (2 : Int32)))])) (fun _ k => XS.aload X108.here hx rfl (hb hby at_243) rfl rfl k) ?_
                refine own_go (U' := T108.setTop (mkF m 246 #[.val (.int p0), .val (.int p1), .val (.int p2), .val (.int p3), .val (.int p4), .val (.int p5), .val (.ref b63), .val (.ref b73), .val (.int y68), .val (.ref b88), .val (.ref b103), .unset] [(.int (2 : Int32)), (.ref b88), (.int ((own_fix f30) (2 : Int32)))])) (fun _ k => XS.iconst X108.here hx rfl (hb hby at_245) k) ?_
                have V117 := c108_6
                obtain ⟨cl117, Ar117, q117, S117, Ng117, Hh117⟩ := V117
                have hj117 : ¬ (2 : Int32) < 0 ∧ (2 : Int32) < (4 : Int32) := ⟨by decide, by decide⟩
                have hat117 := Hh117 _ hj117.1 hj117.2
                refine own_go (U' := T108.setTop (mkF m 247 #[.val (.int p0), .val (.int p1), .val (.int p2), .val (.int p3), .val (.int p4), .val (.int p5), .val (.ref b63), .val (.ref b73), .val (.int y68), .val (.ref b88), .val (.ref b103), .unset] [(.int ((own_fix f166) (2 : Int32))), (.int ((own_fix f30) (2 : Int32)))])) (fun _ k => X108.iaload hx (j := (2 : Int32)) (v := (.int ((own_fix f166) (2 : Int32)))) (own_cell rfl Ar117.1) (State.isArrayOf_alike hZ.alike Ar117.2.1) Ar117.2.2 (inb_of S117 hj117) hat117 (g := (mkF m 246 #[.val (.int p0), .val (.int p1), .val (.int p2), .val (.int p3), .val (.int p4), .val (.int p5), .val (.ref b63), .val (.ref b73), .val (.int y68), .val (.ref b88), .val (.ref b103), .unset] [(.int (2 : Int32)), (.ref b88), (.int ((own_fix f30) (2 : Int32)))])) rfl rfl (hb hby at_246) _ k) ?_
                by_cases hc247_118 : ((own_fix f30) (2 : Int32)) = ((own_fix f166) (2 : Int32))
                · refine own_go (U' := T108.setTop (mkF m 250 #[.val (.int p0), .val (.int p1), .val (.int p2), .val (.int p3), .val (.int p4), .val (.int p5), .val (.ref b63), .val (.ref b73), .val (.int y68), .val (.ref b88), .val (.ref b103), .unset] [])) (fun _ k => XS.icmpNo X108.here hx rfl (hb hby at_247) rfl (teq hc247_118).2 k) ?_
                  refine own_go (U' := T108.setTop (mkF m 252 #[.val (.int p0), .val (.int p1), .val (.int p2), .val (.int p3), .val (.int p4), .val (.int p5), .val (.ref b63), .val (.ref b73), .val (.int y68), .val (.ref b88), .val (.ref b103), .unset] [(.ref b63)])) (fun _ k => XS.aload X108.here hx rfl (hb hby at_250) rfl rfl k) ?_
                  refine own_go (U' := T108.setTop (mkF m 253 #[.val (.int p0), .val (.int p1), .val (.int p2), .val (.int p3), .val (.int p4), .val (.int p5), .val (.ref b63), .val (.ref b73), .val (.int y68), .val (.ref b88), .val (.ref b103), .unset] [(.int (3 : Int32)), (.ref b63)])) (fun _ k => XS.iconst X108.here hx rfl (hb hby at_252) k) ?_
                  have V119 := c108_0
                  obtain ⟨cl119, Ar119, q119, S119, Ng119, Hh119⟩ := V119
                  have hj119 : ¬ (3 : Int32) < 0 ∧ (3 : Int32) < (4 : Int32) := ⟨by decide, by decide⟩
                  have hat119 := Hh119 _ hj119.1 hj119.2
                  refine own_go (U' := T108.setTop (mkF m 254 #[.val (.int p0), .val (.int p1), .val (.int p2), .val (.int p3), .val (.int p4), .val (.int p5), .val (.ref b63), .val (.ref b73), .val (.int y68), .val (.ref b88), .val (.ref b103), .unset] [(.int ((own_fix f30) (3 : Int32)))])) (fun _ k => X108.iaload hx (j := (3 : Int32)) (v := (.int ((own_fix f30) (3 : Int32)))) (own_cell rfl Ar119.1) (State.isArrayOf_alike hZ.alike Ar119.2.1) Ar119.2.2 (inb_of S119 hj119) hat119 (g := (mkF m 253 #[.val (.int p0), .val (.int p1), .val (.int p2), .val (.int p3), .val (.int p4), .val (.int p5), .val (.ref b63), .val (.ref b73), .val (.int y68), .val (.ref b88), .val (.ref b103), .unset] [(.int (3 : Int32)), (.ref b63)])) rfl rfl (hb hby at_253) _ k) ?_
                  refine own_go (U' := T108.setTop (mkF m 256 #[.val (.int p0), .val (.int p1), .val (.int p2), .val (.int p3), .val (.int p4), .val (.int p5), .val (.ref b63), .val (.ref b73), .val (.int y68), .val (.ref b88), .val (.ref b103), .unset] [(.ref b88), (.int ((own_fix f30) (3 : Int32)))])) (fun _ k => XS.aload X108.here hx rfl (hb hby at_254) rfl rfl k) ?_
                  refine own_go (U' := T108.setTop (mkF m 257 #[.val (.int p0), .val (.int p1), .val (.int p2), .val (.int p3), .val (.int p4), .val (.int p5), .val (.ref b63), .val (.ref b73), .val (.int y68), .val (.ref b88), .val (.ref b103), .unset] [(.int (3 : Int32)), (.ref b88), (.int ((own_fix f30) (3 : Int32)))])) (fun _ k => XS.iconst X108.here hx rfl (hb hby at_256) k) ?_
                  have V120 := c108_6
                  obtain ⟨cl120, Ar120, q120, S120, Ng120, Hh120⟩ := V120
                  have hj120 : ¬ (3 : Int32) < 0 ∧ (3 : Int32) < (4 : Int32) := ⟨by decide, by decide⟩
                  have hat120 := Hh120 _ hj120.1 hj120.2
                  refine own_go (U' := T108.setTop (mkF m 258 #[.val (.int p0), .val (.int p1), .val (.int p2), .val (.int p3), .val (.int p4), .val (.int p5), .val (.ref b63), .val (.ref b73), .val (.int y68), .val (.ref b88), .val (.ref b103), .unset] [(.int ((own_fix f166) (3 : Int32))), (.int ((own_fix f30) (3 : Int32)))])) (fun _ k => X108.iaload hx (j := (3 : Int32)) (v := (.int ((own_fix f166) (3 : Int32)))) (own_cell rfl Ar120.1) (State.isArrayOf_alike hZ.alike Ar120.2.1) Ar120.2.2 (inb_of S120 hj120) hat120 (g := (mkF m 257 #[.val (.int p0), .val (.int p1), .val (.int p2), .val (.int p3), .val (.int p4), .val (.int p5), .val (.ref b63), .val (.ref b73), .val (.int y68), .val (.ref b88), .val (.ref b103), .unset] [(.int (3 : Int32)), (.ref b88), (.int ((own_fix f30) (3 : Int32)))])) rfl rfl (hb hby at_257) _ k) ?_
                  by_cases hc258_121 : ((own_fix f30) (3 : Int32)) = ((own_fix f166) (3 : Int32))
                  · refine own_go (U' := T108.setTop (mkF m 261 #[.val (.int p0), .val (.int p1), .val (.int p2), .val (.int p3), .val (.int p4), .val (.int p5), .val (.ref b63), .val (.ref b73), .val (.int y68), .val (.ref b88), .val (.ref b103), .unset] [])) (fun _ k => XS.icmpNo X108.here hx rfl (hb hby at_258) rfl (teq hc258_121).2 k) ?_
                    refine own_go (U' := T108.setTop (mkF m 262 #[.val (.int p0), .val (.int p1), .val (.int p2), .val (.int p3), .val (.int p4), .val (.int p5), .val (.ref b63), .val (.ref b73), .val (.int y68), .val (.ref b88), .val (.ref b103), .unset] [(.int (1 : Int32))])) (fun _ k => XS.iconst X108.here hx rfl (hb hby at_261) k) ?_
                    refine own_go (U' := T108.setTop (mkF m 266 #[.val (.int p0), .val (.int p1), .val (.int p2), .val (.int p3), .val (.int p4), .val (.int p5), .val (.ref b63), .val (.ref b73), .val (.int y68), .val (.ref b88), .val (.ref b103), .unset] [(.int (1 : Int32))])) (fun _ k => XS.goto X108.here hx rfl (pc0 := 262) (pc' := 266) rfl (hb hby at_262) (by decide) (by decide) k) ?_
                    simp only [if_pos hc225_112, if_pos hc236_115, if_pos hc247_118, if_pos hc258_121] at hz225
                    subst hz225
                    exact J225_111
                  · refine own_go (U' := T108.setTop (mkF m 265 #[.val (.int p0), .val (.int p1), .val (.int p2), .val (.int p3), .val (.int p4), .val (.int p5), .val (.ref b63), .val (.ref b73), .val (.int y68), .val (.ref b88), .val (.ref b103), .unset] [])) (fun _ k => XS.icmpYes X108.here hx rfl (pc0 := 258) (pc' := 265) rfl (hb hby at_258) rfl (feq hc258_121).2 (by decide) (by decide) k) ?_
                    refine own_go (U' := T108.setTop (mkF m 266 #[.val (.int p0), .val (.int p1), .val (.int p2), .val (.int p3), .val (.int p4), .val (.int p5), .val (.ref b63), .val (.ref b73), .val (.int y68), .val (.ref b88), .val (.ref b103), .unset] [(.int (0 : Int32))])) (fun _ k => XS.iconst X108.here hx rfl (hb hby at_265) k) ?_
                    simp only [if_pos hc225_112, if_pos hc236_115, if_pos hc247_118, if_neg hc258_121] at hz225
                    subst hz225
                    exact J225_111
                · refine own_go (U' := T108.setTop (mkF m 265 #[.val (.int p0), .val (.int p1), .val (.int p2), .val (.int p3), .val (.int p4), .val (.int p5), .val (.ref b63), .val (.ref b73), .val (.int y68), .val (.ref b88), .val (.ref b103), .unset] [])) (fun _ k => XS.icmpYes X108.here hx rfl (pc0 := 247) (pc' := 265) rfl (hb hby at_247) rfl (feq hc247_118).2 (by decide) (by decide) k) ?_
                  refine own_go (U' := T108.setTop (mkF m 266 #[.val (.int p0), .val (.int p1), .val (.int p2), .val (.int p3), .val (.int p4), .val (.int p5), .val (.ref b63), .val (.ref b73), .val (.int y68), .val (.ref b88), .val (.ref b103), .unset] [(.int (0 : Int32))])) (fun _ k => XS.iconst X108.here hx rfl (hb hby at_265) k) ?_
                  simp only [if_pos hc225_112, if_pos hc236_115, if_neg hc247_118] at hz225
                  subst hz225
                  exact J225_111
              · refine own_go (U' := T108.setTop (mkF m 265 #[.val (.int p0), .val (.int p1), .val (.int p2), .val (.int p3), .val (.int p4), .val (.int p5), .val (.ref b63), .val (.ref b73), .val (.int y68), .val (.ref b88), .val (.ref b103), .unset] [])) (fun _ k => XS.icmpYes X108.here hx rfl (pc0 := 236) (pc' := 265) rfl (hb hby at_236) rfl (feq hc236_115).2 (by decide) (by decide) k) ?_
                refine own_go (U' := T108.setTop (mkF m 266 #[.val (.int p0), .val (.int p1), .val (.int p2), .val (.int p3), .val (.int p4), .val (.int p5), .val (.ref b63), .val (.ref b73), .val (.int y68), .val (.ref b88), .val (.ref b103), .unset] [(.int (0 : Int32))])) (fun _ k => XS.iconst X108.here hx rfl (hb hby at_265) k) ?_
                simp only [if_pos hc225_112, if_neg hc236_115] at hz225
                subst hz225
                exact J225_111
            · refine own_go (U' := T108.setTop (mkF m 265 #[.val (.int p0), .val (.int p1), .val (.int p2), .val (.int p3), .val (.int p4), .val (.int p5), .val (.ref b63), .val (.ref b73), .val (.int y68), .val (.ref b88), .val (.ref b103), .unset] [])) (fun _ k => XS.icmpYes X108.here hx rfl (pc0 := 225) (pc' := 265) rfl (hb hby at_225) rfl (feq hc225_112).2 (by decide) (by decide) k) ?_
              refine own_go (U' := T108.setTop (mkF m 266 #[.val (.int p0), .val (.int p1), .val (.int p2), .val (.int p3), .val (.int p4), .val (.int p5), .val (.ref b63), .val (.ref b73), .val (.int y68), .val (.ref b88), .val (.ref b103), .unset] [(.int (0 : Int32))])) (fun _ k => XS.iconst X108.here hx rfl (hb hby at_265) k) ?_
              simp only [if_neg hc225_112] at hz225
              subst hz225
              exact J225_111
          · refine own_go (U' := T108.setTop (mkF m 268 #[.val (.int p0), .val (.int p1), .val (.int p2), .val (.int p3), .val (.int p4), .val (.int p5), .val (.ref b63), .val (.ref b73), .val (.int y68), .val (.ref b88), .val (.ref b103), .val (.int z225)] [])) (fun _ k => XS.istore X108.here hx rfl (hb hby at_266) rfl (l' := #[.val (.int p0), .val (.int p1), .val (.int p2), .val (.int p3), .val (.int p4), .val (.int p5), .val (.ref b63), .val (.ref b73), .val (.int y68), .val (.ref b88), .val (.ref b103), .val (.int z225)]) rfl k) ?_
            refine own_go (U' := T108.setTop (mkF m 270 #[.val (.int p0), .val (.int p1), .val (.int p2), .val (.int p3), .val (.int p4), .val (.int p5), .val (.ref b63), .val (.ref b73), .val (.int y68), .val (.ref b88), .val (.ref b103), .val (.int z225)] [(.ref b73)])) (fun _ k => XS.aload X108.here hx rfl (hb hby at_268) rfl rfl k) ?_
            refine own_go (U' := T108.setTop (mkF m 272 #[.val (.int p0), .val (.int p1), .val (.int p2), .val (.int p3), .val (.int p4), .val (.int p5), .val (.ref b63), .val (.ref b73), .val (.int y68), .val (.ref b88), .val (.ref b103), .val (.int z225)] [(.ref b103), (.ref b73)])) (fun _ k => XS.aload X108.here hx rfl (hb hby at_270) rfl rfl k) ?_
            obtain ⟨cq122, kq122, q122a, q122b, q122c⟩ := isOf hZ rfl c108_1
            obtain ⟨_, _, ⟨T122, L122, k122, n122⟩, -, X122, ⟨Lc122, hQ122, l122, y122, z122⟩, st122⟩ := X108.virtualBack hx (y := (⟨"com/example/layout_to_evidence/layouttoevidence/CellSpan", "equals", "(Ljava/lang/Object;)Z"⟩ : MethodName)) (z := (⟨"com/example/layout_to_evidence/layouttoevidence/CellSpan", "equals", "(Ljava/lang/Object;)Z"⟩ : MethodName)) hown (mvT hZ (hw _ (List.mem_of_getElem? (i := 27) rfl))) (mvT hZ (hw _ (List.mem_of_getElem? (i := 28) rfl))) (notFace_of_selects (args := #[]) (mvT hZ (hw _ (List.mem_of_getElem? (i := 30) rfl)))) (mvT hZ (hw _ (List.mem_of_getElem? (i := 30) rfl))) (mvT hZ (hw _ (List.mem_of_getElem? (i := 29) rfl))) (by decide) (backOf (W := 0) (rm5 l Z aw hw [] b73 b103 ((own_fix f30) (0 : Int32)) ((own_fix f30) (1 : Int32)) ((own_fix f30) (2 : Int32)) ((own_fix f30) (3 : Int32)) ((own_fix f166) (0 : Int32)) ((own_fix f166) (1 : Int32)) ((own_fix f166) (2 : Int32)) ((own_fix f166) (3 : Int32)) T108.heap n0 Z108 xE108 c108_2 c108_3 c108_4 c108_5 x0108 x1108 x2108 x3108) hZ (hw _ (List.mem_of_getElem? (i := 31) rfl)) (hw _ (List.mem_of_getElem? (i := 12) rfl)) (by decide) (by decide)) q122a q122c (g := (mkF m 272 #[.val (.int p0), .val (.int p1), .val (.int p2), .val (.int p3), .val (.int p4), .val (.int p5), .val (.ref b63), .val (.ref b73), .val (.int y68), .val (.ref b88), .val (.ref b103), .val (.int z225)] [(.ref b103), (.ref b73)])) rfl (by rw [hml]; rfl) (Steps.refl _) (argsL := [(.ref b103)]) (rest := []) (lenOf own_pd5 rfl) rfl (by show 2 * 0 + _ ≤ _; exact Nat.le_of_eq rfl) (hb hby at_272) (fun _ _ => ⟨rfl, rfl, (by decide : 4 + 0 ≤ _), (by decide : 16 + 0 ≤ _)⟩)
            dsimp only [Pt.U, Pt.locs, Pt.cells, Pt.slots] at X122 l122 y122 z122 st122 hQ122
            subst l122 y122 z122
            obtain ⟨rfl, N122q, e122⟩ := hQ122
            have N122 := Fr.app N108 N122q
            refine own_go (U' := T122.setTop (mkF m 275 #[.val (.int p0), .val (.int p1), .val (.int p2), .val (.int p3), .val (.int p4), .val (.int p5), .val (.ref b63), .val (.ref b73), .val (.int y68), .val (.ref b88), .val (.ref b103), .val (.int z225)] [(.int (f_5 b73 b103 ((own_fix f30) (0 : Int32)) ((own_fix f30) (1 : Int32)) ((own_fix f30) (2 : Int32)) ((own_fix f30) (3 : Int32)) ((own_fix f166) (0 : Int32)) ((own_fix f166) (1 : Int32)) ((own_fix f166) (2 : Int32)) ((own_fix f166) (3 : Int32))))])) (fun _ k => st122.trans k) ?_
            refine own_go (U' := T122.setTop (mkF m 277 #[.val (.int p0), .val (.int p1), .val (.int p2), .val (.int p3), .val (.int p4), .val (.int p5), .val (.ref b63), .val (.ref b73), .val (.int y68), .val (.ref b88), .val (.ref b103), .val (.int z225)] [(.int z225), (.int (f_5 b73 b103 ((own_fix f30) (0 : Int32)) ((own_fix f30) (1 : Int32)) ((own_fix f30) (2 : Int32)) ((own_fix f30) (3 : Int32)) ((own_fix f166) (0 : Int32)) ((own_fix f166) (1 : Int32)) ((own_fix f166) (2 : Int32)) ((own_fix f166) (3 : Int32))))])) (fun _ k => XS.iload X122.here hx rfl (hb hby at_275) rfl k) ?_
            have hc277_123 : (f_5 b73 b103 ((own_fix f30) (0 : Int32)) ((own_fix f30) (1 : Int32)) ((own_fix f30) (2 : Int32)) ((own_fix f30) (3 : Int32)) ((own_fix f166) (0 : Int32)) ((own_fix f166) (1 : Int32)) ((own_fix f166) (2 : Int32)) ((own_fix f166) (3 : Int32))) = z225 := (own_eqs _ _ _ _ _ _ _ _ _ _).1.trans hz225.symm
            refine own_go (U' := T122.setTop (mkF m 280 #[.val (.int p0), .val (.int p1), .val (.int p2), .val (.int p3), .val (.int p4), .val (.int p5), .val (.ref b63), .val (.ref b73), .val (.int y68), .val (.ref b88), .val (.ref b103), .val (.int z225)] [])) (fun _ k => XS.icmpNo X122.here hx rfl (hb hby at_277) rfl (teq hc277_123).2 k) ?_
            refine own_go (U' := T122.setTop (mkF m 282 #[.val (.int p0), .val (.int p1), .val (.int p2), .val (.int p3), .val (.int p4), .val (.int p5), .val (.ref b63), .val (.ref b73), .val (.int y68), .val (.ref b88), .val (.ref b103), .val (.int z225)] [(.ref b103)])) (fun _ k => XS.aload X122.here hx rfl (hb hby at_280) rfl rfl k) ?_
            refine own_go (U' := T122.setTop (mkF m 284 #[.val (.int p0), .val (.int p1), .val (.int p2), .val (.int p3), .val (.int p4), .val (.int p5), .val (.ref b63), .val (.ref b73), .val (.int y68), .val (.ref b88), .val (.ref b103), .val (.int z225)] [(.ref b73), (.ref b103)])) (fun _ k => XS.aload X122.here hx rfl (hb hby at_282) rfl rfl k) ?_
            obtain ⟨cq124, kq124, q124a, q124b, q124c⟩ := isOf hZ e122 xE108
            obtain ⟨_, _, ⟨T124, L124, k124, n124⟩, -, X124, ⟨Lc124, hQ124, l124, y124, z124⟩, st124⟩ := X122.virtualBack hx (y := (⟨"com/example/layout_to_evidence/layouttoevidence/CellSpan", "equals", "(Ljava/lang/Object;)Z"⟩ : MethodName)) (z := (⟨"com/example/layout_to_evidence/layouttoevidence/CellSpan", "equals", "(Ljava/lang/Object;)Z"⟩ : MethodName)) hown (mvT hZ (hw _ (List.mem_of_getElem? (i := 27) rfl))) (mvT hZ (hw _ (List.mem_of_getElem? (i := 28) rfl))) (notFace_of_selects (args := #[]) (mvT hZ (hw _ (List.mem_of_getElem? (i := 30) rfl)))) (mvT hZ (hw _ (List.mem_of_getElem? (i := 30) rfl))) (mvT hZ (hw _ (List.mem_of_getElem? (i := 29) rfl))) (by decide) (backOf (W := 0) (rm5 l Z aw hw [] b103 b73 ((own_fix f166) (0 : Int32)) ((own_fix f166) (1 : Int32)) ((own_fix f166) (2 : Int32)) ((own_fix f166) (3 : Int32)) ((own_fix f30) (0 : Int32)) ((own_fix f30) (1 : Int32)) ((own_fix f30) (2 : Int32)) ((own_fix f30) (3 : Int32)) T108.heap n0 Z108 c108_1 x0108 x1108 x2108 x3108 c108_2 c108_3 c108_4 c108_5) hZ (hw _ (List.mem_of_getElem? (i := 31) rfl)) (hw _ (List.mem_of_getElem? (i := 12) rfl)) (by decide) (by decide)) q124a q124c (g := (mkF m 284 #[.val (.int p0), .val (.int p1), .val (.int p2), .val (.int p3), .val (.int p4), .val (.int p5), .val (.ref b63), .val (.ref b73), .val (.int y68), .val (.ref b88), .val (.ref b103), .val (.int z225)] [(.ref b73), (.ref b103)])) rfl (by rw [hml]; rfl) (Steps.refl _) (argsL := [(.ref b73)]) (rest := []) (lenOf own_pd5 rfl) rfl (by show 2 * 0 + _ ≤ _; exact Nat.le_of_eq rfl) (hb hby at_284) (fun _ _ => ⟨rfl, e122, (by decide : 4 + 0 ≤ _), (by decide : 16 + 0 ≤ _)⟩)
            dsimp only [Pt.U, Pt.locs, Pt.cells, Pt.slots] at X124 l124 y124 z124 st124 hQ124
            subst l124 y124 z124
            obtain ⟨rfl, N124q, e124⟩ := hQ124
            have N124 := Fr.app N122 N124q
            refine own_go (U' := T124.setTop (mkF m 287 #[.val (.int p0), .val (.int p1), .val (.int p2), .val (.int p3), .val (.int p4), .val (.int p5), .val (.ref b63), .val (.ref b73), .val (.int y68), .val (.ref b88), .val (.ref b103), .val (.int z225)] [(.int (f_5 b103 b73 ((own_fix f166) (0 : Int32)) ((own_fix f166) (1 : Int32)) ((own_fix f166) (2 : Int32)) ((own_fix f166) (3 : Int32)) ((own_fix f30) (0 : Int32)) ((own_fix f30) (1 : Int32)) ((own_fix f30) (2 : Int32)) ((own_fix f30) (3 : Int32))))])) (fun _ k => st124.trans k) ?_
            refine own_go (U' := T124.setTop (mkF m 289 #[.val (.int p0), .val (.int p1), .val (.int p2), .val (.int p3), .val (.int p4), .val (.int p5), .val (.ref b63), .val (.ref b73), .val (.int y68), .val (.ref b88), .val (.ref b103), .val (.int z225)] [(.int z225), (.int (f_5 b103 b73 ((own_fix f166) (0 : Int32)) ((own_fix f166) (1 : Int32)) ((own_fix f166) (2 : Int32)) ((own_fix f166) (3 : Int32)) ((own_fix f30) (0 : Int32)) ((own_fix f30) (1 : Int32)) ((own_fix f30) (2 : Int32)) ((own_fix f30) (3 : Int32))))])) (fun _ k => XS.iload X124.here hx rfl (hb hby at_287) rfl k) ?_
            have hc289_125 : (f_5 b103 b73 ((own_fix f166) (0 : Int32)) ((own_fix f166) (1 : Int32)) ((own_fix f166) (2 : Int32)) ((own_fix f166) (3 : Int32)) ((own_fix f30) (0 : Int32)) ((own_fix f30) (1 : Int32)) ((own_fix f30) (2 : Int32)) ((own_fix f30) (3 : Int32))) = z225 := (own_eqs _ _ _ _ _ _ _ _ _ _).2.trans hz225.symm
            refine own_go (U' := T124.setTop (mkF m 292 #[.val (.int p0), .val (.int p1), .val (.int p2), .val (.int p3), .val (.int p4), .val (.int p5), .val (.ref b63), .val (.ref b73), .val (.int y68), .val (.ref b88), .val (.ref b103), .val (.int z225)] [])) (fun _ k => XS.icmpNo X124.here hx rfl (hb hby at_289) rfl (teq hc289_125).2 k) ?_
            refine own_go (U' := T124.setTop (mkF m 293 #[.val (.int p0), .val (.int p1), .val (.int p2), .val (.int p3), .val (.int p4), .val (.int p5), .val (.ref b63), .val (.ref b73), .val (.int y68), .val (.ref b88), .val (.ref b103), .val (.int z225)] [(.int (1 : Int32))])) (fun _ k => XS.iconst X124.here hx rfl (hb hby at_292) k) ?_
            refine own_go (U' := T124.setTop (mkF m 297 #[.val (.int p0), .val (.int p1), .val (.int p2), .val (.int p3), .val (.int p4), .val (.int p5), .val (.ref b63), .val (.ref b73), .val (.int y68), .val (.ref b88), .val (.ref b103), .val (.int z225)] [(.int (1 : Int32))])) (fun _ k => XS.goto X124.here hx rfl (pc0 := 293) (pc' := 297) rfl (hb hby at_293) (by decide) (by decide) k) ?_
            refine own_ret X124 (v := (some (.int (1 : Int32)))) hlk (fun h => by rw [Bd.returns] at h; cases h) (by decide) (by decide) (fun fs hr => retN X124 hx (t := .boolean) Bd.returns (by simp) (hb hby at_297) hr) ?_
            show (Q0 Z p0 p1 p2 p3 p4 p5 wc h0 n0) _ T124.heap _
            rw [e124]
            exact ⟨rfl, N124⟩
        · refine own_go (U' := T100.setTop (mkF m 175 #[.val (.int p0), .val (.int p1), .val (.int p2), .val (.int p3), .val (.int p4), .val (.int p5), .val (.ref b63), .val (.ref b73), .val (.int y68), .val (.ref b88), .unset, .unset] [])) (fun _ k => XS.icmpNo X100.here hx rfl (hb hby at_172) rfl (flt hc172_101).1 k) ?_
          refine own_go (U' := T100.setTop (mkF m 177 #[.val (.int p0), .val (.int p1), .val (.int p2), .val (.int p3), .val (.int p4), .val (.int p5), .val (.ref b63), .val (.ref b73), .val (.int y68), .val (.ref b88), .unset, .unset] [(.ref b88)])) (fun _ k => XS.aload X100.here hx rfl (hb hby at_175) rfl rfl k) ?_
          refine own_go (U' := T100.setTop (mkF m 179 #[.val (.int p0), .val (.int p1), .val (.int p2), .val (.int p3), .val (.int p4), .val (.int p5), .val (.ref b63), .val (.ref b73), .val (.int y68), .val (.ref b88), .unset, .unset] [(.int y68), (.ref b88)])) (fun _ k => XS.iload X100.here hx rfl (hb hby at_177) rfl k) ?_
          refine own_go (U' := T100.setTop (mkF m 180 #[.val (.int p0), .val (.int p1), .val (.int p2), .val (.int p3), .val (.int p4), .val (.int p5), .val (.ref b63), .val (.ref b73), .val (.int y68), .val (.ref b88), .unset, .unset] [(.int (1 : Int32)), (.int y68), (.ref b88)])) (fun _ k => XS.iconst X100.here hx rfl (hb hby at_179) k) ?_
          refine own_go (U' := T100.setTop (mkF m 181 #[.val (.int p0), .val (.int p1), .val (.int p2), .val (.int p3), .val (.int p4), .val (.int p5), .val (.ref b63), .val (.ref b73), .val (.int y68), .val (.ref b88), .unset, .unset] [(.int (y68 - (1 : Int32))), (.ref b88)])) (fun _ k => XS.isub X100.here hx rfl (hb hby at_180) rfl k) ?_
          refine own_go (U' := T100.setTop (mkF m 183 #[.val (.int p0), .val (.int p1), .val (.int p2), .val (.int p3), .val (.int p4), .val (.int p5), .val (.ref b63), .val (.ref b73), .val (.int y68), .val (.ref b88), .unset, .unset] [(.int p4), (.int (y68 - (1 : Int32))), (.ref b88)])) (fun _ k => XS.iload X100.here hx rfl (hb hby at_181) rfl k) ?_
          refine own_go (U' := T100.setTop (mkF m 185 #[.val (.int p0), .val (.int p1), .val (.int p2), .val (.int p3), .val (.int p4), .val (.int p5), .val (.ref b63), .val (.ref b73), .val (.int y68), .val (.ref b88), .unset, .unset] [(.int (2147483647 : Int32)), (.int p4), (.int (y68 - (1 : Int32))), (.ref b88)])) (fun _ k => X100.ldcInt hx hown (mvT hZ (hw _ (List.mem_of_getElem? (i := 1) rfl))) (g := (mkF m 183 #[.val (.int p0), .val (.int p1), .val (.int p2), .val (.int p3), .val (.int p4), .val (.int p5), .val (.ref b63), .val (.ref b73), .val (.int y68), .val (.ref b88), .unset, .unset] [(.int p4), (.int (y68 - (1 : Int32))), (.ref b88)])) rfl (hb hby at_183) _ k) ?_
          refine own_go (U' := T100.setTop (mkF m 186 #[.val (.int p0), .val (.int p1), .val (.int p2), .val (.int p3), .val (.int p4), .val (.int p5), .val (.ref b63), .val (.ref b73), .val (.int y68), .val (.ref b88), .unset, .unset] [(.int (p4 &&& (2147483647 : Int32))), (.int (y68 - (1 : Int32))), (.ref b88)])) (fun _ k => XS.iand X100.here hx rfl (hb hby at_185) rfl k) ?_
          have V126 := w100
          obtain ⟨cl126, Ar126, q126, S126, Ng126, Hh126⟩ := V126
          have hj126 : ¬ (y68 - (1 : Int32)) < 0 ∧ (y68 - (1 : Int32)) < (4 : Int32) := own_k hy68 hc73_79 hc95_82 hc125_86 hc172_101
          obtain ⟨T127, h127, X127, e127, W127, st127⟩ := stI X100 hx hZ e100 Ar126 (j := (y68 - (1 : Int32))) (inb_of S126 hj126) (g := (mkF m 186 #[.val (.int p0), .val (.int p1), .val (.int p2), .val (.int p3), .val (.int p4), .val (.int p5), .val (.ref b63), .val (.ref b73), .val (.int y68), .val (.ref b88), .unset, .unset] [(.int (p4 &&& (2147483647 : Int32))), (.int (y68 - (1 : Int32))), (.ref b88)])) rfl rfl (hb hby at_186)
          obtain ⟨f186, hf186⟩ : ∃ F_ : Int32 → Int32, F_ = (fun i : Int32 => if i = (y68 - (1 : Int32)) then (p4 &&& (2147483647 : Int32)) else f166 i) := ⟨_, rfl⟩
          have c127_0 : own_Arf Z h127 b63 k63 .int (4 : Int32) (own_fix f30) := c100_0.other W127 ne_b63_b88
          have c127_1 : Exa Z h127 b73 "com/example/layout_to_evidence/layouttoevidence/CellSpan" := c100_1.wr W127
          have c127_2 : Fld Z h127 b73 "com/example/layout_to_evidence/layouttoevidence/CellSpan" "startRow" "I" (.int ((own_fix f30) (0 : Int32))) := c100_2.other W127 (Or.inl ne_b73_b88)
          have c127_3 : Fld Z h127 b73 "com/example/layout_to_evidence/layouttoevidence/CellSpan" "endRow" "I" (.int ((own_fix f30) (1 : Int32))) := c100_3.other W127 (Or.inl ne_b73_b88)
          have c127_4 : Fld Z h127 b73 "com/example/layout_to_evidence/layouttoevidence/CellSpan" "startColumn" "I" (.int ((own_fix f30) (2 : Int32))) := c100_4.other W127 (Or.inl ne_b73_b88)
          have c127_5 : Fld Z h127 b73 "com/example/layout_to_evidence/layouttoevidence/CellSpan" "endColumn" "I" (.int ((own_fix f30) (3 : Int32))) := c100_5.other W127 (Or.inl ne_b73_b88)
          have w127 : own_Arf Z h127 b88 k88 .int (4 : Int32) f186 := by rw [hf186]; exact own_Arf.set Ar126 q126 S126 Ng126 Hh126 hj126 W127
          have Z127 : n0 ≤ h127.size := Nat.le_trans Z100 (Keep.of_wr W127).1
          have K127 := Keep.wr K100 W127 (Or.inr sz_b88)
          have N127 := Fr.snoc X127 N100 g_b88
          refine own_go (U' := T127.setTop (mkF m 187 #[.val (.int p0), .val (.int p1), .val (.int p2), .val (.int p3), .val (.int p4), .val (.int p5), .val (.ref b63), .val (.ref b73), .val (.int y68), .val (.ref b88), .unset, .unset] [])) (fun _ k => st127 _ k) ?_
          refine own_go (U' := T127.setTop (mkF m 189 #[.val (.int p0), .val (.int p1), .val (.int p2), .val (.int p3), .val (.int p4), .val (.int p5), .val (.ref b63), .val (.ref b73), .val (.int y68), .val (.ref b88), .unset, .unset] [(.ref b88)])) (fun _ k => XS.aload X127.here hx rfl (hb hby at_187) rfl rfl k) ?_
          obtain ⟨_, _, ⟨T128, L128, k128, n128⟩, -, X128, ⟨Lc128, hQ128, l128, y128, z128⟩, st128⟩ := Jvm.LawKit.callS X127 hx (y := (⟨"com/example/layout_to_evidence/layouttoevidence/CellSpanEqualsPinLaw", "fix", "([I)V"⟩ : MethodName)) hown (mvT hZ (hw _ (List.mem_of_getElem? (i := 2) rfl))) (mvT hZ (hw _ (List.mem_of_getElem? (i := 3) rfl))) (mvT hZ (hw _ (List.mem_of_getElem? (i := 4) rfl))) (mvT hZ (hw _ (List.mem_of_getElem? (i := 5) rfl))) (by decide) (backOf (W := 0) (rm1 l Z aw hw [] b88 k88 f186 h127 n0 Z127 w127 (by first | assumption | decide)) hZ (hw _ (List.mem_of_getElem? (i := 5) rfl)) (hw _ (List.mem_of_getElem? (i := 4) rfl)) (by decide) (by decide)) (g := (mkF m 189 #[.val (.int p0), .val (.int p1), .val (.int p2), .val (.int p3), .val (.int p4), .val (.int p5), .val (.ref b63), .val (.ref b73), .val (.int y68), .val (.ref b88), .unset, .unset] [(.ref b88)])) rfl (by rw [hml]; rfl) (argsL := [(.ref b88)]) (rest := []) (lenOf own_pd3 rfl) rfl (by show 2 * 0 + _ ≤ _; exact Nat.le_of_eq rfl) (hb hby at_189) (fun _ _ => ⟨rfl, e127, (by decide : 3 + 0 ≤ _), (by decide : 12 + 0 ≤ _)⟩)
          dsimp only [Pt.U, Pt.locs, Pt.cells, Pt.slots] at X128 l128 y128 z128 st128 hQ128
          subst l128 y128 z128
          obtain ⟨rfl, N128q, K128q, xV128⟩ := hQ128
          have N128 := Fr.app N127 N128q
          have c128_0 : own_Arf Z T128.heap b63 k63 .int (4 : Int32) (own_fix f30) := c127_0.keep K128q (ninS ne_b63_b88 nin0)
          have c128_1 : Exa Z T128.heap b73 "com/example/layout_to_evidence/layouttoevidence/CellSpan" := c127_1.keep K128q
          have c128_2 : Fld Z T128.heap b73 "com/example/layout_to_evidence/layouttoevidence/CellSpan" "startRow" "I" (.int ((own_fix f30) (0 : Int32))) := c127_2.keep K128q (ninS ne_b73_b88 nin0)
          have c128_3 : Fld Z T128.heap b73 "com/example/layout_to_evidence/layouttoevidence/CellSpan" "endRow" "I" (.int ((own_fix f30) (1 : Int32))) := c127_3.keep K128q (ninS ne_b73_b88 nin0)
          have c128_4 : Fld Z T128.heap b73 "com/example/layout_to_evidence/layouttoevidence/CellSpan" "startColumn" "I" (.int ((own_fix f30) (2 : Int32))) := c127_4.keep K128q (ninS ne_b73_b88 nin0)
          have c128_5 : Fld Z T128.heap b73 "com/example/layout_to_evidence/layouttoevidence/CellSpan" "endColumn" "I" (.int ((own_fix f30) (3 : Int32))) := c127_5.keep K128q (ninS ne_b73_b88 nin0)
          have Z128 : n0 ≤ T128.heap.size := Nat.le_trans Z127 K128q.1
          have K128 := Keep.trans K127 K128q (allS (Or.inr sz_b88) all0)
          refine own_go (U' := T128.setTop (mkF m 192 #[.val (.int p0), .val (.int p1), .val (.int p2), .val (.int p3), .val (.int p4), .val (.int p5), .val (.ref b63), .val (.ref b73), .val (.int y68), .val (.ref b88), .unset, .unset] [])) (fun _ k => st128 _ k) ?_
          obtain ⟨T129, h129, X129, e129, E129, A129, D129, -, st129⟩ := newO X128 hx hZ hown (hw _ (List.mem_of_getElem? (i := 10) rfl)) (hw _ (List.mem_of_getElem? (i := 11) rfl)) (hw _ (List.mem_of_getElem? (i := 12) rfl)) rfl (g := (mkF m 192 #[.val (.int p0), .val (.int p1), .val (.int p2), .val (.int p3), .val (.int p4), .val (.int p5), .val (.ref b63), .val (.ref b73), .val (.int y68), .val (.ref b88), .unset, .unset] [])) rfl (hb hby at_192) (by decide) (by decide)
          obtain ⟨b129, g129⟩ : ∃ z, z = T128.heap.size := ⟨_, rfl⟩
          have g_b129 : n0 ≤ b129 := Nat.le_trans Z128 (Nat.le_of_eq g129.symm)
          have sz_b129 : h0.size ≤ b129 := Nat.le_trans K128.1 (Nat.le_of_eq g129.symm)
          have ne_b63_b129 : b63 ≠ b129 := Nat.ne_of_lt (Nat.lt_of_lt_of_le c128_0.lt (Nat.le_of_eq g129.symm))
          have ne_b73_b129 : b73 ≠ b129 := Nat.ne_of_lt (Nat.lt_of_lt_of_le c128_1.lt (Nat.le_of_eq g129.symm))
          have ne_b88_b129 : b88 ≠ b129 := Nat.ne_of_lt (Nat.lt_of_lt_of_le xV128.lt (Nat.le_of_eq g129.symm))
          rw [← g129] at A129 D129 st129
          have c129_0 : own_Arf Z h129 b63 k63 .int (4 : Int32) (own_fix f30) := c128_0.ext E129
          have c129_1 : Exa Z h129 b73 "com/example/layout_to_evidence/layouttoevidence/CellSpan" := c128_1.ext E129
          have c129_2 : Fld Z h129 b73 "com/example/layout_to_evidence/layouttoevidence/CellSpan" "startRow" "I" (.int ((own_fix f30) (0 : Int32))) := c128_2.ext E129
          have c129_3 : Fld Z h129 b73 "com/example/layout_to_evidence/layouttoevidence/CellSpan" "endRow" "I" (.int ((own_fix f30) (1 : Int32))) := c128_3.ext E129
          have c129_4 : Fld Z h129 b73 "com/example/layout_to_evidence/layouttoevidence/CellSpan" "startColumn" "I" (.int ((own_fix f30) (2 : Int32))) := c128_4.ext E129
          have c129_5 : Fld Z h129 b73 "com/example/layout_to_evidence/layouttoevidence/CellSpan" "endColumn" "I" (.int ((own_fix f30) (3 : Int32))) := c128_5.ext E129
          have c129_6 : own_Arf Z h129 b88 k88 .int (4 : Int32) (own_fix f186) := xV128.ext E129
          have Z129 : n0 ≤ h129.size := Nat.le_trans Z128 E129.1
          have K129 := Keep.ext K128 E129
          have F129_20 : Fld Z h129 b129 "com/example/layout_to_evidence/layouttoevidence/CellSpan" "startRow" "I" (.int (0 : Int32)) := D129 (Or.inr (hw _ (List.mem_of_getElem? (i := 20) rfl))) (ty := .int) (by decide)
          have F129_22 : Fld Z h129 b129 "com/example/layout_to_evidence/layouttoevidence/CellSpan" "endRow" "I" (.int (0 : Int32)) := D129 (Or.inr (hw _ (List.mem_of_getElem? (i := 22) rfl))) (ty := .int) (by decide)
          have F129_24 : Fld Z h129 b129 "com/example/layout_to_evidence/layouttoevidence/CellSpan" "startColumn" "I" (.int (0 : Int32)) := D129 (Or.inr (hw _ (List.mem_of_getElem? (i := 24) rfl))) (ty := .int) (by decide)
          have F129_26 : Fld Z h129 b129 "com/example/layout_to_evidence/layouttoevidence/CellSpan" "endColumn" "I" (.int (0 : Int32)) := D129 (Or.inr (hw _ (List.mem_of_getElem? (i := 26) rfl))) (ty := .int) (by decide)
          refine own_go (U' := T129.setTop (mkF m 195 #[.val (.int p0), .val (.int p1), .val (.int p2), .val (.int p3), .val (.int p4), .val (.int p5), .val (.ref b63), .val (.ref b73), .val (.int y68), .val (.ref b88), .unset, .unset] [(.ref b129)])) (fun _ k => st129 _ k) ?_
          refine own_go (U' := T129.setTop (mkF m 196 #[.val (.int p0), .val (.int p1), .val (.int p2), .val (.int p3), .val (.int p4), .val (.int p5), .val (.ref b63), .val (.ref b73), .val (.int y68), .val (.ref b88), .unset, .unset] [(.ref b129), (.ref b129)])) (fun _ k => XS.dup X129.here hx rfl (hb hby at_195) rfl rfl k) ?_
          obtain ⟨hv1, hv2, hv3, hv4, hv5⟩ := own_five (own_fixok (own_putok hf186 (own_mask _) _ hu0) (own_putok hf186 (own_mask _) _ hu1) (own_putok hf186 (own_mask _) _ hu2) (own_putok hf186 (own_mask _) _ hu3))
          refine own_go (U' := T129.setTop (mkF m 198 #[.val (.int p0), .val (.int p1), .val (.int p2), .val (.int p3), .val (.int p4), .val (.int p5), .val (.ref b63), .val (.ref b73), .val (.int y68), .val (.ref b88), .unset, .unset] [(.ref b88), (.ref b129), (.ref b129)])) (fun _ k => XS.aload X129.here hx rfl (hb hby at_196) rfl rfl k) ?_
          refine own_go (U' := T129.setTop (mkF m 199 #[.val (.int p0), .val (.int p1), .val (.int p2), .val (.int p3), .val (.int p4), .val (.int p5), .val (.ref b63), .val (.ref b73), .val (.int y68), .val (.ref b88), .unset, .unset] [(.int (0 : Int32)), (.ref b88), (.ref b129), (.ref b129)])) (fun _ k => XS.iconst X129.here hx rfl (hb hby at_198) k) ?_
          have V130 := c129_6
          obtain ⟨cl130, Ar130, q130, S130, Ng130, Hh130⟩ := V130
          have hj130 : ¬ (0 : Int32) < 0 ∧ (0 : Int32) < (4 : Int32) := ⟨by decide, by decide⟩
          have hat130 := Hh130 _ hj130.1 hj130.2
          refine own_go (U' := T129.setTop (mkF m 200 #[.val (.int p0), .val (.int p1), .val (.int p2), .val (.int p3), .val (.int p4), .val (.int p5), .val (.ref b63), .val (.ref b73), .val (.int y68), .val (.ref b88), .unset, .unset] [(.int ((own_fix f186) (0 : Int32))), (.ref b129), (.ref b129)])) (fun _ k => X129.iaload hx (j := (0 : Int32)) (v := (.int ((own_fix f186) (0 : Int32)))) (own_cell e129 Ar130.1) (State.isArrayOf_alike hZ.alike Ar130.2.1) Ar130.2.2 (inb_of S130 hj130) hat130 (g := (mkF m 199 #[.val (.int p0), .val (.int p1), .val (.int p2), .val (.int p3), .val (.int p4), .val (.int p5), .val (.ref b63), .val (.ref b73), .val (.int y68), .val (.ref b88), .unset, .unset] [(.int (0 : Int32)), (.ref b88), (.ref b129), (.ref b129)])) rfl rfl (hb hby at_199) _ k) ?_
          refine own_go (U' := T129.setTop (mkF m 202 #[.val (.int p0), .val (.int p1), .val (.int p2), .val (.int p3), .val (.int p4), .val (.int p5), .val (.ref b63), .val (.ref b73), .val (.int y68), .val (.ref b88), .unset, .unset] [(.ref b88), (.int ((own_fix f186) (0 : Int32))), (.ref b129), (.ref b129)])) (fun _ k => XS.aload X129.here hx rfl (hb hby at_200) rfl rfl k) ?_
          refine own_go (U' := T129.setTop (mkF m 203 #[.val (.int p0), .val (.int p1), .val (.int p2), .val (.int p3), .val (.int p4), .val (.int p5), .val (.ref b63), .val (.ref b73), .val (.int y68), .val (.ref b88), .unset, .unset] [(.int (1 : Int32)), (.ref b88), (.int ((own_fix f186) (0 : Int32))), (.ref b129), (.ref b129)])) (fun _ k => XS.iconst X129.here hx rfl (hb hby at_202) k) ?_
          have V131 := c129_6
          obtain ⟨cl131, Ar131, q131, S131, Ng131, Hh131⟩ := V131
          have hj131 : ¬ (1 : Int32) < 0 ∧ (1 : Int32) < (4 : Int32) := ⟨by decide, by decide⟩
          have hat131 := Hh131 _ hj131.1 hj131.2
          refine own_go (U' := T129.setTop (mkF m 204 #[.val (.int p0), .val (.int p1), .val (.int p2), .val (.int p3), .val (.int p4), .val (.int p5), .val (.ref b63), .val (.ref b73), .val (.int y68), .val (.ref b88), .unset, .unset] [(.int ((own_fix f186) (1 : Int32))), (.int ((own_fix f186) (0 : Int32))), (.ref b129), (.ref b129)])) (fun _ k => X129.iaload hx (j := (1 : Int32)) (v := (.int ((own_fix f186) (1 : Int32)))) (own_cell e129 Ar131.1) (State.isArrayOf_alike hZ.alike Ar131.2.1) Ar131.2.2 (inb_of S131 hj131) hat131 (g := (mkF m 203 #[.val (.int p0), .val (.int p1), .val (.int p2), .val (.int p3), .val (.int p4), .val (.int p5), .val (.ref b63), .val (.ref b73), .val (.int y68), .val (.ref b88), .unset, .unset] [(.int (1 : Int32)), (.ref b88), (.int ((own_fix f186) (0 : Int32))), (.ref b129), (.ref b129)])) rfl rfl (hb hby at_203) _ k) ?_
          refine own_go (U' := T129.setTop (mkF m 206 #[.val (.int p0), .val (.int p1), .val (.int p2), .val (.int p3), .val (.int p4), .val (.int p5), .val (.ref b63), .val (.ref b73), .val (.int y68), .val (.ref b88), .unset, .unset] [(.ref b88), (.int ((own_fix f186) (1 : Int32))), (.int ((own_fix f186) (0 : Int32))), (.ref b129), (.ref b129)])) (fun _ k => XS.aload X129.here hx rfl (hb hby at_204) rfl rfl k) ?_
          refine own_go (U' := T129.setTop (mkF m 207 #[.val (.int p0), .val (.int p1), .val (.int p2), .val (.int p3), .val (.int p4), .val (.int p5), .val (.ref b63), .val (.ref b73), .val (.int y68), .val (.ref b88), .unset, .unset] [(.int (2 : Int32)), (.ref b88), (.int ((own_fix f186) (1 : Int32))), (.int ((own_fix f186) (0 : Int32))), (.ref b129), (.ref b129)])) (fun _ k => XS.iconst X129.here hx rfl (hb hby at_206) k) ?_
          have V132 := c129_6
          obtain ⟨cl132, Ar132, q132, S132, Ng132, Hh132⟩ := V132
          have hj132 : ¬ (2 : Int32) < 0 ∧ (2 : Int32) < (4 : Int32) := ⟨by decide, by decide⟩
          have hat132 := Hh132 _ hj132.1 hj132.2
          refine own_go (U' := T129.setTop (mkF m 208 #[.val (.int p0), .val (.int p1), .val (.int p2), .val (.int p3), .val (.int p4), .val (.int p5), .val (.ref b63), .val (.ref b73), .val (.int y68), .val (.ref b88), .unset, .unset] [(.int ((own_fix f186) (2 : Int32))), (.int ((own_fix f186) (1 : Int32))), (.int ((own_fix f186) (0 : Int32))), (.ref b129), (.ref b129)])) (fun _ k => X129.iaload hx (j := (2 : Int32)) (v := (.int ((own_fix f186) (2 : Int32)))) (own_cell e129 Ar132.1) (State.isArrayOf_alike hZ.alike Ar132.2.1) Ar132.2.2 (inb_of S132 hj132) hat132 (g := (mkF m 207 #[.val (.int p0), .val (.int p1), .val (.int p2), .val (.int p3), .val (.int p4), .val (.int p5), .val (.ref b63), .val (.ref b73), .val (.int y68), .val (.ref b88), .unset, .unset] [(.int (2 : Int32)), (.ref b88), (.int ((own_fix f186) (1 : Int32))), (.int ((own_fix f186) (0 : Int32))), (.ref b129), (.ref b129)])) rfl rfl (hb hby at_207) _ k) ?_
          refine own_go (U' := T129.setTop (mkF m 210 #[.val (.int p0), .val (.int p1), .val (.int p2), .val (.int p3), .val (.int p4), .val (.int p5), .val (.ref b63), .val (.ref b73), .val (.int y68), .val (.ref b88), .unset, .unset] [(.ref b88), (.int ((own_fix f186) (2 : Int32))), (.int ((own_fix f186) (1 : Int32))), (.int ((own_fix f186) (0 : Int32))), (.ref b129), (.ref b129)])) (fun _ k => XS.aload X129.here hx rfl (hb hby at_208) rfl rfl k) ?_
          refine own_go (U' := T129.setTop (mkF m 211 #[.val (.int p0), .val (.int p1), .val (.int p2), .val (.int p3), .val (.int p4), .val (.int p5), .val (.ref b63), .val (.ref b73), .val (.int y68), .val (.ref b88), .unset, .unset] [(.int (3 : Int32)), (.ref b88), (.int ((own_fix f186) (2 : Int32))), (.int ((own_fix f186) (1 : Int32))), (.int ((own_fix f186) (0 : Int32))), (.ref b129), (.ref b129)])) (fun _ k => XS.iconst X129.here hx rfl (hb hby at_210) k) ?_
          have V133 := c129_6
          obtain ⟨cl133, Ar133, q133, S133, Ng133, Hh133⟩ := V133
          have hj133 : ¬ (3 : Int32) < 0 ∧ (3 : Int32) < (4 : Int32) := ⟨by decide, by decide⟩
          have hat133 := Hh133 _ hj133.1 hj133.2
          refine own_go (U' := T129.setTop (mkF m 212 #[.val (.int p0), .val (.int p1), .val (.int p2), .val (.int p3), .val (.int p4), .val (.int p5), .val (.ref b63), .val (.ref b73), .val (.int y68), .val (.ref b88), .unset, .unset] [(.int ((own_fix f186) (3 : Int32))), (.int ((own_fix f186) (2 : Int32))), (.int ((own_fix f186) (1 : Int32))), (.int ((own_fix f186) (0 : Int32))), (.ref b129), (.ref b129)])) (fun _ k => X129.iaload hx (j := (3 : Int32)) (v := (.int ((own_fix f186) (3 : Int32)))) (own_cell e129 Ar133.1) (State.isArrayOf_alike hZ.alike Ar133.2.1) Ar133.2.2 (inb_of S133 hj133) hat133 (g := (mkF m 211 #[.val (.int p0), .val (.int p1), .val (.int p2), .val (.int p3), .val (.int p4), .val (.int p5), .val (.ref b63), .val (.ref b73), .val (.int y68), .val (.ref b88), .unset, .unset] [(.int (3 : Int32)), (.ref b88), (.int ((own_fix f186) (2 : Int32))), (.int ((own_fix f186) (1 : Int32))), (.int ((own_fix f186) (0 : Int32))), (.ref b129), (.ref b129)])) rfl rfl (hb hby at_211) _ k) ?_
          obtain ⟨_, _, ⟨T134, L134, k134, n134⟩, -, X134, ⟨Lc134, hQ134, l134, y134, z134⟩, st134⟩ := X129.specialBack hx (y := (⟨"com/example/layout_to_evidence/layouttoevidence/CellSpan", "<init>", "(IIII)V"⟩ : MethodName)) rfl hown (mvT hZ (hw _ (List.mem_of_getElem? (i := 13) rfl))) (mvT hZ (hw _ (List.mem_of_getElem? (i := 14) rfl))) (mvT hZ (hw _ (List.mem_of_getElem? (i := 15) rfl))) (by decide) (backOf (W := 1) (rm3 l Z aw hw [] b129 ((own_fix f186) (0 : Int32)) ((own_fix f186) (1 : Int32)) ((own_fix f186) (2 : Int32)) ((own_fix f186) (3 : Int32)) h129 n0 Z129 A129 F129_20 F129_22 F129_24 F129_26 (by first | assumption | decide) (by first | assumption | decide) (by first | assumption | decide) (by first | assumption | decide) (by first | assumption | decide) (by first | assumption | decide)) hZ (hw _ (List.mem_of_getElem? (i := 15) rfl)) (hw _ (List.mem_of_getElem? (i := 12) rfl)) (by decide) (by decide)) (g := (mkF m 212 #[.val (.int p0), .val (.int p1), .val (.int p2), .val (.int p3), .val (.int p4), .val (.int p5), .val (.ref b63), .val (.ref b73), .val (.int y68), .val (.ref b88), .unset, .unset] [(.int ((own_fix f186) (3 : Int32))), (.int ((own_fix f186) (2 : Int32))), (.int ((own_fix f186) (1 : Int32))), (.int ((own_fix f186) (0 : Int32))), (.ref b129), (.ref b129)])) rfl (by rw [hml]; rfl) (Steps.refl _) (a := b129) (argsL := [(.int ((own_fix f186) (0 : Int32))), (.int ((own_fix f186) (1 : Int32))), (.int ((own_fix f186) (2 : Int32))), (.int ((own_fix f186) (3 : Int32)))]) (rest := [(.ref b129)]) (lenOf own_pd4 rfl) rfl (by show 2 * 0 + _ ≤ _; exact Nat.le_of_eq rfl) (hb hby at_212) (fun _ _ => ⟨rfl, e129, (by decide : 4 + 0 ≤ _), (by decide : 16 + 0 ≤ _)⟩)
          dsimp only [Pt.U, Pt.locs, Pt.cells, Pt.slots] at X134 l134 y134 z134 st134 hQ134
          subst l134 y134 z134
          obtain ⟨rfl, N134q, K134q, xE134, x0134, x1134, x2134, x3134⟩ := hQ134
          have N134 := Fr.app N128 N134q
          have c134_0 : own_Arf Z T134.heap b63 k63 .int (4 : Int32) (own_fix f30) := c129_0.keep K134q (ninS ne_b63_b129 nin0)
          have c134_1 : Exa Z T134.heap b73 "com/example/layout_to_evidence/layouttoevidence/CellSpan" := c129_1.keep K134q
          have c134_2 : Fld Z T134.heap b73 "com/example/layout_to_evidence/layouttoevidence/CellSpan" "startRow" "I" (.int ((own_fix f30) (0 : Int32))) := c129_2.keep K134q (ninS ne_b73_b129 nin0)
          have c134_3 : Fld Z T134.heap b73 "com/example/layout_to_evidence/layouttoevidence/CellSpan" "endRow" "I" (.int ((own_fix f30) (1 : Int32))) := c129_3.keep K134q (ninS ne_b73_b129 nin0)
          have c134_4 : Fld Z T134.heap b73 "com/example/layout_to_evidence/layouttoevidence/CellSpan" "startColumn" "I" (.int ((own_fix f30) (2 : Int32))) := c129_4.keep K134q (ninS ne_b73_b129 nin0)
          have c134_5 : Fld Z T134.heap b73 "com/example/layout_to_evidence/layouttoevidence/CellSpan" "endColumn" "I" (.int ((own_fix f30) (3 : Int32))) := c129_5.keep K134q (ninS ne_b73_b129 nin0)
          have c134_6 : own_Arf Z T134.heap b88 k88 .int (4 : Int32) (own_fix f186) := c129_6.keep K134q (ninS ne_b88_b129 nin0)
          have c134_7 : Exa Z T134.heap b129 "com/example/layout_to_evidence/layouttoevidence/CellSpan" := A129.keep K134q
          have Z134 : n0 ≤ T134.heap.size := Nat.le_trans Z129 K134q.1
          have K134 := Keep.trans K129 K134q (allS (Or.inr sz_b129) all0)
          refine own_go (U' := T134.setTop (mkF m 215 #[.val (.int p0), .val (.int p1), .val (.int p2), .val (.int p3), .val (.int p4), .val (.int p5), .val (.ref b63), .val (.ref b73), .val (.int y68), .val (.ref b88), .unset, .unset] [(.ref b129)])) (fun _ k => st134.trans k) ?_
          refine own_go (U' := T134.setTop (mkF m 217 #[.val (.int p0), .val (.int p1), .val (.int p2), .val (.int p3), .val (.int p4), .val (.int p5), .val (.ref b63), .val (.ref b73), .val (.int y68), .val (.ref b88), .val (.ref b129), .unset] [])) (fun _ k => XS.astore X134.here hx rfl (hb hby at_215) rfl rfl (l' := #[.val (.int p0), .val (.int p1), .val (.int p2), .val (.int p3), .val (.int p4), .val (.int p5), .val (.ref b63), .val (.ref b73), .val (.int y68), .val (.ref b88), .val (.ref b129), .unset]) rfl k) ?_
          refine own_go (U' := T134.setTop (mkF m 219 #[.val (.int p0), .val (.int p1), .val (.int p2), .val (.int p3), .val (.int p4), .val (.int p5), .val (.ref b63), .val (.ref b73), .val (.int y68), .val (.ref b88), .val (.ref b129), .unset] [(.ref b63)])) (fun _ k => XS.aload X134.here hx rfl (hb hby at_217) rfl rfl k) ?_
          refine own_go (U' := T134.setTop (mkF m 220 #[.val (.int p0), .val (.int p1), .val (.int p2), .val (.int p3), .val (.int p4), .val (.int p5), .val (.ref b63), .val (.ref b73), .val (.int y68), .val (.ref b88), .val (.ref b129), .unset] [(.int (0 : Int32)), (.ref b63)])) (fun _ k => XS.iconst X134.here hx rfl (hb hby at_219) k) ?_
          have V135 := c134_0
          obtain ⟨cl135, Ar135, q135, S135, Ng135, Hh135⟩ := V135
          have hj135 : ¬ (0 : Int32) < 0 ∧ (0 : Int32) < (4 : Int32) := ⟨by decide, by decide⟩
          have hat135 := Hh135 _ hj135.1 hj135.2
          refine own_go (U' := T134.setTop (mkF m 221 #[.val (.int p0), .val (.int p1), .val (.int p2), .val (.int p3), .val (.int p4), .val (.int p5), .val (.ref b63), .val (.ref b73), .val (.int y68), .val (.ref b88), .val (.ref b129), .unset] [(.int ((own_fix f30) (0 : Int32)))])) (fun _ k => X134.iaload hx (j := (0 : Int32)) (v := (.int ((own_fix f30) (0 : Int32)))) (own_cell rfl Ar135.1) (State.isArrayOf_alike hZ.alike Ar135.2.1) Ar135.2.2 (inb_of S135 hj135) hat135 (g := (mkF m 220 #[.val (.int p0), .val (.int p1), .val (.int p2), .val (.int p3), .val (.int p4), .val (.int p5), .val (.ref b63), .val (.ref b73), .val (.int y68), .val (.ref b88), .val (.ref b129), .unset] [(.int (0 : Int32)), (.ref b63)])) rfl rfl (hb hby at_220) _ k) ?_
          refine own_go (U' := T134.setTop (mkF m 223 #[.val (.int p0), .val (.int p1), .val (.int p2), .val (.int p3), .val (.int p4), .val (.int p5), .val (.ref b63), .val (.ref b73), .val (.int y68), .val (.ref b88), .val (.ref b129), .unset] [(.ref b88), (.int ((own_fix f30) (0 : Int32)))])) (fun _ k => XS.aload X134.here hx rfl (hb hby at_221) rfl rfl k) ?_
          refine own_go (U' := T134.setTop (mkF m 224 #[.val (.int p0), .val (.int p1), .val (.int p2), .val (.int p3), .val (.int p4), .val (.int p5), .val (.ref b63), .val (.ref b73), .val (.int y68), .val (.ref b88), .val (.ref b129), .unset] [(.int (0 : Int32)), (.ref b88), (.int ((own_fix f30) (0 : Int32)))])) (fun _ k => XS.iconst X134.here hx rfl (hb hby at_223) k) ?_
          have V136 := c134_6
          obtain ⟨cl136, Ar136, q136, S136, Ng136, Hh136⟩ := V136
          have hj136 : ¬ (0 : Int32) < 0 ∧ (0 : Int32) < (4 : Int32) := ⟨by decide, by decide⟩
          have hat136 := Hh136 _ hj136.1 hj136.2
          refine own_go (U' := T134.setTop (mkF m 225 #[.val (.int p0), .val (.int p1), .val (.int p2), .val (.int p3), .val (.int p4), .val (.int p5), .val (.ref b63), .val (.ref b73), .val (.int y68), .val (.ref b88), .val (.ref b129), .unset] [(.int ((own_fix f186) (0 : Int32))), (.int ((own_fix f30) (0 : Int32)))])) (fun _ k => X134.iaload hx (j := (0 : Int32)) (v := (.int ((own_fix f186) (0 : Int32)))) (own_cell rfl Ar136.1) (State.isArrayOf_alike hZ.alike Ar136.2.1) Ar136.2.2 (inb_of S136 hj136) hat136 (g := (mkF m 224 #[.val (.int p0), .val (.int p1), .val (.int p2), .val (.int p3), .val (.int p4), .val (.int p5), .val (.ref b63), .val (.ref b73), .val (.int y68), .val (.ref b88), .val (.ref b129), .unset] [(.int (0 : Int32)), (.ref b88), (.int ((own_fix f30) (0 : Int32)))])) rfl rfl (hb hby at_224) _ k) ?_
          obtain ⟨z225_137, hz225_137⟩ : ∃ z : Int32, z = (if ((own_fix f30) (0 : Int32)) = ((own_fix f186) (0 : Int32)) then (if ((own_fix f30) (1 : Int32)) = ((own_fix f186) (1 : Int32)) then (if ((own_fix f30) (2 : Int32)) = ((own_fix f186) (2 : Int32)) then (if ((own_fix f30) (3 : Int32)) = ((own_fix f186) (3 : Int32)) then (1 : Int32) else (0 : Int32)) else (0 : Int32)) else (0 : Int32)) else (0 : Int32)) := ⟨_, rfl⟩
          refine own_join (U' := T134.setTop (mkF m 266 #[.val (.int p0), .val (.int p1), .val (.int p2), .val (.int p3), .val (.int p4), .val (.int p5), .val (.ref b63), .val (.ref b73), .val (.int y68), .val (.ref b88), .val (.ref b129), .unset] [(.int z225_137)])) (fun J225_138 => ?_) ?_
          · by_cases hc225_139 : ((own_fix f30) (0 : Int32)) = ((own_fix f186) (0 : Int32))
            · refine own_go (U' := T134.setTop (mkF m 228 #[.val (.int p0), .val (.int p1), .val (.int p2), .val (.int p3), .val (.int p4), .val (.int p5), .val (.ref b63), .val (.ref b73), .val (.int y68), .val (.ref b88), .val (.ref b129), .unset] [])) (fun _ k => XS.icmpNo X134.here hx rfl (hb hby at_225) rfl (teq hc225_139).2 k) ?_
              refine own_go (U' := T134.setTop (mkF m 230 #[.val (.int p0), .val (.int p1), .val (.int p2), .val (.int p3), .val (.int p4), .val (.int p5), .val (.ref b63), .val (.ref b73), .val (.int y68), .val (.ref b88), .val (.ref b129), .unset] [(.ref b63)])) (fun _ k => XS.aload X134.here hx rfl (hb hby at_228) rfl rfl k) ?_
              refine own_go (U' := T134.setTop (mkF m 231 #[.val (.int p0), .val (.int p1), .val (.int p2), .val (.int p3), .val (.int p4), .val (.int p5), .val (.ref b63), .val (.ref b73), .val (.int y68), .val (.ref b88), .val (.ref b129), .unset] [(.int (1 : Int32)), (.ref b63)])) (fun _ k => XS.iconst X134.here hx rfl (hb hby at_230) k) ?_
              have V140 := c134_0
              obtain ⟨cl140, Ar140, q140, S140, Ng140, Hh140⟩ := V140
              have hj140 : ¬ (1 : Int32) < 0 ∧ (1 : Int32) < (4 : Int32) := ⟨by decide, by decide⟩
              have hat140 := Hh140 _ hj140.1 hj140.2
              refine own_go (U' := T134.setTop (mkF m 232 #[.val (.int p0), .val (.int p1), .val (.int p2), .val (.int p3), .val (.int p4), .val (.int p5), .val (.ref b63), .val (.ref b73), .val (.int y68), .val (.ref b88), .val (.ref b129), .unset] [(.int ((own_fix f30) (1 : Int32)))])) (fun _ k => X134.iaload hx (j := (1 : Int32)) (v := (.int ((own_fix f30) (1 : Int32)))) (own_cell rfl Ar140.1) (State.isArrayOf_alike hZ.alike Ar140.2.1) Ar140.2.2 (inb_of S140 hj140) hat140 (g := (mkF m 231 #[.val (.int p0), .val (.int p1), .val (.int p2), .val (.int p3), .val (.int p4), .val (.int p5), .val (.ref b63), .val (.ref b73), .val (.int y68), .val (.ref b88), .val (.ref b129), .unset] [(.int (1 : Int32)), (.ref b63)])) rfl rfl (hb hby at_231) _ k) ?_
              refine own_go (U' := T134.setTop (mkF m 234 #[.val (.int p0), .val (.int p1), .val (.int p2), .val (.int p3), .val (.int p4), .val (.int p5), .val (.ref b63), .val (.ref b73), .val (.int y68), .val (.ref b88), .val (.ref b129), .unset] [(.ref b88), (.int ((own_fix f30) (1 : Int32)))])) (fun _ k => XS.aload X134.here hx rfl (hb hby at_232) rfl rfl k) ?_
              refine own_go (U' := T134.setTop (mkF m 235 #[.val (.int p0), .val (.int p1), .val (.int p2), .val (.int p3), .val (.int p4), .val (.int p5), .val (.ref b63), .val (.ref b73), .val (.int y68), .val (.ref b88), .val (.ref b129), .unset] [(.int (1 : Int32)), (.ref b88), (.int ((own_fix f30) (1 : Int32)))])) (fun _ k => XS.iconst X134.here hx rfl (hb hby at_234) k) ?_
              have V141 := c134_6
              obtain ⟨cl141, Ar141, q141, S141, Ng141, Hh141⟩ := V141
              have hj141 : ¬ (1 : Int32) < 0 ∧ (1 : Int32) < (4 : Int32) := ⟨by decide, by decide⟩
              have hat141 := Hh141 _ hj141.1 hj141.2
              refine own_go (U' := T134.setTop (mkF m 236 #[.val (.int p0), .val (.int p1), .val (.int p2), .val (.int p3), .val (.int p4), .val (.int p5), .val (.ref b63), .val (.ref b73), .val (.int y68), .val (.ref b88), .val (.ref b129), .unset] [(.int ((own_fix f186) (1 : Int32))), (.int ((own_fix f30) (1 : Int32)))])) (fun _ k => X134.iaload hx (j := (1 : Int32)) (v := (.int ((own_fix f186) (1 : Int32)))) (own_cell rfl Ar141.1) (State.isArrayOf_alike hZ.alike Ar141.2.1) Ar141.2.2 (inb_of S141 hj141) hat141 (g := (mkF m 235 #[.val (.int p0), .val (.int p1), .val (.int p2), .val (.int p3), .val (.int p4), .val (.int p5), .val (.ref b63), .val (.ref b73), .val (.int y68), .val (.ref b88), .val (.ref b129), .unset] [(.int (1 : Int32)), (.ref b88), (.int ((own_fix f30) (1 : Int32)))])) rfl rfl (hb hby at_235) _ k) ?_
              by_cases hc236_142 : ((own_fix f30) (1 : Int32)) = ((own_fix f186) (1 : Int32))
              · refine own_go (U' := T134.setTop (mkF m 239 #[.val (.int p0), .val (.int p1), .val (.int p2), .val (.int p3), .val (.int p4), .val (.int p5), .val (.ref b63), .val (.ref b73), .val (.int y68), .val (.ref b88), .val (.ref b129), .unset] [])) (fun _ k => XS.icmpNo X134.here hx rfl (hb hby at_236) rfl (teq hc236_142).2 k) ?_
                refine own_go (U' := T134.setTop (mkF m 241 #[.val (.int p0), .val (.int p1), .val (.int p2), .val (.int p3), .val (.int p4), .val (.int p5), .val (.ref b63), .val (.ref b73), .val (.int y68), .val (.ref b88), .val (.ref b129), .unset] [(.ref b63)])) (fun _ k => XS.aload X134.here hx rfl (hb hby at_239) rfl rfl k) ?_
                refine own_go (U' := T134.setTop (mkF m 242 #[.val (.int p0), .val (.int p1), .val (.int p2), .val (.int p3), .val (.int p4), .val (.int p5), .val (.ref b63), .val (.ref b73), .val (.int y68), .val (.ref b88), .val (.ref b129), .unset] [(.int (2 : Int32)), (.ref b63)])) (fun _ k => XS.iconst X134.here hx rfl (hb hby at_241) k) ?_
                have V143 := c134_0
                obtain ⟨cl143, Ar143, q143, S143, Ng143, Hh143⟩ := V143
                have hj143 : ¬ (2 : Int32) < 0 ∧ (2 : Int32) < (4 : Int32) := ⟨by decide, by decide⟩
                have hat143 := Hh143 _ hj143.1 hj143.2
                refine own_go (U' := T134.setTop (mkF m 243 #[.val (.int p0), .val (.int p1), .val (.int p2), .val (.int p3), .val (.int p4), .val (.int p5), .val (.ref b63), .val (.ref b73), .val (.int y68), .val (.ref b88), .val (.ref b129), .unset] [(.int ((own_fix f30) (2 : Int32)))])) (fun _ k => X134.iaload hx (j := (2 : Int32)) (v := (.int ((own_fix f30) (2 : Int32)))) (own_cell rfl Ar143.1) (State.isArrayOf_alike hZ.alike Ar143.2.1) Ar143.2.2 (inb_of S143 hj143) hat143 (g := (mkF m 242 #[.val (.int p0), .val (.int p1), .val (.int p2), .val (.int p3), .val (.int p4), .val (.int p5), .val (.ref b63), .val (.ref b73), .val (.int y68), .val (.ref b88), .val (.ref b129), .unset] [(.int (2 : Int32)), (.ref b63)])) rfl rfl (hb hby at_242) _ k) ?_
                refine own_go (U' := T134.setTop (mkF m 245 #[.val (.int p0), .val (.int p1), .val (.int p2), .val (.int p3), .val (.int p4), .val (.int p5), .val (.ref b63), .val (.ref b73), .val (.int y68), .val (.ref b88), .val (.ref b129), .unset] [(.ref b88), (.int ((own_fix f30) (2 : Int32)))])) (fun _ k => XS.aload X134.here hx rfl (hb hby at_243) rfl rfl k) ?_
                refine own_go (U' := T134.setTop (mkF m 246 #[.val (.int p0), .val (.int p1), .val (.int p2), .val (.int p3), .val (.int p4), .val (.int p5), .val (.ref b63), .val (.ref b73), .val (.int y68), .val (.ref b88), .val (.ref b129), .unset] [(.int (2 : Int32)), (.ref b88), (.int ((own_fix f30) (2 : Int32)))])) (fun _ k => XS.iconst X134.here hx rfl (hb hby at_245) k) ?_
                have V144 := c134_6
                obtain ⟨cl144, Ar144, q144, S144, Ng144, Hh144⟩ := V144
                have hj144 : ¬ (2 : Int32) < 0 ∧ (2 : Int32) < (4 : Int32) := ⟨by decide, by decide⟩
                have hat144 := Hh144 _ hj144.1 hj144.2
                refine own_go (U' := T134.setTop (mkF m 247 #[.val (.int p0), .val (.int p1), .val (.int p2), .val (.int p3), .val (.int p4), .val (.int p5), .val (.ref b63), .val (.ref b73), .val (.int y68), .val (.ref b88), .val (.ref b129), .unset] [(.int ((own_fix f186) (2 : Int32))), (.int ((own_fix f30) (2 : Int32)))])) (fun _ k => X134.iaload hx (j := (2 : Int32)) (v := (.int ((own_fix f186) (2 : Int32)))) (own_cell rfl Ar144.1) (State.isArrayOf_alike hZ.alike Ar144.2.1) Ar144.2.2 (inb_of S144 hj144) hat144 (g := (mkF m 246 #[.val (.int p0), .val (.int p1), .val (.int p2), .val (.int p3), .val (.int p4), .val (.int p5), .val (.ref b63), .val (.ref b73), .val (.int y68), .val (.ref b88), .val (.ref b129), .unset] [(.int (2 : Int32)), (.ref b88), (.int ((own_fix f30) (2 : Int32)))])) rfl rfl (hb hby at_246) _ k) ?_
                by_cases hc247_145 : ((own_fix f30) (2 : Int32)) = ((own_fix f186) (2 : Int32))
                · refine own_go (U' := T134.setTop (mkF m 250 #[.val (.int p0), .val (.int p1), .val (.int p2), .val (.int p3), .val (.int p4), .val (.int p5), .val (.ref b63), .val (.ref b73), .val (.int y68), .val (.ref b88), .val (.ref b129), .unset] [])) (fun _ k => XS.icmpNo X134.here hx rfl (hb hby at_247) rfl (teq hc247_145).2 k) ?_
                  refine own_go (U' := T134.setTop (mkF m 252 #[.val (.int p0), .val (.int p1), .val (.int p2), .val (.int p3), .val (.int p4), .val (.int p5), .val (.ref b63), .val (.ref b73), .val (.int y68), .val (.ref b88), .val (.ref b129), .unset] [(.ref b63)])) (fun _ k => XS.aload X134.here hx rfl (hb hby at_250) rfl rfl k) ?_
                  refine own_go (U' := T134.setTop (mkF m 253 #[.val (.int p0), .val (.int p1), .val (.int p2), .val (.int p3), .val (.int p4), .val (.int p5), .val (.ref b63), .val (.ref b73), .val (.int y68), .val (.ref b88), .val (.ref b129), .unset] [(.int (3 : Int32)), (.ref b63)])) (fun _ k => XS.iconst X134.here hx rfl (hb hby at_252) k) ?_
                  have V146 := c134_0
                  obtain ⟨cl146, Ar146, q146, S146, Ng146, Hh146⟩ := V146
                  have hj146 : ¬ (3 : Int32) < 0 ∧ (3 : Int32) < (4 : Int32) := ⟨by decide, by decide⟩
                  have hat146 := Hh146 _ hj146.1 hj146.2
                  refine own_go (U' := T134.setTop (mkF m 254 #[.val (.int p0), .val (.int p1), .val (.int p2), .val (.int p3), .val (.int p4), .val (.int p5), .val (.ref b63), .val (.ref b73), .val (.int y68), .val (.ref b88), .val (.ref b129), .unset] [(.int ((own_fix f30) (3 : Int32)))])) (fun _ k => X134.iaload hx (j := (3 : Int32)) (v := (.int ((own_fix f30) (3 : Int32)))) (own_cell rfl Ar146.1) (State.isArrayOf_alike hZ.alike Ar146.2.1) Ar146.2.2 (inb_of S146 hj146) hat146 (g := (mkF m 253 #[.val (.int p0), .val (.int p1), .val (.int p2), .val (.int p3), .val (.int p4), .val (.int p5), .val (.ref b63), .val (.ref b73), .val (.int y68), .val (.ref b88), .val (.ref b129), .unset] [(.int (3 : Int32)), (.ref b63)])) rfl rfl (hb hby at_253) _ k) ?_
                  refine own_go (U' := T134.setTop (mkF m 256 #[.val (.int p0), .val (.int p1), .val (.int p2), .val (.int p3), .val (.int p4), .val (.int p5), .val (.ref b63), .val (.ref b73), .val (.int y68), .val (.ref b88), .val (.ref b129), .unset] [(.ref b88), (.int ((own_fix f30) (3 : Int32)))])) (fun _ k => XS.aload X134.here hx rfl (hb hby at_254) rfl rfl k) ?_
                  refine own_go (U' := T134.setTop (mkF m 257 #[.val (.int p0), .val (.int p1), .val (.int p2), .val (.int p3), .val (.int p4), .val (.int p5), .val (.ref b63), .val (.ref b73), .val (.int y68), .val (.ref b88), .val (.ref b129), .unset] [(.int (3 : Int32)), (.ref b88), (.int ((own_fix f30) (3 : Int32)))])) (fun _ k => XS.iconst X134.here hx rfl (hb hby at_256) k) ?_
                  have V147 := c134_6
                  obtain ⟨cl147, Ar147, q147, S147, Ng147, Hh147⟩ := V147
                  have hj147 : ¬ (3 : Int32) < 0 ∧ (3 : Int32) < (4 : Int32) := ⟨by decide, by decide⟩
                  have hat147 := Hh147 _ hj147.1 hj147.2
                  refine own_go (U' := T134.setTop (mkF m 258 #[.val (.int p0), .val (.int p1), .val (.int p2), .val (.int p3), .val (.int p4), .val (.int p5), .val (.ref b63), .val (.ref b73), .val (.int y68), .val (.ref b88), .val (.ref b129), .unset] [(.int ((own_fix f186) (3 : Int32))), (.int ((own_fix f30) (3 : Int32)))])) (fun _ k => X134.iaload hx (j := (3 : Int32)) (v := (.int ((own_fix f186) (3 : Int32)))) (own_cell rfl Ar147.1) (State.isArrayOf_alike hZ.alike Ar147.2.1) Ar147.2.2 (inb_of S147 hj147) hat147 (g := (mkF m 257 #[.val (.int p0), .val (.int p1), .val (.int p2), .val (.int p3), .val (.int p4), .val (.int p5), .val (.ref b63), .val (.ref b73), .val (.int y68), .val (.ref b88), .val (.ref b129), .unset] [(.int (3 : Int32)), (.ref b88), (.int ((own_fix f30) (3 : Int32)))])) rfl rfl (hb hby at_257) _ k) ?_
                  by_cases hc258_148 : ((own_fix f30) (3 : Int32)) = ((own_fix f186) (3 : Int32))
                  · refine own_go (U' := T134.setTop (mkF m 261 #[.val (.int p0), .val (.int p1), .val (.int p2), .val (.int p3), .val (.int p4), .val (.int p5), .val (.ref b63), .val (.ref b73), .val (.int y68), .val (.ref b88), .val (.ref b129), .unset] [])) (fun _ k => XS.icmpNo X134.here hx rfl (hb hby at_258) rfl (teq hc258_148).2 k) ?_
                    refine own_go (U' := T134.setTop (mkF m 262 #[.val (.int p0), .val (.int p1), .val (.int p2), .val (.int p3), .val (.int p4), .val (.int p5), .val (.ref b63), .val (.ref b73), .val (.int y68), .val (.ref b88), .val (.ref b129), .unset] [(.int (1 : Int32))])) (fun _ k => XS.iconst X134.here hx rfl (hb hby at_261) k) ?_
                    refine own_go (U' := T134.setTop (mkF m 266 #[.val (.int p0), .val (.int p1), .val (.int p2), .val (.int p3), .val (.int p4), .val (.int p5), .val (.ref b63), .val (.ref b73), .val (.int y68), .val (.ref b88), .val (.ref b129), .unset] [(.int (1 : Int32))])) (fun _ k => XS.goto X134.here hx rfl (pc0 := 262) (pc' := 266) rfl (hb hby at_262) (by decide) (by decide) k) ?_
                    simp only [if_pos hc225_139, if_pos hc236_142, if_pos hc247_145, if_pos hc258_148] at hz225_137
                    subst hz225_137
                    exact J225_138
                  · refine own_go (U' := T134.setTop (mkF m 265 #[.val (.int p0), .val (.int p1), .val (.int p2), .val (.int p3), .val (.int p4), .val (.int p5), .val (.ref b63), .val (.ref b73), .val (.int y68), .val (.ref b88), .val (.ref b129), .unset] [])) (fun _ k => XS.icmpYes X134.here hx rfl (pc0 := 258) (pc' := 265) rfl (hb hby at_258) rfl (feq hc258_148).2 (by decide) (by decide) k) ?_
                    refine own_go (U' := T134.setTop (mkF m 266 #[.val (.int p0), .val (.int p1), .val (.int p2), .val (.int p3), .val (.int p4), .val (.int p5), .val (.ref b63), .val (.ref b73), .val (.int y68), .val (.ref b88), .val (.ref b129), .unset] [(.int (0 : Int32))])) (fun _ k => XS.iconst X134.here hx rfl (hb hby at_265) k) ?_
                    simp only [if_pos hc225_139, if_pos hc236_142, if_pos hc247_145, if_neg hc258_148] at hz225_137
                    subst hz225_137
                    exact J225_138
                · refine own_go (U' := T134.setTop (mkF m 265 #[.val (.int p0), .val (.int p1), .val (.int p2), .val (.int p3), .val (.int p4), .val (.int p5), .val (.ref b63), .val (.ref b73), .val (.int y68), .val (.ref b88), .val (.ref b129), .unset] [])) (fun _ k => XS.icmpYes X134.here hx rfl (pc0 := 247) (pc' := 265) rfl (hb hby at_247) rfl (feq hc247_145).2 (by decide) (by decide) k) ?_
                  refine own_go (U' := T134.setTop (mkF m 266 #[.val (.int p0), .val (.int p1), .val (.int p2), .val (.int p3), .val (.int p4), .val (.int p5), .val (.ref b63), .val (.ref b73), .val (.int y68), .val (.ref b88), .val (.ref b129), .unset] [(.int (0 : Int32))])) (fun _ k => XS.iconst X134.here hx rfl (hb hby at_265) k) ?_
                  simp only [if_pos hc225_139, if_pos hc236_142, if_neg hc247_145] at hz225_137
                  subst hz225_137
                  exact J225_138
              · refine own_go (U' := T134.setTop (mkF m 265 #[.val (.int p0), .val (.int p1), .val (.int p2), .val (.int p3), .val (.int p4), .val (.int p5), .val (.ref b63), .val (.ref b73), .val (.int y68), .val (.ref b88), .val (.ref b129), .unset] [])) (fun _ k => XS.icmpYes X134.here hx rfl (pc0 := 236) (pc' := 265) rfl (hb hby at_236) rfl (feq hc236_142).2 (by decide) (by decide) k) ?_
                refine own_go (U' := T134.setTop (mkF m 266 #[.val (.int p0), .val (.int p1), .val (.int p2), .val (.int p3), .val (.int p4), .val (.int p5), .val (.ref b63), .val (.ref b73), .val (.int y68), .val (.ref b88), .val (.ref b129), .unset] [(.int (0 : Int32))])) (fun _ k => XS.iconst X134.here hx rfl (hb hby at_265) k) ?_
                simp only [if_pos hc225_139, if_neg hc236_142] at hz225_137
                subst hz225_137
                exact J225_138
            · refine own_go (U' := T134.setTop (mkF m 265 #[.val (.int p0), .val (.int p1), .val (.int p2), .val (.int p3), .val (.int p4), .val (.int p5), .val (.ref b63), .val (.ref b73), .val (.int y68), .val (.ref b88), .val (.ref b129), .unset] [])) (fun _ k => XS.icmpYes X134.here hx rfl (pc0 := 225) (pc' := 265) rfl (hb hby at_225) rfl (feq hc225_139).2 (by decide) (by decide) k) ?_
              refine own_go (U' := T134.setTop (mkF m 266 #[.val (.int p0), .val (.int p1), .val (.int p2), .val (.int p3), .val (.int p4), .val (.int p5), .val (.ref b63), .val (.ref b73), .val (.int y68), .val (.ref b88), .val (.ref b129), .unset] [(.int (0 : Int32))])) (fun _ k => XS.iconst X134.here hx rfl (hb hby at_265) k) ?_
              simp only [if_neg hc225_139] at hz225_137
              subst hz225_137
              exact J225_138
          · refine own_go (U' := T134.setTop (mkF m 268 #[.val (.int p0), .val (.int p1), .val (.int p2), .val (.int p3), .val (.int p4), .val (.int p5), .val (.ref b63), .val (.ref b73), .val (.int y68), .val (.ref b88), .val (.ref b129), .val (.int z225_137)] [])) (fun _ k => XS.istore X134.here hx rfl (hb hby at_266) rfl (l' := #[.val (.int p0), .val (.int p1), .val (.int p2), .val (.int p3), .val (.int p4), .val (.int p5), .val (.ref b63), .val (.ref b73), .val (.int y68), .val (.ref b88), .val (.ref b129), .val (.int z225_137)]) rfl k) ?_
            refine own_go (U' := T134.setTop (mkF m 270 #[.val (.int p0), .val (.int p1), .val (.int p2), .val (.int p3), .val (.int p4), .val (.int p5), .val (.ref b63), .val (.ref b73), .val (.int y68), .val (.ref b88), .val (.ref b129), .val (.int z225_137)] [(.ref b73)])) (fun _ k => XS.aload X134.here hx rfl (hb hby at_268) rfl rfl k) ?_
            refine own_go (U' := T134.setTop (mkF m 272 #[.val (.int p0), .val (.int p1), .val (.int p2), .val (.int p3), .val (.int p4), .val (.int p5), .val (.ref b63), .val (.ref b73), .val (.int y68), .val (.ref b88), .val (.ref b129), .val (.int z225_137)] [(.ref b129), (.ref b73)])) (fun _ k => XS.aload X134.here hx rfl (hb hby at_270) rfl rfl k) ?_
            obtain ⟨cq149, kq149, q149a, q149b, q149c⟩ := isOf hZ rfl c134_1
            obtain ⟨_, _, ⟨T149, L149, k149, n149⟩, -, X149, ⟨Lc149, hQ149, l149, y149, z149⟩, st149⟩ := X134.virtualBack hx (y := (⟨"com/example/layout_to_evidence/layouttoevidence/CellSpan", "equals", "(Ljava/lang/Object;)Z"⟩ : MethodName)) (z := (⟨"com/example/layout_to_evidence/layouttoevidence/CellSpan", "equals", "(Ljava/lang/Object;)Z"⟩ : MethodName)) hown (mvT hZ (hw _ (List.mem_of_getElem? (i := 27) rfl))) (mvT hZ (hw _ (List.mem_of_getElem? (i := 28) rfl))) (notFace_of_selects (args := #[]) (mvT hZ (hw _ (List.mem_of_getElem? (i := 30) rfl)))) (mvT hZ (hw _ (List.mem_of_getElem? (i := 30) rfl))) (mvT hZ (hw _ (List.mem_of_getElem? (i := 29) rfl))) (by decide) (backOf (W := 0) (rm5 l Z aw hw [] b73 b129 ((own_fix f30) (0 : Int32)) ((own_fix f30) (1 : Int32)) ((own_fix f30) (2 : Int32)) ((own_fix f30) (3 : Int32)) ((own_fix f186) (0 : Int32)) ((own_fix f186) (1 : Int32)) ((own_fix f186) (2 : Int32)) ((own_fix f186) (3 : Int32)) T134.heap n0 Z134 xE134 c134_2 c134_3 c134_4 c134_5 x0134 x1134 x2134 x3134) hZ (hw _ (List.mem_of_getElem? (i := 31) rfl)) (hw _ (List.mem_of_getElem? (i := 12) rfl)) (by decide) (by decide)) q149a q149c (g := (mkF m 272 #[.val (.int p0), .val (.int p1), .val (.int p2), .val (.int p3), .val (.int p4), .val (.int p5), .val (.ref b63), .val (.ref b73), .val (.int y68), .val (.ref b88), .val (.ref b129), .val (.int z225_137)] [(.ref b129), (.ref b73)])) rfl (by rw [hml]; rfl) (Steps.refl _) (argsL := [(.ref b129)]) (rest := []) (lenOf own_pd5 rfl) rfl (by show 2 * 0 + _ ≤ _; exact Nat.le_of_eq rfl) (hb hby at_272) (fun _ _ => ⟨rfl, rfl, (by decide : 4 + 0 ≤ _), (by decide : 16 + 0 ≤ _)⟩)
            dsimp only [Pt.U, Pt.locs, Pt.cells, Pt.slots] at X149 l149 y149 z149 st149 hQ149
            subst l149 y149 z149
            obtain ⟨rfl, N149q, e149⟩ := hQ149
            have N149 := Fr.app N134 N149q
            refine own_go (U' := T149.setTop (mkF m 275 #[.val (.int p0), .val (.int p1), .val (.int p2), .val (.int p3), .val (.int p4), .val (.int p5), .val (.ref b63), .val (.ref b73), .val (.int y68), .val (.ref b88), .val (.ref b129), .val (.int z225_137)] [(.int (f_5 b73 b129 ((own_fix f30) (0 : Int32)) ((own_fix f30) (1 : Int32)) ((own_fix f30) (2 : Int32)) ((own_fix f30) (3 : Int32)) ((own_fix f186) (0 : Int32)) ((own_fix f186) (1 : Int32)) ((own_fix f186) (2 : Int32)) ((own_fix f186) (3 : Int32))))])) (fun _ k => st149.trans k) ?_
            refine own_go (U' := T149.setTop (mkF m 277 #[.val (.int p0), .val (.int p1), .val (.int p2), .val (.int p3), .val (.int p4), .val (.int p5), .val (.ref b63), .val (.ref b73), .val (.int y68), .val (.ref b88), .val (.ref b129), .val (.int z225_137)] [(.int z225_137), (.int (f_5 b73 b129 ((own_fix f30) (0 : Int32)) ((own_fix f30) (1 : Int32)) ((own_fix f30) (2 : Int32)) ((own_fix f30) (3 : Int32)) ((own_fix f186) (0 : Int32)) ((own_fix f186) (1 : Int32)) ((own_fix f186) (2 : Int32)) ((own_fix f186) (3 : Int32))))])) (fun _ k => XS.iload X149.here hx rfl (hb hby at_275) rfl k) ?_
            have hc277_150 : (f_5 b73 b129 ((own_fix f30) (0 : Int32)) ((own_fix f30) (1 : Int32)) ((own_fix f30) (2 : Int32)) ((own_fix f30) (3 : Int32)) ((own_fix f186) (0 : Int32)) ((own_fix f186) (1 : Int32)) ((own_fix f186) (2 : Int32)) ((own_fix f186) (3 : Int32))) = z225_137 := (own_eqs _ _ _ _ _ _ _ _ _ _).1.trans hz225_137.symm
            refine own_go (U' := T149.setTop (mkF m 280 #[.val (.int p0), .val (.int p1), .val (.int p2), .val (.int p3), .val (.int p4), .val (.int p5), .val (.ref b63), .val (.ref b73), .val (.int y68), .val (.ref b88), .val (.ref b129), .val (.int z225_137)] [])) (fun _ k => XS.icmpNo X149.here hx rfl (hb hby at_277) rfl (teq hc277_150).2 k) ?_
            refine own_go (U' := T149.setTop (mkF m 282 #[.val (.int p0), .val (.int p1), .val (.int p2), .val (.int p3), .val (.int p4), .val (.int p5), .val (.ref b63), .val (.ref b73), .val (.int y68), .val (.ref b88), .val (.ref b129), .val (.int z225_137)] [(.ref b129)])) (fun _ k => XS.aload X149.here hx rfl (hb hby at_280) rfl rfl k) ?_
            refine own_go (U' := T149.setTop (mkF m 284 #[.val (.int p0), .val (.int p1), .val (.int p2), .val (.int p3), .val (.int p4), .val (.int p5), .val (.ref b63), .val (.ref b73), .val (.int y68), .val (.ref b88), .val (.ref b129), .val (.int z225_137)] [(.ref b73), (.ref b129)])) (fun _ k => XS.aload X149.here hx rfl (hb hby at_282) rfl rfl k) ?_
            obtain ⟨cq151, kq151, q151a, q151b, q151c⟩ := isOf hZ e149 xE134
            obtain ⟨_, _, ⟨T151, L151, k151, n151⟩, -, X151, ⟨Lc151, hQ151, l151, y151, z151⟩, st151⟩ := X149.virtualBack hx (y := (⟨"com/example/layout_to_evidence/layouttoevidence/CellSpan", "equals", "(Ljava/lang/Object;)Z"⟩ : MethodName)) (z := (⟨"com/example/layout_to_evidence/layouttoevidence/CellSpan", "equals", "(Ljava/lang/Object;)Z"⟩ : MethodName)) hown (mvT hZ (hw _ (List.mem_of_getElem? (i := 27) rfl))) (mvT hZ (hw _ (List.mem_of_getElem? (i := 28) rfl))) (notFace_of_selects (args := #[]) (mvT hZ (hw _ (List.mem_of_getElem? (i := 30) rfl)))) (mvT hZ (hw _ (List.mem_of_getElem? (i := 30) rfl))) (mvT hZ (hw _ (List.mem_of_getElem? (i := 29) rfl))) (by decide) (backOf (W := 0) (rm5 l Z aw hw [] b129 b73 ((own_fix f186) (0 : Int32)) ((own_fix f186) (1 : Int32)) ((own_fix f186) (2 : Int32)) ((own_fix f186) (3 : Int32)) ((own_fix f30) (0 : Int32)) ((own_fix f30) (1 : Int32)) ((own_fix f30) (2 : Int32)) ((own_fix f30) (3 : Int32)) T134.heap n0 Z134 c134_1 x0134 x1134 x2134 x3134 c134_2 c134_3 c134_4 c134_5) hZ (hw _ (List.mem_of_getElem? (i := 31) rfl)) (hw _ (List.mem_of_getElem? (i := 12) rfl)) (by decide) (by decide)) q151a q151c (g := (mkF m 284 #[.val (.int p0), .val (.int p1), .val (.int p2), .val (.int p3), .val (.int p4), .val (.int p5), .val (.ref b63), .val (.ref b73), .val (.int y68), .val (.ref b88), .val (.ref b129), .val (.int z225_137)] [(.ref b73), (.ref b129)])) rfl (by rw [hml]; rfl) (Steps.refl _) (argsL := [(.ref b73)]) (rest := []) (lenOf own_pd5 rfl) rfl (by show 2 * 0 + _ ≤ _; exact Nat.le_of_eq rfl) (hb hby at_284) (fun _ _ => ⟨rfl, e149, (by decide : 4 + 0 ≤ _), (by decide : 16 + 0 ≤ _)⟩)
            dsimp only [Pt.U, Pt.locs, Pt.cells, Pt.slots] at X151 l151 y151 z151 st151 hQ151
            subst l151 y151 z151
            obtain ⟨rfl, N151q, e151⟩ := hQ151
            have N151 := Fr.app N149 N151q
            refine own_go (U' := T151.setTop (mkF m 287 #[.val (.int p0), .val (.int p1), .val (.int p2), .val (.int p3), .val (.int p4), .val (.int p5), .val (.ref b63), .val (.ref b73), .val (.int y68), .val (.ref b88), .val (.ref b129), .val (.int z225_137)] [(.int (f_5 b129 b73 ((own_fix f186) (0 : Int32)) ((own_fix f186) (1 : Int32)) ((own_fix f186) (2 : Int32)) ((own_fix f186) (3 : Int32)) ((own_fix f30) (0 : Int32)) ((own_fix f30) (1 : Int32)) ((own_fix f30) (2 : Int32)) ((own_fix f30) (3 : Int32))))])) (fun _ k => st151.trans k) ?_
            refine own_go (U' := T151.setTop (mkF m 289 #[.val (.int p0), .val (.int p1), .val (.int p2), .val (.int p3), .val (.int p4), .val (.int p5), .val (.ref b63), .val (.ref b73), .val (.int y68), .val (.ref b88), .val (.ref b129), .val (.int z225_137)] [(.int z225_137), (.int (f_5 b129 b73 ((own_fix f186) (0 : Int32)) ((own_fix f186) (1 : Int32)) ((own_fix f186) (2 : Int32)) ((own_fix f186) (3 : Int32)) ((own_fix f30) (0 : Int32)) ((own_fix f30) (1 : Int32)) ((own_fix f30) (2 : Int32)) ((own_fix f30) (3 : Int32))))])) (fun _ k => XS.iload X151.here hx rfl (hb hby at_287) rfl k) ?_
            have hc289_152 : (f_5 b129 b73 ((own_fix f186) (0 : Int32)) ((own_fix f186) (1 : Int32)) ((own_fix f186) (2 : Int32)) ((own_fix f186) (3 : Int32)) ((own_fix f30) (0 : Int32)) ((own_fix f30) (1 : Int32)) ((own_fix f30) (2 : Int32)) ((own_fix f30) (3 : Int32))) = z225_137 := (own_eqs _ _ _ _ _ _ _ _ _ _).2.trans hz225_137.symm
            refine own_go (U' := T151.setTop (mkF m 292 #[.val (.int p0), .val (.int p1), .val (.int p2), .val (.int p3), .val (.int p4), .val (.int p5), .val (.ref b63), .val (.ref b73), .val (.int y68), .val (.ref b88), .val (.ref b129), .val (.int z225_137)] [])) (fun _ k => XS.icmpNo X151.here hx rfl (hb hby at_289) rfl (teq hc289_152).2 k) ?_
            refine own_go (U' := T151.setTop (mkF m 293 #[.val (.int p0), .val (.int p1), .val (.int p2), .val (.int p3), .val (.int p4), .val (.int p5), .val (.ref b63), .val (.ref b73), .val (.int y68), .val (.ref b88), .val (.ref b129), .val (.int z225_137)] [(.int (1 : Int32))])) (fun _ k => XS.iconst X151.here hx rfl (hb hby at_292) k) ?_
            refine own_go (U' := T151.setTop (mkF m 297 #[.val (.int p0), .val (.int p1), .val (.int p2), .val (.int p3), .val (.int p4), .val (.int p5), .val (.ref b63), .val (.ref b73), .val (.int y68), .val (.ref b88), .val (.ref b129), .val (.int z225_137)] [(.int (1 : Int32))])) (fun _ k => XS.goto X151.here hx rfl (pc0 := 293) (pc' := 297) rfl (hb hby at_293) (by decide) (by decide) k) ?_
            refine own_ret X151 (v := (some (.int (1 : Int32)))) hlk (fun h => by rw [Bd.returns] at h; cases h) (by decide) (by decide) (fun fs hr => retN X151 hx (t := .boolean) Bd.returns (by simp) (hb hby at_297) hr) ?_
            show (Q0 Z p0 p1 p2 p3 p4 p5 wc h0 n0) _ T151.heap _
            rw [e151]
            exact ⟨rfl, N151⟩

theorem own_len256 {args : Array Value} {s : State} {t : Term} {x : Addr} {cl : Cell} (ht : t.eval args s none [] s = some (.ref x)) (ha : s.arrayAt? x = some cl) (h : (Cond.eq (.length t) (.int (256 : Int32))).value args s none s [] = some true) : cl.slots.size = (256 : Int32).toNatClampNeg := by
  by_cases hl : cl.slots.size < 2 ^ 31
  · have e := len_f ht ha hl
    simp only [Cond.value, e, Term.int_eval] at h
    have h2 := of_decide_eq_true (Option.some.inj h)
    have h3 := len_toInt hl
    rw [h2] at h3
    have h4 : (256 : Int32).toInt = 256 := by decide
    have h5 : (256 : Int32).toNatClampNeg = 256 := by decide
    omega
  · have e : (Term.length t).eval args s none [] s = none := by simp [Term.eval, ht, ha, hl]
    simp [Cond.value, e] at h
theorem own_elems {args : Array Value} {s : State} {t : Term} {x : Addr} {cl : Cell} {d : Cond} (ht : ∀ idx, t.eval args s none idx s = some (.ref x)) (ha : s.arrayAt? x = some cl) (hs : cl.slots.size = (256 : Int32).toNatClampNeg)
    (h : (Cond.all t (.and (.exactly (.elem t (.index 0)) "java/lang/Integer") d)).value args s none s [] = some true) (j : Int32) (h0 : ¬ j < 0) (h1 : j < 256) : ∃ r, cl.slots[j.toNatClampNeg]? = some (.ref r) ∧ Exa s s.heap r "java/lang/Integer" := by
  have k0 : (0 : Int32).toInt = 0 := by decide
  have k4 : (256 : Int32).toInt = 256 := by decide
  have k5 : (256 : Int32).toNatClampNeg = 256 := by decide
  have g0 := h0
  have g1 := h1
  rw [Int32.lt_iff_toInt_lt, k0] at g0
  rw [Int32.lt_iff_toInt_lt, k4] at g1
  have en : j.toNatClampNeg < 256 := by rw [Int32.toNatClampNeg]; omega
  have ej : j.toNatClampNeg.toInt32 = j := (back32 h0).1
  have q := (and_e (Cond.all_elim (ht _) ha h j.toNatClampNeg (by omega))).1
  obtain ⟨r, er⟩ := exa_v q
  have e1 := elem_f (ht [j.toNatClampNeg]) (show (Term.index 0).eval args s none [j.toNatClampNeg] s = some (.int j) from congrArg (fun z => some (Value.int z)) ej) ha h0
  have e2 := elem_f (ht []) (Term.int_eval (args := args) (first := s) (o := none) (idx := []) (s := s) j) ha h0
  rw [er] at e1
  refine ⟨r, e1.symm, ?_⟩
  have e3 : (Term.elem t (.int j)).eval args s none [] s = some (.ref r) := e2.trans e1.symm
  refine Exa.start e3 ?_
  simp only [Cond.value, er] at q
  simp only [Cond.value, e3]
  exact q

set_option maxRecDepth 65536 in
set_option maxHeartbeats 40000000 in
theorem comes_1 {Post : Tables → Env → Array Value → State → Outcome → State → Prop} (hpost : ∀ tb e args s v u, (limb_1_1.after args s (.returned v) u = true ∧ limb_1_2.after args s (.returned v) u = true ∧ True) → FrameEnd s (.returned v) u (Jvm.fieldLocs frame_1_writes args s ++ Jvm.arrayLocs frame_1_arrays args s ++ Jvm.staticLocs frame_1_statics s) 16 128 → Post tb e args s (.returned v) u) :
    ArmFor flags0 classFile x code maxLocals ret World_1 tables_1 room_1 Calls_1 rest_1 Pre_1 Post := by
  intro l hfl _ _ p e ha hc hk s m args below hf hA hF happ hP
  obtain ⟨hcalls, hrest, hpre⟩ := hP
  obtain ⟨-, -, -, hnamed, -, -, -, hat⟩ := (Spec.applies_iff hf).mp happ
  obtain ⟨hg, hn⟩ := and_e (Cond.before_iff.mp (show (Jvm.Cond.and given_1 narrow_1).before args s = true from hpre))
  obtain ⟨hcnt, hg0⟩ := and_e hg
  obtain ⟨hv0, hg1⟩ := and_e hg0
  obtain ⟨hv1, hg2⟩ := and_e hg1
  obtain ⟨hv2, hg3⟩ := and_e hg2
  obtain ⟨hv3, hg4⟩ := and_e hg3
  obtain ⟨hv4, hg5⟩ := and_e hg4
  have hv5 := hg5
  obtain ⟨w0, w1, w2, w3, w4, w5, rfl⟩ : ∃ w0 w1 w2 w3 w4 w5 : Value, args = #[w0, w1, w2, w3, w4, w5] := by
    have hs : args.size = 6 := by simpa [Cond.value, given_1] using hcnt
    obtain ⟨L⟩ := args
    match L, hs with
    | [w0, w1, w2, w3, w4, w5], _ => exact ⟨w0, w1, w2, w3, w4, w5, rfl⟩
  have hw := fun d (hd : d ∈ tables_1) => atoms_spec (ws := Jvm.Cond.code x code maxLocals ret :: tables_1) hat d (List.mem_cons_of_mem _ hd)
  have hfit : Fit s := fun {y c} hc i hi => by
    obtain ⟨ha, rfl⟩ := Array.getElem?_eq_some_iff.mp hc
    have q := List.all_eq_true.mp ((Array.all_eq_true_iff_forall_mem.mp hF) _ (Array.getElem_mem ha)) i (List.mem_range.mpr hi)
    simpa [Array.getElem?_eq_getElem hi] using q
  obtain ⟨hsets, hown0⟩ := atoms_of _ (rest_1_c_eq ▸ (show rest_1_c.before _ s = true from hrest))
  have hr0 := Cond.before_iff.mp hown0
  obtain ⟨i0, ei0⟩ := is_v hv0
  obtain rfl : w0 = (.int i0) := Option.some.inj ei0
  obtain ⟨i1, ei1⟩ := is_v hv1
  obtain rfl : w1 = (.int i1) := Option.some.inj ei1
  obtain ⟨i2, ei2⟩ := is_v hv2
  obtain rfl : w2 = (.int i2) := Option.some.inj ei2
  obtain ⟨i3, ei3⟩ := is_v hv3
  obtain rfl : w3 = (.int i3) := Option.some.inj ei3
  obtain ⟨i4, ei4⟩ := is_v hv4
  obtain rfl : w4 = (.int i4) := Option.some.inj ei4
  obtain ⟨i5, ei5⟩ := is_v hv5
  obtain rfl : w5 = (.int i5) := Option.some.inj ei5
  have eH := Cond.eq_int (hsets _ (List.mem_of_getElem? (i := 3) rfl)) (Term.int_eval _)
  have S_h := Sta.start eH (Or.inl (hsets _ (List.mem_of_getElem? (i := 1) rfl)))
  have q4 := Cond.before_iff.mp (hsets _ (List.mem_of_getElem? (i := 4) rfl))
  obtain ⟨wc, ec⟩ := arr_v q4
  obtain ⟨cl, Ar⟩ := Arr.start ec q4
  have S_c := Sta.start ec (Or.inr ⟨hw _ (List.mem_of_getElem? (i := 39) rfl), hsets _ (List.mem_of_getElem? (i := 2) rfl)⟩)
  have hat := Arr.fin (Z := s) (U := s) (Vm.Alike.refl _) Ar
  have Sz := own_len256 ec hat (Cond.before_iff.mp (hsets _ (List.mem_of_getElem? (i := 6) rfl)))
  have C_ : own_Cache s s.heap wc := ⟨cl, Ar, Sz, own_elems (fun _ => ec) hat Sz (Cond.before_iff.mp (hsets _ (List.mem_of_getElem? (i := 7) rfl)))⟩
  obtain ⟨n, o, h1, h2, h3, _, L, rfl, ⟨rfl, N⟩, hq⟩ := rm0 l s _ hw tables_1 i0 i1 i2 i3 i4 i5 wc s.heap s.heap.size (Nat.le_refl _) S_h S_c C_ p e ha hc hk s m _ below hf ((Spec.applies_iff_loose hf).mp happ).1 ⟨rfl, State.Warmed39.refl s, rfl⟩ trivial
  refine ⟨n, _, h1, h2, h3, hpost _ _ _ _ _ _ ⟨Cond.after_iff.mpr rfl, Cond.after_iff.mpr (eq_i res_at (Term.int_eval (1)) rfl), trivial⟩ ⟨hq.1, hq.2.1, (hq.2.2.sift fun y hy => Or.inr (N y hy)).mono (by decide) (by decide)⟩⟩
theorem main_1_1 : Claimed_1_1 := comes_1 fun _ _ _ _ _ _ h hF => ⟨h.1, hF⟩
theorem main_1_2 : Claimed_1_2 := comes_1 fun _ _ _ _ _ _ h hF => ⟨h.2.1, hF⟩
end Jvm.Pilot.@@N@@
namespace Jvm.Pilot.@@N@@
open Jvm Jvm.ClassFile Sem Op Lib Jvm.Free Jvm.Stand Jvm.Pilot.@@N@@.Jvm.D
/-! MADE BY PROGRAM (witnessworld.py) out of the Statement's table words and the real class files: 17 classes; the members and pool entries that the words name. The judged class is class 1, her method 2. -/
namespace start1
open Jvm.ClassFile
def u (s : String) : CpInfo := .utf8 (stringToUtf16 s)
/-- a pool by its gaps: so many unusable entries, then the entry; so many at the end -/
def gap : Nat → List CpInfo → List CpInfo
  | 0, r => r
  | n + 1, r => .unusable :: gap n r
def poolList (es : List (Nat × CpInfo)) (last : Nat) : List CpInfo := es.foldr (fun e r => gap e.1 (e.2 :: r)) (gap last [])
def pool (es : List (Nat × CpInfo)) (last : Nat) : Array CpInfo := ⟨poolList es last⟩
def fileOf (pool : Array CpInfo) (this : Nat) (attrs : Array Attribute := #[]) (ms : Array MethodInfo := #[]) (fl : Nat := 33) (sup : Nat := 0) (ifs : Array Nat := #[]) (fds : Array FieldInfo := #[]) : ClassFile where
  minorVersion := 0
  majorVersion := 65
  constantPool := pool
  accessFlags := fl
  thisClass := this
  superClass := sup
  interfaces := ifs
  fields := fds
  methods := ms
  attributes := attrs
def plain (name : String) (sup : Option ClassId) : Class where
  name := name
  kind := .ordinary
  loader := none
  accessFlags := 33
  super := sup
  interfaces := #[]
  cf := none
  fields := #[]
  methods := #[]
  instanceTypes := #[]
  staticTypes := #[]
  resolved := #[]
  callSites := []
  init := .initialized
  statics := none
  mirror := none

def pool0 : Array CpInfo := pool [(5, u "<init>"), (0, u "()V"), (1, .class_ 10), (1, u "java/lang/Object")] 113

def k0c0 : Code := { maxStack := 0, maxLocals := 1, code := object_method_1_code, exceptionTable := #[], attributes := #[] }
def k0m0 : Method := { name := "<init>", desc := "()V", sig := { parameters := [], returnType := none }, accessFlags := 1, code := some k0c0 }
/-- java/lang/Object -/
def k0 : Class := { plain "java/lang/Object" none with
  accessFlags := 33
  interfaces := #[]
  cf := some (fileOf pool0 8 #[] #[{ accessFlags := 1, nameIndex := 5, descriptorIndex := 6, attributes := #[] }] 33 0 #[] #[])
  fields := #[]
  methods := #[k0m0]
  instanceTypes := #[]
  staticTypes := #[]
  resolved := Array.replicate 124 none
  statics := none }

def pool1 : Array CpInfo := pool [(2, .class_ 4), (1, u "java/lang/Object"), (0, u "<init>"), (0, u "()V"), (0, .methodref 8 9), (0, .class_ 10), (0, .nameAndType 11 12), (0, u "java/lang/Math"), (0, u "max"), (0, u "(II)I"), (0, .class_ 14), (0, u "java/lang/Integer"), (0, .integer 2147483647), (0, .methodref 17 18), (0, .class_ 19), (0, .nameAndType 20 21), (0, u "com/example/layout_to_evidence/layouttoevidence/CellSpanEqualsPinLaw"), (0, u "fix"), (0, u "([I)V"), (0, .class_ 23), (0, u "com/example/layout_to_evidence/layouttoevidence/CellSpan"), (0, .methodref 22 25), (0, .nameAndType 5 26), (0, u "(IIII)V"), (0, .methodref 22 28), (0, .nameAndType 29 30), (0, u "equals"), (0, u "(Ljava/lang/Object;)Z"), (0, .methodref 13 32), (0, .nameAndType 33 34), (0, u "valueOf"), (0, u "(I)Ljava/lang/Integer;"), (3, u "law"), (0, u "(IIIIII)Z")] 4

def k1m0 : Method := { name := "<init>", desc := "()V", sig := { parameters := [], returnType := none }, accessFlags := 1, code := none }
def k1c1 : Code := { maxStack := 5, maxLocals := 1, code := method_2_code, exceptionTable := #[], attributes := #[] }
def k1m1 : Method := { name := "fix", desc := "([I)V", sig := { parameters := [(.array .int)], returnType := none }, accessFlags := 10, code := some k1c1 }
def k1c2 : Code := { maxStack := 7, maxLocals := 12, code := code, exceptionTable := #[], attributes := #[] }
def k1m2 : Method := { name := "law", desc := "(IIIIII)Z", sig := { parameters := [.int, .int, .int, .int, .int, .int], returnType := some .boolean }, accessFlags := 9, code := some k1c2 }
/-- com/example/layout_to_evidence/layouttoevidence/CellSpanEqualsPinLaw -/
def k1 : Class := { plain "com/example/layout_to_evidence/layouttoevidence/CellSpanEqualsPinLaw" (some 0) with
  accessFlags := 49
  interfaces := #[]
  cf := some (fileOf pool1 17 #[] #[{ accessFlags := 1, nameIndex := 5, descriptorIndex := 6, attributes := #[] }, { accessFlags := 10, nameIndex := 20, descriptorIndex := 21, attributes := #[] }, { accessFlags := 9, nameIndex := 38, descriptorIndex := 39, attributes := #[] }] 49 2 #[] #[])
  fields := #[]
  methods := #[k1m0, k1m1, k1m2]
  instanceTypes := #[]
  staticTypes := #[]
  resolved := Array.replicate 44 none
  statics := none }

def pool2 : Array CpInfo := pool [(1, .class_ 2), (0, u "java/lang/Math"), (1, .class_ 6), (1, u "java/lang/Object"), (0, u "<init>"), (0, u "()V"), (89, .class_ 100), (1, u "java/lang/Math$RandomNumberGeneratorHolder"), (71, u "negativeZeroFloatBits"), (0, u "J"), (2, u "negativeZeroDoubleBits"), (21, u "max"), (46, u "$assertionsDisabled"), (0, u "Z"), (88, u "(II)I"), (2, u "twoToTheDoubleScaleDown"), (0, u "D"), (4, u "twoToTheDoubleScaleUp"), (9, u "E"), (3, u "PI"), (2, u "TAU"), (2, u "DEGREES_TO_RADIANS"), (0, u "RADIANS_TO_DEGREES")] 94

def k2m0 : Method := { name := "<init>", desc := "()V", sig := { parameters := [], returnType := none }, accessFlags := 2, code := none }
def k2c1 : Code := { maxStack := 2, maxLocals := 2, code := jdk_29_method_65_code, exceptionTable := #[], attributes := #[] }
def k2m1 : Method := { name := "max", desc := "(II)I", sig := { parameters := [.int, .int], returnType := some .int }, accessFlags := 9, code := some k2c1 }
/-- java/lang/Math -/
def k2 : Class := { plain "java/lang/Math" (some 0) with
  accessFlags := 49
  interfaces := #[]
  cf := some (fileOf pool2 1 #[.nestMembers #[98]] #[{ accessFlags := 2, nameIndex := 7, descriptorIndex := 8, attributes := #[] }, { accessFlags := 9, nameIndex := 198, descriptorIndex := 335, attributes := #[] }] 49 4 #[] #[{ accessFlags := 25, nameIndex := 354, descriptorIndex := 339, attributes := #[] }, { accessFlags := 25, nameIndex := 358, descriptorIndex := 339, attributes := #[] }, { accessFlags := 25, nameIndex := 361, descriptorIndex := 339, attributes := #[] }, { accessFlags := 26, nameIndex := 364, descriptorIndex := 339, attributes := #[] }, { accessFlags := 26, nameIndex := 365, descriptorIndex := 339, attributes := #[] }, { accessFlags := 26, nameIndex := 172, descriptorIndex := 173, attributes := #[] }, { accessFlags := 26, nameIndex := 176, descriptorIndex := 173, attributes := #[] }, { accessFlags := 8, nameIndex := 344, descriptorIndex := 339, attributes := #[] }, { accessFlags := 8, nameIndex := 338, descriptorIndex := 339, attributes := #[] }, { accessFlags := 4120, nameIndex := 245, descriptorIndex := 246, attributes := #[] }])
  fields := #[{ name := "E", type := .double, accessFlags := 25, slot := 0, constantValue := 0 }, { name := "PI", type := .double, accessFlags := 25, slot := 1, constantValue := 0 }, { name := "TAU", type := .double, accessFlags := 25, slot := 2, constantValue := 0 }, { name := "DEGREES_TO_RADIANS", type := .double, accessFlags := 26, slot := 3, constantValue := 0 }, { name := "RADIANS_TO_DEGREES", type := .double, accessFlags := 26, slot := 4, constantValue := 0 }, { name := "negativeZeroFloatBits", type := .long, accessFlags := 26, slot := 5, constantValue := 0 }, { name := "negativeZeroDoubleBits", type := .long, accessFlags := 26, slot := 6, constantValue := 0 }, { name := "twoToTheDoubleScaleUp", type := .double, accessFlags := 8, slot := 7, constantValue := 0 }, { name := "twoToTheDoubleScaleDown", type := .double, accessFlags := 8, slot := 8, constantValue := 0 }, { name := "$assertionsDisabled", type := .boolean, accessFlags := 4120, slot := 9, constantValue := 0 }]
  methods := #[k2m0, k2m1]
  instanceTypes := #[]
  staticTypes := #[.double, .double, .double, .double, .double, .long, .long, .double, .double, .boolean]
  resolved := Array.replicate 460 none
  statics := none }

def pool3 : Array CpInfo := pool [(1, .methodref 2 3), (0, .class_ 4), (0, .nameAndType 5 6), (0, u "java/lang/Object"), (0, u "<init>"), (0, u "()V"), (9, .fieldref 17 18), (0, .class_ 19), (0, .nameAndType 20 21), (0, u "com/example/layout_to_evidence/layouttoevidence/CellSpan"), (0, u "startRow"), (0, u "I"), (0, .fieldref 17 23), (0, .nameAndType 24 21), (0, u "endRow"), (0, .fieldref 17 26), (0, .nameAndType 27 21), (0, u "startColumn"), (0, .fieldref 17 29), (0, .nameAndType 30 21), (0, u "endColumn"), (13, u "(IIII)V"), (4, u "equals"), (0, u "(Ljava/lang/Object;)Z")] 22

def k3c0 : Code := { maxStack := 6, maxLocals := 5, code := prog_6_method_1_code, exceptionTable := #[], attributes := #[] }
def k3m0 : Method := { name := "<init>", desc := "(IIII)V", sig := { parameters := [.int, .int, .int, .int], returnType := none }, accessFlags := 1, code := some k3c0 }
def k3c1 : Code := { maxStack := 2, maxLocals := 3, code := prog_6_method_6_code, exceptionTable := #[], attributes := #[] }
def k3m1 : Method := { name := "equals", desc := "(Ljava/lang/Object;)Z", sig := { parameters := [(.object "java/lang/Object")], returnType := some .boolean }, accessFlags := 1, code := some k3c1 }
/-- com/example/layout_to_evidence/layouttoevidence/CellSpan -/
def k3 : Class := { plain "com/example/layout_to_evidence/layouttoevidence/CellSpan" (some 0) with
  accessFlags := 33
  interfaces := #[]
  cf := some (fileOf pool3 17 #[] #[{ accessFlags := 1, nameIndex := 5, descriptorIndex := 44, attributes := #[] }, { accessFlags := 1, nameIndex := 49, descriptorIndex := 50, attributes := #[] }] 33 2 #[] #[{ accessFlags := 18, nameIndex := 20, descriptorIndex := 21, attributes := #[] }, { accessFlags := 18, nameIndex := 24, descriptorIndex := 21, attributes := #[] }, { accessFlags := 18, nameIndex := 27, descriptorIndex := 21, attributes := #[] }, { accessFlags := 18, nameIndex := 30, descriptorIndex := 21, attributes := #[] }])
  fields := #[{ name := "startRow", type := .int, accessFlags := 18, slot := 0, constantValue := 0 }, { name := "endRow", type := .int, accessFlags := 18, slot := 1, constantValue := 0 }, { name := "startColumn", type := .int, accessFlags := 18, slot := 2, constantValue := 0 }, { name := "endColumn", type := .int, accessFlags := 18, slot := 3, constantValue := 0 }]
  methods := #[k3m0, k3m1]
  instanceTypes := #[.int, .int, .int, .int]
  staticTypes := #[]
  resolved := Array.replicate 73 none
  statics := none }

def pool4 : Array CpInfo := pool [(1, .class_ 2), (0, u "java/io/Serializable"), (0, .class_ 4), (0, u "java/lang/Object")] 2

/-- java/io/Serializable -/
def k4 : Class := { plain "java/io/Serializable" (some 0) with
  accessFlags := 1537
  interfaces := #[]
  cf := some (fileOf pool4 1 #[] #[] 1537 3 #[] #[])
  fields := #[]
  methods := #[]
  instanceTypes := #[]
  staticTypes := #[]
  resolved := Array.replicate 7 none
  statics := none }

def pool5 : Array CpInfo := pool [(1, .methodref 2 3), (0, .class_ 4), (0, .nameAndType 5 6), (0, u "java/lang/Object"), (0, u "<init>"), (0, u "()V"), (1, .class_ 10), (1, u "java/lang/Number"), (2, .class_ 14), (0, u "java/io/Serializable"), (0, u "serialVersionUID"), (0, u "J")] 20

def k5c0 : Code := { maxStack := 1, maxLocals := 1, code := jdk_18_method_1_code, exceptionTable := #[], attributes := #[] }
def k5m0 : Method := { name := "<init>", desc := "()V", sig := { parameters := [], returnType := none }, accessFlags := 1, code := some k5c0 }
/-- java/lang/Number -/
def k5 : Class := { plain "java/lang/Number" (some 0) with
  accessFlags := 1057
  interfaces := #[4]
  cf := some (fileOf pool5 8 #[] #[{ accessFlags := 1, nameIndex := 5, descriptorIndex := 6, attributes := #[] }] 1057 2 #[13] #[{ accessFlags := 26, nameIndex := 15, descriptorIndex := 16, attributes := #[] }])
  fields := #[{ name := "serialVersionUID", type := .long, accessFlags := 26, slot := 0, constantValue := 0 }]
  methods := #[k5m0]
  instanceTypes := #[]
  staticTypes := #[.long]
  resolved := Array.replicate 37 none
  statics := none }

def pool6 : Array CpInfo := pool [(1, .class_ 2), (0, u "java/lang/Comparable"), (0, .class_ 4), (0, u "java/lang/Object")] 7

/-- java/lang/Comparable -/
def k6 : Class := { plain "java/lang/Comparable" (some 0) with
  accessFlags := 1537
  interfaces := #[]
  cf := some (fileOf pool6 1 #[] #[] 1537 3 #[] #[])
  fields := #[]
  methods := #[]
  instanceTypes := #[]
  staticTypes := #[]
  resolved := Array.replicate 12 none
  statics := none }

def pool7 : Array CpInfo := pool [(1, .class_ 2), (0, u "java/lang/constant/Constable"), (0, .class_ 4), (0, u "java/lang/Object")] 6

/-- java/lang/constant/Constable -/
def k7 : Class := { plain "java/lang/constant/Constable" (some 0) with
  accessFlags := 1537
  interfaces := #[]
  cf := some (fileOf pool7 1 #[] #[] 1537 3 #[] #[])
  fields := #[]
  methods := #[]
  instanceTypes := #[]
  staticTypes := #[]
  resolved := Array.replicate 11 none
  statics := none }

def pool8 : Array CpInfo := pool [(1, .class_ 2), (0, u "java/lang/constant/ConstantDesc"), (0, .class_ 4), (0, u "java/lang/Object")] 32

/-- java/lang/constant/ConstantDesc -/
def k8 : Class := { plain "java/lang/constant/ConstantDesc" (some 0) with
  accessFlags := 1537
  interfaces := #[]
  cf := some (fileOf pool8 1 #[] #[] 1537 3 #[] #[])
  fields := #[]
  methods := #[]
  instanceTypes := #[]
  staticTypes := #[]
  resolved := Array.replicate 37 none
  statics := none }

def pool9 : Array CpInfo := pool [(1, .class_ 2), (0, u "java/lang/Integer"), (16, u "digits"), (0, u "[C"), (46, u "<init>"), (17, u "DigitOnes"), (0, u "[B"), (2, u "DigitTens"), (10, .nameAndType 67 101), (0, u "()V"), (85, u "valueOf"), (0, u "(I)Ljava/lang/Integer;"), (0, .class_ 190), (0, u "java/lang/Integer$IntegerCache"), (0, .fieldref 189 192), (0, .nameAndType 193 194), (0, u "high"), (0, u "I"), (0, .fieldref 189 196), (0, .nameAndType 197 198), (0, u "cache"), (0, u "[Ljava/lang/Integer;"), (0, .methodref 1 200), (0, .nameAndType 67 201), (0, u "(I)V"), (0, .methodref 203 100), (0, .class_ 204), (0, u "java/lang/Number"), (0, .fieldref 1 206), (0, .nameAndType 207 194), (0, u "value"), (94, u "TYPE"), (0, u "Ljava/lang/Class;"), (0, .class_ 305), (0, u "java/lang/Comparable"), (0, .class_ 307), (0, u "java/lang/constant/Constable"), (0, .class_ 309), (0, u "java/lang/constant/ConstantDesc"), (0, u "MIN_VALUE"), (1, u "MAX_VALUE"), (3, u "SIZE"), (1, u "BYTES"), (1, u "serialVersionUID"), (0, u "J")] 131

def k9c0 : Code := { maxStack := 3, maxLocals := 1, code := jdk_33_method_22_code, exceptionTable := #[], attributes := #[] }
def k9m0 : Method := { name := "valueOf", desc := "(I)Ljava/lang/Integer;", sig := { parameters := [.int], returnType := some (.object "java/lang/Integer") }, accessFlags := 9, code := some k9c0 }
def k9c1 : Code := { maxStack := 2, maxLocals := 2, code := jdk_33_method_23_code, exceptionTable := #[], attributes := #[] }
def k9m1 : Method := { name := "<init>", desc := "(I)V", sig := { parameters := [.int], returnType := none }, accessFlags := 1, code := some k9c1 }
/-- java/lang/Integer -/
def k9 : Class := { plain "java/lang/Integer" (some 5) with
  accessFlags := 49
  interfaces := #[6, 7, 8]
  cf := some (fileOf pool9 1 #[.nestMembers #[189]] #[{ accessFlags := 9, nameIndex := 187, descriptorIndex := 188, attributes := #[] }, { accessFlags := 1, nameIndex := 67, descriptorIndex := 201, attributes := #[] }] 49 203 #[304, 306, 308] #[{ accessFlags := 25, nameIndex := 310, descriptorIndex := 194, attributes := #[] }, { accessFlags := 25, nameIndex := 312, descriptorIndex := 194, attributes := #[] }, { accessFlags := 25, nameIndex := 302, descriptorIndex := 303, attributes := #[] }, { accessFlags := 24, nameIndex := 19, descriptorIndex := 20, attributes := #[] }, { accessFlags := 24, nameIndex := 89, descriptorIndex := 86, attributes := #[] }, { accessFlags := 24, nameIndex := 85, descriptorIndex := 86, attributes := #[] }, { accessFlags := 18, nameIndex := 207, descriptorIndex := 194, attributes := #[] }, { accessFlags := 25, nameIndex := 316, descriptorIndex := 194, attributes := #[] }, { accessFlags := 25, nameIndex := 318, descriptorIndex := 194, attributes := #[] }, { accessFlags := 26, nameIndex := 320, descriptorIndex := 321, attributes := #[] }])
  fields := #[{ name := "MIN_VALUE", type := .int, accessFlags := 25, slot := 0, constantValue := 0 }, { name := "MAX_VALUE", type := .int, accessFlags := 25, slot := 1, constantValue := 0 }, { name := "TYPE", type := (.object "java/lang/Class"), accessFlags := 25, slot := 2, constantValue := 0 }, { name := "digits", type := (.array .char), accessFlags := 24, slot := 3, constantValue := 0 }, { name := "DigitTens", type := (.array .byte), accessFlags := 24, slot := 4, constantValue := 0 }, { name := "DigitOnes", type := (.array .byte), accessFlags := 24, slot := 5, constantValue := 0 }, { name := "value", type := .int, accessFlags := 18, slot := 0, constantValue := 0 }, { name := "SIZE", type := .int, accessFlags := 25, slot := 6, constantValue := 0 }, { name := "BYTES", type := .int, accessFlags := 25, slot := 7, constantValue := 0 }, { name := "serialVersionUID", type := .long, accessFlags := 26, slot := 8, constantValue := 0 }]
  methods := #[k9m0, k9m1]
  instanceTypes := #[.int]
  staticTypes := #[.int, .int, (.object "java/lang/Class"), (.array .char), (.array .byte), (.array .byte), .int, .int, .long]
  resolved := Array.replicate 453 none
  statics := none }

def pool10 : Array CpInfo := pool [(2, .class_ 4), (1, u "java/lang/Object"), (0, u "<init>"), (0, u "()V"), (0, .class_ 8), (0, u "java/lang/Integer"), (7, .class_ 18), (1, u "java/lang/Integer$IntegerCache"), (0, u "$assertionsDisabled"), (0, u "Z"), (26, u "high"), (0, u "I"), (8, u "archivedCache"), (0, u "[Ljava/lang/Integer;"), (12, u "cache"), (0, u "low")] 27

def k10m0 : Method := { name := "<init>", desc := "()V", sig := { parameters := [], returnType := none }, accessFlags := 2, code := none }
/-- java/lang/Integer$IntegerCache -/
def k10 : Class := { plain "java/lang/Integer$IntegerCache" (some 0) with
  accessFlags := 48
  interfaces := #[]
  cf := some (fileOf pool10 16 #[.nestHost 7] #[{ accessFlags := 2, nameIndex := 5, descriptorIndex := 6, attributes := #[] }] 48 2 #[] #[{ accessFlags := 24, nameIndex := 72, descriptorIndex := 48, attributes := #[] }, { accessFlags := 24, nameIndex := 47, descriptorIndex := 48, attributes := #[] }, { accessFlags := 24, nameIndex := 71, descriptorIndex := 58, attributes := #[] }, { accessFlags := 8, nameIndex := 57, descriptorIndex := 58, attributes := #[] }, { accessFlags := 4120, nameIndex := 19, descriptorIndex := 20, attributes := #[] }])
  fields := #[{ name := "low", type := .int, accessFlags := 24, slot := 0, constantValue := 0 }, { name := "high", type := .int, accessFlags := 24, slot := 1, constantValue := 0 }, { name := "cache", type := (.array (.object "java/lang/Integer")), accessFlags := 24, slot := 2, constantValue := 0 }, { name := "archivedCache", type := (.array (.object "java/lang/Integer")), accessFlags := 8, slot := 3, constantValue := 0 }, { name := "$assertionsDisabled", type := .boolean, accessFlags := 4120, slot := 4, constantValue := 0 }]
  methods := #[k10m0]
  instanceTypes := #[]
  staticTypes := #[.int, .int, (.array (.object "java/lang/Integer")), (.array (.object "java/lang/Integer")), .boolean]
  resolved := Array.replicate 100 none
  statics := some 0 }

def pool11 : Array CpInfo := pool [(1, u "java/lang/Cloneable"), (0, .class_ 1), (0, u "java/lang/Object"), (0, .class_ 3)] 3

/-- java/lang/Cloneable -/
def k11 : Class := { plain "java/lang/Cloneable" (some 0) with
  accessFlags := 1537
  interfaces := #[]
  cf := some (fileOf pool11 2 #[] #[] 1537 4 #[] #[])
  fields := #[]
  methods := #[]
  instanceTypes := #[]
  staticTypes := #[]
  resolved := Array.replicate 8 none
  statics := none }

/-- the primitive byte -/
def k12 : Class := { plain "byte" none with kind := .primitive 'B', accessFlags := 0x411 }
/-- [B -/
def k13 : Class := { plain "[B" (some 0) with kind := .array 12 .byte, interfaces := #[11, 4], accessFlags := 1041 }

/-- the primitive int -/
def k14 : Class := { plain "int" none with kind := .primitive 'I', accessFlags := 0x411 }
/-- [I -/
def k15 : Class := { plain "[I" (some 0) with kind := .array 14 .int, interfaces := #[11, 4], accessFlags := 1041 }

/-- [Ljava/lang/Integer; -/
def k16 : Class := { plain "[Ljava/lang/Integer;" (some 0) with kind := .array 9 (.object "java/lang/Integer"), interfaces := #[11, 4], accessFlags := 1041 }

def heap : Heap := #[{ cls := 10, slots := #[.int 0, .int 127, .ref 1, .null, .int 0], vm := .statics 10 },
  { cls := 16, slots := #[.ref 2, .ref 3, .ref 4, .ref 5, .ref 6, .ref 7, .ref 8, .ref 9, .ref 10, .ref 11, .ref 12, .ref 13, .ref 14, .ref 15, .ref 16, .ref 17, .ref 18, .ref 19, .ref 20, .ref 21, .ref 22, .ref 23, .ref 24, .ref 25, .ref 26, .ref 27, .ref 28, .ref 29, .ref 30, .ref 31, .ref 32, .ref 33, .ref 34, .ref 35, .ref 36, .ref 37, .ref 38, .ref 39, .ref 40, .ref 41, .ref 42, .ref 43, .ref 44, .ref 45, .ref 46, .ref 47, .ref 48, .ref 49, .ref 50, .ref 51, .ref 52, .ref 53, .ref 54, .ref 55, .ref 56, .ref 57, .ref 58, .ref 59, .ref 60, .ref 61, .ref 62, .ref 63, .ref 64, .ref 65, .ref 66, .ref 67, .ref 68, .ref 69, .ref 70, .ref 71, .ref 72, .ref 73, .ref 74, .ref 75, .ref 76, .ref 77, .ref 78, .ref 79, .ref 80, .ref 81, .ref 82, .ref 83, .ref 84, .ref 85, .ref 86, .ref 87, .ref 88, .ref 89, .ref 90, .ref 91, .ref 92, .ref 93, .ref 94, .ref 95, .ref 96, .ref 97, .ref 98, .ref 99, .ref 100, .ref 101, .ref 102, .ref 103, .ref 104, .ref 105, .ref 106, .ref 107, .ref 108, .ref 109, .ref 110, .ref 111, .ref 112, .ref 113, .ref 114, .ref 115, .ref 116, .ref 117, .ref 118, .ref 119, .ref 120, .ref 121, .ref 122, .ref 123, .ref 124, .ref 125, .ref 126, .ref 127, .ref 128, .ref 129, .ref 130, .ref 131, .ref 132, .ref 133, .ref 134, .ref 135, .ref 136, .ref 137, .ref 138, .ref 139, .ref 140, .ref 141, .ref 142, .ref 143, .ref 144, .ref 145, .ref 146, .ref 147, .ref 148, .ref 149, .ref 150, .ref 151, .ref 152, .ref 153, .ref 154, .ref 155, .ref 156, .ref 157, .ref 158, .ref 159, .ref 160, .ref 161, .ref 162, .ref 163, .ref 164, .ref 165, .ref 166, .ref 167, .ref 168, .ref 169, .ref 170, .ref 171, .ref 172, .ref 173, .ref 174, .ref 175, .ref 176, .ref 177, .ref 178, .ref 179, .ref 180, .ref 181, .ref 182, .ref 183, .ref 184, .ref 185, .ref 186, .ref 187, .ref 188, .ref 189, .ref 190, .ref 191, .ref 192, .ref 193, .ref 194, .ref 195, .ref 196, .ref 197, .ref 198, .ref 199, .ref 200, .ref 201, .ref 202, .ref 203, .ref 204, .ref 205, .ref 206, .ref 207, .ref 208, .ref 209, .ref 210, .ref 211, .ref 212, .ref 213, .ref 214, .ref 215, .ref 216, .ref 217, .ref 218, .ref 219, .ref 220, .ref 221, .ref 222, .ref 223, .ref 224, .ref 225, .ref 226, .ref 227, .ref 228, .ref 229, .ref 230, .ref 231, .ref 232, .ref 233, .ref 234, .ref 235, .ref 236, .ref 237, .ref 238, .ref 239, .ref 240, .ref 241, .ref 242, .ref 243, .ref 244, .ref 245, .ref 246, .ref 247, .ref 248, .ref 249, .ref 250, .ref 251, .ref 252, .ref 253, .ref 254, .ref 255, .ref 256, .ref 257], vm := .none },
  { cls := 9, slots := #[.int (-128)], vm := .none },
  { cls := 9, slots := #[.int (-127)], vm := .none },
  { cls := 9, slots := #[.int (-126)], vm := .none },
  { cls := 9, slots := #[.int (-125)], vm := .none },
  { cls := 9, slots := #[.int (-124)], vm := .none },
  { cls := 9, slots := #[.int (-123)], vm := .none },
  { cls := 9, slots := #[.int (-122)], vm := .none },
  { cls := 9, slots := #[.int (-121)], vm := .none },
  { cls := 9, slots := #[.int (-120)], vm := .none },
  { cls := 9, slots := #[.int (-119)], vm := .none },
  { cls := 9, slots := #[.int (-118)], vm := .none },
  { cls := 9, slots := #[.int (-117)], vm := .none },
  { cls := 9, slots := #[.int (-116)], vm := .none },
  { cls := 9, slots := #[.int (-115)], vm := .none },
  { cls := 9, slots := #[.int (-114)], vm := .none },
  { cls := 9, slots := #[.int (-113)], vm := .none },
  { cls := 9, slots := #[.int (-112)], vm := .none },
  { cls := 9, slots := #[.int (-111)], vm := .none },
  { cls := 9, slots := #[.int (-110)], vm := .none },
  { cls := 9, slots := #[.int (-109)], vm := .none },
  { cls := 9, slots := #[.int (-108)], vm := .none },
  { cls := 9, slots := #[.int (-107)], vm := .none },
  { cls := 9, slots := #[.int (-106)], vm := .none },
  { cls := 9, slots := #[.int (-105)], vm := .none },
  { cls := 9, slots := #[.int (-104)], vm := .none },
  { cls := 9, slots := #[.int (-103)], vm := .none },
  { cls := 9, slots := #[.int (-102)], vm := .none },
  { cls := 9, slots := #[.int (-101)], vm := .none },
  { cls := 9, slots := #[.int (-100)], vm := .none },
  { cls := 9, slots := #[.int (-99)], vm := .none },
  { cls := 9, slots := #[.int (-98)], vm := .none },
  { cls := 9, slots := #[.int (-97)], vm := .none },
  { cls := 9, slots := #[.int (-96)], vm := .none },
  { cls := 9, slots := #[.int (-95)], vm := .none },
  { cls := 9, slots := #[.int (-94)], vm := .none },
  { cls := 9, slots := #[.int (-93)], vm := .none },
  { cls := 9, slots := #[.int (-92)], vm := .none },
  { cls := 9, slots := #[.int (-91)], vm := .none },
  { cls := 9, slots := #[.int (-90)], vm := .none },
  { cls := 9, slots := #[.int (-89)], vm := .none },
  { cls := 9, slots := #[.int (-88)], vm := .none },
  { cls := 9, slots := #[.int (-87)], vm := .none },
  { cls := 9, slots := #[.int (-86)], vm := .none },
  { cls := 9, slots := #[.int (-85)], vm := .none },
  { cls := 9, slots := #[.int (-84)], vm := .none },
  { cls := 9, slots := #[.int (-83)], vm := .none },
  { cls := 9, slots := #[.int (-82)], vm := .none },
  { cls := 9, slots := #[.int (-81)], vm := .none },
  { cls := 9, slots := #[.int (-80)], vm := .none },
  { cls := 9, slots := #[.int (-79)], vm := .none },
  { cls := 9, slots := #[.int (-78)], vm := .none },
  { cls := 9, slots := #[.int (-77)], vm := .none },
  { cls := 9, slots := #[.int (-76)], vm := .none },
  { cls := 9, slots := #[.int (-75)], vm := .none },
  { cls := 9, slots := #[.int (-74)], vm := .none },
  { cls := 9, slots := #[.int (-73)], vm := .none },
  { cls := 9, slots := #[.int (-72)], vm := .none },
  { cls := 9, slots := #[.int (-71)], vm := .none },
  { cls := 9, slots := #[.int (-70)], vm := .none },
  { cls := 9, slots := #[.int (-69)], vm := .none },
  { cls := 9, slots := #[.int (-68)], vm := .none },
  { cls := 9, slots := #[.int (-67)], vm := .none },
  { cls := 9, slots := #[.int (-66)], vm := .none },
  { cls := 9, slots := #[.int (-65)], vm := .none },
  { cls := 9, slots := #[.int (-64)], vm := .none },
  { cls := 9, slots := #[.int (-63)], vm := .none },
  { cls := 9, slots := #[.int (-62)], vm := .none },
  { cls := 9, slots := #[.int (-61)], vm := .none },
  { cls := 9, slots := #[.int (-60)], vm := .none },
  { cls := 9, slots := #[.int (-59)], vm := .none },
  { cls := 9, slots := #[.int (-58)], vm := .none },
  { cls := 9, slots := #[.int (-57)], vm := .none },
  { cls := 9, slots := #[.int (-56)], vm := .none },
  { cls := 9, slots := #[.int (-55)], vm := .none },
  { cls := 9, slots := #[.int (-54)], vm := .none },
  { cls := 9, slots := #[.int (-53)], vm := .none },
  { cls := 9, slots := #[.int (-52)], vm := .none },
  { cls := 9, slots := #[.int (-51)], vm := .none },
  { cls := 9, slots := #[.int (-50)], vm := .none },
  { cls := 9, slots := #[.int (-49)], vm := .none },
  { cls := 9, slots := #[.int (-48)], vm := .none },
  { cls := 9, slots := #[.int (-47)], vm := .none },
  { cls := 9, slots := #[.int (-46)], vm := .none },
  { cls := 9, slots := #[.int (-45)], vm := .none },
  { cls := 9, slots := #[.int (-44)], vm := .none },
  { cls := 9, slots := #[.int (-43)], vm := .none },
  { cls := 9, slots := #[.int (-42)], vm := .none },
  { cls := 9, slots := #[.int (-41)], vm := .none },
  { cls := 9, slots := #[.int (-40)], vm := .none },
  { cls := 9, slots := #[.int (-39)], vm := .none },
  { cls := 9, slots := #[.int (-38)], vm := .none },
  { cls := 9, slots := #[.int (-37)], vm := .none },
  { cls := 9, slots := #[.int (-36)], vm := .none },
  { cls := 9, slots := #[.int (-35)], vm := .none },
  { cls := 9, slots := #[.int (-34)], vm := .none },
  { cls := 9, slots := #[.int (-33)], vm := .none },
  { cls := 9, slots := #[.int (-32)], vm := .none },
  { cls := 9, slots := #[.int (-31)], vm := .none },
  { cls := 9, slots := #[.int (-30)], vm := .none },
  { cls := 9, slots := #[.int (-29)], vm := .none },
  { cls := 9, slots := #[.int (-28)], vm := .none },
  { cls := 9, slots := #[.int (-27)], vm := .none },
  { cls := 9, slots := #[.int (-26)], vm := .none },
  { cls := 9, slots := #[.int (-25)], vm := .none },
  { cls := 9, slots := #[.int (-24)], vm := .none },
  { cls := 9, slots := #[.int (-23)], vm := .none },
  { cls := 9, slots := #[.int (-22)], vm := .none },
  { cls := 9, slots := #[.int (-21)], vm := .none },
  { cls := 9, slots := #[.int (-20)], vm := .none },
  { cls := 9, slots := #[.int (-19)], vm := .none },
  { cls := 9, slots := #[.int (-18)], vm := .none },
  { cls := 9, slots := #[.int (-17)], vm := .none },
  { cls := 9, slots := #[.int (-16)], vm := .none },
  { cls := 9, slots := #[.int (-15)], vm := .none },
  { cls := 9, slots := #[.int (-14)], vm := .none },
  { cls := 9, slots := #[.int (-13)], vm := .none },
  { cls := 9, slots := #[.int (-12)], vm := .none },
  { cls := 9, slots := #[.int (-11)], vm := .none },
  { cls := 9, slots := #[.int (-10)], vm := .none },
  { cls := 9, slots := #[.int (-9)], vm := .none },
  { cls := 9, slots := #[.int (-8)], vm := .none },
  { cls := 9, slots := #[.int (-7)], vm := .none },
  { cls := 9, slots := #[.int (-6)], vm := .none },
  { cls := 9, slots := #[.int (-5)], vm := .none },
  { cls := 9, slots := #[.int (-4)], vm := .none },
  { cls := 9, slots := #[.int (-3)], vm := .none },
  { cls := 9, slots := #[.int (-2)], vm := .none },
  { cls := 9, slots := #[.int (-1)], vm := .none },
  { cls := 9, slots := #[.int (0)], vm := .none },
  { cls := 9, slots := #[.int (1)], vm := .none },
  { cls := 9, slots := #[.int (2)], vm := .none },
  { cls := 9, slots := #[.int (3)], vm := .none },
  { cls := 9, slots := #[.int (4)], vm := .none },
  { cls := 9, slots := #[.int (5)], vm := .none },
  { cls := 9, slots := #[.int (6)], vm := .none },
  { cls := 9, slots := #[.int (7)], vm := .none },
  { cls := 9, slots := #[.int (8)], vm := .none },
  { cls := 9, slots := #[.int (9)], vm := .none },
  { cls := 9, slots := #[.int (10)], vm := .none },
  { cls := 9, slots := #[.int (11)], vm := .none },
  { cls := 9, slots := #[.int (12)], vm := .none },
  { cls := 9, slots := #[.int (13)], vm := .none },
  { cls := 9, slots := #[.int (14)], vm := .none },
  { cls := 9, slots := #[.int (15)], vm := .none },
  { cls := 9, slots := #[.int (16)], vm := .none },
  { cls := 9, slots := #[.int (17)], vm := .none },
  { cls := 9, slots := #[.int (18)], vm := .none },
  { cls := 9, slots := #[.int (19)], vm := .none },
  { cls := 9, slots := #[.int (20)], vm := .none },
  { cls := 9, slots := #[.int (21)], vm := .none },
  { cls := 9, slots := #[.int (22)], vm := .none },
  { cls := 9, slots := #[.int (23)], vm := .none },
  { cls := 9, slots := #[.int (24)], vm := .none },
  { cls := 9, slots := #[.int (25)], vm := .none },
  { cls := 9, slots := #[.int (26)], vm := .none },
  { cls := 9, slots := #[.int (27)], vm := .none },
  { cls := 9, slots := #[.int (28)], vm := .none },
  { cls := 9, slots := #[.int (29)], vm := .none },
  { cls := 9, slots := #[.int (30)], vm := .none },
  { cls := 9, slots := #[.int (31)], vm := .none },
  { cls := 9, slots := #[.int (32)], vm := .none },
  { cls := 9, slots := #[.int (33)], vm := .none },
  { cls := 9, slots := #[.int (34)], vm := .none },
  { cls := 9, slots := #[.int (35)], vm := .none },
  { cls := 9, slots := #[.int (36)], vm := .none },
  { cls := 9, slots := #[.int (37)], vm := .none },
  { cls := 9, slots := #[.int (38)], vm := .none },
  { cls := 9, slots := #[.int (39)], vm := .none },
  { cls := 9, slots := #[.int (40)], vm := .none },
  { cls := 9, slots := #[.int (41)], vm := .none },
  { cls := 9, slots := #[.int (42)], vm := .none },
  { cls := 9, slots := #[.int (43)], vm := .none },
  { cls := 9, slots := #[.int (44)], vm := .none },
  { cls := 9, slots := #[.int (45)], vm := .none },
  { cls := 9, slots := #[.int (46)], vm := .none },
  { cls := 9, slots := #[.int (47)], vm := .none },
  { cls := 9, slots := #[.int (48)], vm := .none },
  { cls := 9, slots := #[.int (49)], vm := .none },
  { cls := 9, slots := #[.int (50)], vm := .none },
  { cls := 9, slots := #[.int (51)], vm := .none },
  { cls := 9, slots := #[.int (52)], vm := .none },
  { cls := 9, slots := #[.int (53)], vm := .none },
  { cls := 9, slots := #[.int (54)], vm := .none },
  { cls := 9, slots := #[.int (55)], vm := .none },
  { cls := 9, slots := #[.int (56)], vm := .none },
  { cls := 9, slots := #[.int (57)], vm := .none },
  { cls := 9, slots := #[.int (58)], vm := .none },
  { cls := 9, slots := #[.int (59)], vm := .none },
  { cls := 9, slots := #[.int (60)], vm := .none },
  { cls := 9, slots := #[.int (61)], vm := .none },
  { cls := 9, slots := #[.int (62)], vm := .none },
  { cls := 9, slots := #[.int (63)], vm := .none },
  { cls := 9, slots := #[.int (64)], vm := .none },
  { cls := 9, slots := #[.int (65)], vm := .none },
  { cls := 9, slots := #[.int (66)], vm := .none },
  { cls := 9, slots := #[.int (67)], vm := .none },
  { cls := 9, slots := #[.int (68)], vm := .none },
  { cls := 9, slots := #[.int (69)], vm := .none },
  { cls := 9, slots := #[.int (70)], vm := .none },
  { cls := 9, slots := #[.int (71)], vm := .none },
  { cls := 9, slots := #[.int (72)], vm := .none },
  { cls := 9, slots := #[.int (73)], vm := .none },
  { cls := 9, slots := #[.int (74)], vm := .none },
  { cls := 9, slots := #[.int (75)], vm := .none },
  { cls := 9, slots := #[.int (76)], vm := .none },
  { cls := 9, slots := #[.int (77)], vm := .none },
  { cls := 9, slots := #[.int (78)], vm := .none },
  { cls := 9, slots := #[.int (79)], vm := .none },
  { cls := 9, slots := #[.int (80)], vm := .none },
  { cls := 9, slots := #[.int (81)], vm := .none },
  { cls := 9, slots := #[.int (82)], vm := .none },
  { cls := 9, slots := #[.int (83)], vm := .none },
  { cls := 9, slots := #[.int (84)], vm := .none },
  { cls := 9, slots := #[.int (85)], vm := .none },
  { cls := 9, slots := #[.int (86)], vm := .none },
  { cls := 9, slots := #[.int (87)], vm := .none },
  { cls := 9, slots := #[.int (88)], vm := .none },
  { cls := 9, slots := #[.int (89)], vm := .none },
  { cls := 9, slots := #[.int (90)], vm := .none },
  { cls := 9, slots := #[.int (91)], vm := .none },
  { cls := 9, slots := #[.int (92)], vm := .none },
  { cls := 9, slots := #[.int (93)], vm := .none },
  { cls := 9, slots := #[.int (94)], vm := .none },
  { cls := 9, slots := #[.int (95)], vm := .none },
  { cls := 9, slots := #[.int (96)], vm := .none },
  { cls := 9, slots := #[.int (97)], vm := .none },
  { cls := 9, slots := #[.int (98)], vm := .none },
  { cls := 9, slots := #[.int (99)], vm := .none },
  { cls := 9, slots := #[.int (100)], vm := .none },
  { cls := 9, slots := #[.int (101)], vm := .none },
  { cls := 9, slots := #[.int (102)], vm := .none },
  { cls := 9, slots := #[.int (103)], vm := .none },
  { cls := 9, slots := #[.int (104)], vm := .none },
  { cls := 9, slots := #[.int (105)], vm := .none },
  { cls := 9, slots := #[.int (106)], vm := .none },
  { cls := 9, slots := #[.int (107)], vm := .none },
  { cls := 9, slots := #[.int (108)], vm := .none },
  { cls := 9, slots := #[.int (109)], vm := .none },
  { cls := 9, slots := #[.int (110)], vm := .none },
  { cls := 9, slots := #[.int (111)], vm := .none },
  { cls := 9, slots := #[.int (112)], vm := .none },
  { cls := 9, slots := #[.int (113)], vm := .none },
  { cls := 9, slots := #[.int (114)], vm := .none },
  { cls := 9, slots := #[.int (115)], vm := .none },
  { cls := 9, slots := #[.int (116)], vm := .none },
  { cls := 9, slots := #[.int (117)], vm := .none },
  { cls := 9, slots := #[.int (118)], vm := .none },
  { cls := 9, slots := #[.int (119)], vm := .none },
  { cls := 9, slots := #[.int (120)], vm := .none },
  { cls := 9, slots := #[.int (121)], vm := .none },
  { cls := 9, slots := #[.int (122)], vm := .none },
  { cls := 9, slots := #[.int (123)], vm := .none },
  { cls := 9, slots := #[.int (124)], vm := .none },
  { cls := 9, slots := #[.int (125)], vm := .none },
  { cls := 9, slots := #[.int (126)], vm := .none },
  { cls := 9, slots := #[.int (127)], vm := .none }]
def classes : Array Class := #[k0, k1, k2, k3, k4, k5, k6, k7, k8, k9, k10, k11, k12, k13, k14, k15, k16]
def interned : List (Array UInt16 × Addr) := []
def slotsUsed : Nat := 517
def theMethod : MethodId := ⟨1, 2⟩
def args0 : Array Value := #[.int 5, .int 9, .int 1, .int 4, .int 7, .int 3]
def aboutOver (below : List Frame) : State where
  vm := { classes := classes, interned := interned.toArray }
  heap := heap
  slotsUsed := slotsUsed
  threads := #[{ frames := .invoking theMethod args0 :: below }]
def below0 : List Frame := [.native { method := ⟨0, 0⟩, args := #[] }]
def about1 : State := aboutOver below0
def p0 : Program := .bare "" "" ""
def e0 : Env := launch0.env 0 0 0
theorem w_frames : about1.frames = Frame.invoking theMethod args0 :: below0 := rfl
set_option maxRecDepth 65536 in
theorem w_args : argsFit about1.vm theMethod args0 = true := by decide +kernel
set_option maxRecDepth 65536 in
theorem w_heap : heapFits about1 = true := by decide +kernel
set_option maxRecDepth 65536 in
theorem w_runnable : about1.curStatus? = some .runnable := by decide +kernel
set_option maxRecDepth 65536 in
theorem w_alone : about1.alone = true := by decide +kernel
set_option maxRecDepth 65536 in
theorem w_named : about1.methodNamed? x = some theMethod := by decide +kernel
set_option maxRecDepth 65536 in
theorem w_hears : about1.hears theMethod below0 = true := by decide +kernel
set_option maxRecDepth 65536 in
theorem w_ripe : about1.ripe theMethod args0 below0 = true := by decide +kernel
theorem w_running : about1.status = .running := rfl
set_option maxRecDepth 65536 in
theorem w_room : about1.hasRoom e0.platform room_1 = true :=
  launch0.hasRoom_least _ room_1 (by decide +kernel) (by decide +kernel) (by decide +kernel) (by decide +kernel) (by decide +kernel) (by decide +kernel)
theorem allAtoms_all (ts : List Jvm.Cond) (a : Array Jvm.Value) (st : Jvm.State) : (allAtoms ts).before a st = ts.all (fun c => c.before a st) := by
  induction ts with
  | nil => rfl
  | cons c t ih =>
    show (Jvm.Cond.and c (allAtoms t)).before a st = _
    rw [Jvm.Cond.before_and, ih, List.all_cons]
def words1 : List Jvm.Cond := Jvm.Cond.code x code maxLocals ret :: tables_1
/-- a 'code' word, met by the world's own term for the bytes: nothing is compared byte by byte -/
theorem code_word {y : MethodName} {bytes : ByteArray} {mx : Nat} {rt : Option FieldType} {a : Array Value} {s : State} {m : MethodId} {meth : Method} {c : Code} (h1 : s.methodNamed? y = some m) (h2 : s.vm.method? m = some meth) (h3 : meth.code = some c) (h4 : c.code = bytes)
    (h5 : (c.maxLocals == mx && c.exceptionTable.isEmpty && decide (c.maxStack ≤ mostOperands) && decide (meth.sig.returnType = rt) && !meth.locks && decide (parseMethodDescriptor y.desc = some meth.sig)) = true) : (Jvm.Cond.code y bytes mx rt).before a s = true := by
  simp only [Bool.and_eq_true, beq_iff_eq, Bool.not_eq_true', decide_eq_true_eq] at h5
  obtain ⟨⟨⟨⟨⟨g1, g2⟩, g3⟩, g4⟩, g5⟩, g6⟩ := h5
  simp [Cond.before, Cond.holds, Cond.value, h1, h2, h3, h4, g1, g2, g3, g4, g5, g6]
def isCode : Jvm.Cond → Bool
  | .code _ _ _ _ => true
  | _ => false
theorem all_split {L : List Jvm.Cond} {P : Jvm.Cond → Bool} (h1 : L.all (fun c => isCode c || P c) = true) (h2 : ∀ c ∈ L.filter isCode, P c = true) : L.all P = true := by
  refine List.all_eq_true.mpr fun c hc => ?_
  have h := List.all_eq_true.mp h1 c hc
  rcases Bool.eq_false_or_eq_true (isCode c) with hi | hi
  · exact h2 c (List.mem_filter.mpr ⟨hc, hi⟩)
  · simpa [hi] using h
set_option maxRecDepth 65536 in
theorem w_c0 : (Jvm.Cond.code x code maxLocals ret).before args0 about1 = true := code_word (m := ⟨1, 2⟩) (meth := k1m2) (c := k1c2) (by decide +kernel) rfl rfl rfl (by decide +kernel)
set_option maxRecDepth 65536 in
theorem w_c1 : (Jvm.Cond.code ({ cls := "com/example/layout_to_evidence/layouttoevidence/CellSpanEqualsPinLaw", name := "fix", desc := "([I)V" } : Jvm.MethodName) method_2_code (1 : Nat) (Option.none : Option Jvm.ClassFile.FieldType)).before args0 about1 = true := code_word (m := ⟨1, 1⟩) (meth := k1m1) (c := k1c1) (by decide +kernel) rfl rfl rfl (by decide +kernel)
set_option maxRecDepth 65536 in
theorem w_c2 : (Jvm.Cond.code ({ cls := "java/lang/Math", name := "max", desc := "(II)I" } : Jvm.MethodName) jdk_29_method_65_code (2 : Nat) (Option.some Jvm.ClassFile.FieldType.int)).before args0 about1 = true := code_word (m := ⟨2, 1⟩) (meth := k2m1) (c := k2c1) (by decide +kernel) rfl rfl rfl (by decide +kernel)
set_option maxRecDepth 65536 in
theorem w_c3 : (Jvm.Cond.code ({ cls := "com/example/layout_to_evidence/layouttoevidence/CellSpan", name := "<init>", desc := "(IIII)V" } : Jvm.MethodName) prog_6_method_1_code (5 : Nat) (Option.none : Option Jvm.ClassFile.FieldType)).before args0 about1 = true := code_word (m := ⟨3, 0⟩) (meth := k3m0) (c := k3c0) (by decide +kernel) rfl rfl rfl (by decide +kernel)
set_option maxRecDepth 65536 in
theorem w_c4 : (Jvm.Cond.code ({ cls := "java/lang/Object", name := "<init>", desc := "()V" } : Jvm.MethodName) object_method_1_code (1 : Nat) (Option.none : Option Jvm.ClassFile.FieldType)).before args0 about1 = true := code_word (m := ⟨0, 0⟩) (meth := k0m0) (c := k0c0) (by decide +kernel) rfl rfl rfl (by decide +kernel)
set_option maxRecDepth 65536 in
theorem w_c5 : (Jvm.Cond.code ({ cls := "com/example/layout_to_evidence/layouttoevidence/CellSpan", name := "equals", desc := "(Ljava/lang/Object;)Z" } : Jvm.MethodName) prog_6_method_6_code (3 : Nat) (Option.some Jvm.ClassFile.FieldType.boolean)).before args0 about1 = true := code_word (m := ⟨3, 1⟩) (meth := k3m1) (c := k3c1) (by decide +kernel) rfl rfl rfl (by decide +kernel)
set_option maxRecDepth 65536 in
theorem w_c6 : (Jvm.Cond.code ({ cls := "java/lang/Integer", name := "valueOf", desc := "(I)Ljava/lang/Integer;" } : Jvm.MethodName) jdk_33_method_22_code (1 : Nat) (Option.some (Jvm.ClassFile.FieldType.object "java/lang/Integer"))).before args0 about1 = true := code_word (m := ⟨9, 0⟩) (meth := k9m0) (c := k9c0) (by decide +kernel) rfl rfl rfl (by decide +kernel)
set_option maxRecDepth 65536 in
theorem w_c7 : (Jvm.Cond.code ({ cls := "java/lang/Integer", name := "<init>", desc := "(I)V" } : Jvm.MethodName) jdk_33_method_23_code (2 : Nat) (Option.none : Option Jvm.ClassFile.FieldType)).before args0 about1 = true := code_word (m := ⟨9, 1⟩) (meth := k9m1) (c := k9c1) (by decide +kernel) rfl rfl rfl (by decide +kernel)
set_option maxRecDepth 65536 in
theorem w_c8 : (Jvm.Cond.code ({ cls := "java/lang/Number", name := "<init>", desc := "()V" } : Jvm.MethodName) jdk_18_method_1_code (1 : Nat) (Option.none : Option Jvm.ClassFile.FieldType)).before args0 about1 = true := code_word (m := ⟨5, 0⟩) (meth := k5m0) (c := k5c0) (by decide +kernel) rfl rfl rfl (by decide +kernel)
def codes1 : List Jvm.Cond := [Jvm.Cond.code x code maxLocals ret, Jvm.Cond.code ({ cls := "com/example/layout_to_evidence/layouttoevidence/CellSpanEqualsPinLaw", name := "fix", desc := "([I)V" } : Jvm.MethodName) method_2_code (1 : Nat) (Option.none : Option Jvm.ClassFile.FieldType), Jvm.Cond.code ({ cls := "java/lang/Math", name := "max", desc := "(II)I" } : Jvm.MethodName) jdk_29_method_65_code (2 : Nat) (Option.some Jvm.ClassFile.FieldType.int), Jvm.Cond.code ({ cls := "com/example/layout_to_evidence/layouttoevidence/CellSpan", name := "<init>", desc := "(IIII)V" } : Jvm.MethodName) prog_6_method_1_code (5 : Nat) (Option.none : Option Jvm.ClassFile.FieldType), Jvm.Cond.code ({ cls := "java/lang/Object", name := "<init>", desc := "()V" } : Jvm.MethodName) object_method_1_code (1 : Nat) (Option.none : Option Jvm.ClassFile.FieldType), Jvm.Cond.code ({ cls := "com/example/layout_to_evidence/layouttoevidence/CellSpan", name := "equals", desc := "(Ljava/lang/Object;)Z" } : Jvm.MethodName) prog_6_method_6_code (3 : Nat) (Option.some Jvm.ClassFile.FieldType.boolean), Jvm.Cond.code ({ cls := "java/lang/Integer", name := "valueOf", desc := "(I)Ljava/lang/Integer;" } : Jvm.MethodName) jdk_33_method_22_code (1 : Nat) (Option.some (Jvm.ClassFile.FieldType.object "java/lang/Integer")), Jvm.Cond.code ({ cls := "java/lang/Integer", name := "<init>", desc := "(I)V" } : Jvm.MethodName) jdk_33_method_23_code (2 : Nat) (Option.none : Option Jvm.ClassFile.FieldType), Jvm.Cond.code ({ cls := "java/lang/Number", name := "<init>", desc := "()V" } : Jvm.MethodName) jdk_18_method_1_code (1 : Nat) (Option.none : Option Jvm.ClassFile.FieldType)]
set_option maxRecDepth 65536 in
theorem codes_eq : words1.filter isCode = codes1 := rfl
theorem w_codes : ∀ c ∈ words1.filter isCode, c.before args0 about1 = true := by
  rw [codes_eq]
  intro c hc
  simp only [codes1, List.mem_cons, List.not_mem_nil, or_false] at hc
  rcases hc with rfl | rfl | rfl | rfl | rfl | rfl | rfl | rfl | rfl
  · exact w_c0
  · exact w_c1
  · exact w_c2
  · exact w_c3
  · exact w_c4
  · exact w_c5
  · exact w_c6
  · exact w_c7
  · exact w_c8
set_option maxRecDepth 65536 in
theorem w_t1 : (words1.take 24).all (fun c => isCode c || c.before args0 about1) = true := by decide +kernel
set_option maxRecDepth 65536 in
theorem w_t2 : ((words1.drop 24).take 24).all (fun c => isCode c || c.before args0 about1) = true := by decide +kernel
set_option maxRecDepth 65536 in
theorem w_t3 : ((words1.drop 24).drop 24).all (fun c => isCode c || c.before args0 about1) = true := by decide +kernel
theorem w_tables : (allAtoms (Jvm.Cond.code x code maxLocals ret :: tables_1)).before args0 about1 = true := by
  rw [allAtoms_all]
  show words1.all (fun c => c.before args0 about1) = true
  refine all_split ?_ w_codes
  rw [← List.take_append_drop 24 words1, List.all_append, w_t1, ← List.take_append_drop 24 (words1.drop 24), List.all_append, w_t2, w_t3]
  rfl
set_option maxRecDepth 65536 in
theorem w_rest : rest_1_c.before args0 about1 = true := by decide +kernel
set_option maxRecDepth 65536 in
theorem w_case : (Jvm.Cond.and given_1 narrow_1).before args0 about1 = true := by decide +kernel
theorem w_applies : (headSpec (Jvm.Cond.code x code maxLocals ret :: tables_1) room_1).applies x e0.platform about1 = true :=
  (Spec.applies_iff w_frames).mpr ⟨w_running, w_runnable, w_alone, w_named, w_hears, w_ripe, w_room, w_tables⟩
theorem atStart : AtStart classFile x code maxLocals ret World_1 tables_1 room_1 Calls_1 rest_1 Pre_1 launch0 p0 e0 about1 theMethod args0 below0 :=
  ⟨lists_1, trivial, launch0.admits_env _ _ _, launch0.least_env, fairChoices_fair.cas, fairChoices_fair.clock, w_frames, w_args, w_heap, w_applies, trivial, w_rest, w_case⟩
end start1
theorem witness_1 : WitnessClaimed_1 := ⟨start1.p0, start1.e0, start1.about1, start1.theMethod, start1.args0, start1.below0, start1.atStart⟩
end Jvm.Pilot.@@N@@
