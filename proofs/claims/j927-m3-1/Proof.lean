import JvmDerived
import JvmDerived.Pilot.@@N@@Statement
import JvmDerived.Pilot.@@N@@Code
set_option linter.unusedVariables false
set_option linter.unusedSimpArgs false
namespace Jvm.Pilot.@@N@@
open Jvm Jvm.ClassFile Sem Op Lib Jvm.Free Jvm.Stand Jvm.LawKit Jvm.RoadKit Bundle Jvm.Pilot.@@N@@.Jvm.D

section Own
variable {p : Program} {l : Launch} {e : Env} {R : Room} {s : State} {m : MethodId} {args : Array Value} {below : List Frame} {meth : Method} {c : Code} {T : State} {locs : List Loc} {cells slots : Nat} {Qo : Option Value → Heap → List Loc → Prop} {C N : Nat}
/-- the run goes on from U to a return that answers Qo -/
def own_Done (p : Program) (e : Env) (below : List Frame) (s : State) (Qo : Option Value → Heap → List Loc → Prop) (C N : Nat) (U : State) : Prop :=
  ∃ s₂ o, Steps p.tables e below U s₂ ∧ s₂.status = .running ∧ Ended s₂ below o ∧ (∃ v L, o = .returned v ∧ Qo v s₂.heap L ∧ FrameEnd s o s₂ L C N)
theorem own_go {U U' : State} (h : ∀ t, Steps p.tables e below U' t → Steps p.tables e below U t) (d : own_Done p e below s Qo C N U') : own_Done p e below s Qo C N U := by
  obtain ⟨s₂, o, h1, h2⟩ := d
  exact ⟨s₂, o, h _ h1, h2⟩
theorem own_join {U U' : State} (h : own_Done p e below s Qo C N U' → own_Done p e below s Qo C N U) (d : own_Done p e below s Qo C N U') : own_Done p e below s Qo C N U := h d
theorem own_sta_keep {Z : State} {h h' : Heap} {C n d : String} {v : Value} (F : Sta Z h C n d v) (K : Keep h h' []) : Sta Z h' C n d v := by
  obtain ⟨cf, i, k, f, st, cell, h1, h2, h3, h4, h5, r⟩ := F
  exact ⟨cf, i, k, f, st, cell, h1, h2, h3, h4, K.2.1 st cell h5 (fun q => nomatch q), r⟩
theorem own_at {c : Cell} {z j : Int32} {vs : List Value} {d v : Value} {i : Nat} (S : c.slots.size = z.toNatClampNeg) (H : Has c vs d) (q : ¬ j < 0 ∧ j < z) (hj : j.toNatClampNeg = i) (hv : vs.getD i d = v) : c.slots[j.toNatClampNeg]? = some v := by
  have h := inb_of S q
  rw [H _ (Nat.lt_of_not_le fun k => h (Or.inr k)), hj, hv]
/-- an array of ints, bytes, chars .. by what its places hold -/
def own_Arf (Z : State) (h : Heap) (a : Addr) (k : ClassId) (ty : FieldType) (n : Int32) (f : Int32 → Int32) : Prop :=
  ∃ c : Cell, Arr Z h a c ty ∧ c.cls = k ∧ c.slots.size = n.toNatClampNeg ∧ ¬ n < 0 ∧ ∀ j : Int32, ¬ j < 0 → j < n → c.slots[j.toNatClampNeg]? = some (.int (f j))
section Arf
variable {Z : State} {h h' : Heap} {a b : Addr} {k : ClassId} {ty : FieldType} {n : Int32} {f : Int32 → Int32}
theorem own_Arf.lt (F : own_Arf Z h a k ty n f) : a < h.size := by obtain ⟨c, A, -⟩ := F; exact A.lt
theorem own_Arf.ext (F : own_Arf Z h a k ty n f) (E : Ext h h') : own_Arf Z h' a k ty n f := by obtain ⟨c, A, r⟩ := F; exact ⟨c, A.ext E, r⟩
theorem own_Arf.other {sl : Nat} {v : Value} (F : own_Arf Z h b k ty n f) (W : Wr h h' a sl v) (q : b ≠ a) : own_Arf Z h' b k ty n f := by obtain ⟨c, A, r⟩ := F; exact ⟨c, A.other W q, r⟩
theorem own_Arf.keep {ws : List Addr} (F : own_Arf Z h a k ty n f) (K : Keep h h' ws) (q : a ∉ ws) : own_Arf Z h' a k ty n f := by obtain ⟨c, A, r⟩ := F; exact ⟨c, ⟨K.2.1 a c A.1 q, A.2⟩, r⟩
theorem own_Arf.new (A : Arr Z h a (newA k ty n) ty) (q : ¬ n < 0) (hd : defaultValue ty = .int 0) : own_Arf Z h a k ty n (fun _ => (0 : Int32)) :=
  ⟨_, A, rfl, sz_new _ _ _, q, fun j h1 h2 => by
    have h3 := inb_of (sz_new k ty n) (z := n) (j := j) ⟨h1, h2⟩
    rw [sz_new] at h3
    rw [get_new h3, hd]⟩
theorem own_Arf.set {c : Cell} {j v : Int32} (A : Arr Z h a c ty) (q1 : c.cls = k) (S : c.slots.size = n.toNatClampNeg) (q3 : ¬ n < 0) (H : ∀ j : Int32, ¬ j < 0 → j < n → c.slots[j.toNatClampNeg]? = some (.int (f j))) (hj : ¬ j < 0 ∧ j < n) (W : Wr h h' a j.toNatClampNeg (.int v)) :
    own_Arf Z h' a k ty n (fun i => if i = j then v else f i) :=
  ⟨c.setSlot j.toNatClampNeg (.int v), A.same W, q1, by rw [sz_set]; exact S, q3, fun i h1 h2 => by
    by_cases e : i = j
    · rw [get_hit (inb_of S hj) e]; simp only [if_pos e]
    · rw [get_miss hj.1 h1 e, H i h1 h2]; simp only [if_neg e]⟩
end Arf
theorem own_ret (X : Stand p l e R s m args below meth c T locs cells slots) {v : Option Value} {g : JFrame} (hlk : meth.locks = false) (hv : meth.sig.returnType = none → v = none) (hC : cells ≤ C) (hN : slots ≤ N)
    (st : ∀ fs, (∀ (f : JFrame) (acts : List Action), f.method = m → f.locked = none → f.entered = [] → (doReturn e (T.setTop f) acts v).1 = T.setFrames fs) → Steps p.tables e below (T.setTop g) (T.setFrames fs)) (hQ : Qo v T.heap locs) : own_Done p e below s Qo C N (T.setTop g) := by
  obtain ⟨fs, hr, hrun, hended, hW, hsame⟩ := X.leave (v := v) hv hlk
  exact ⟨_, _, st fs hr, hrun, hended, _, _, rfl, hQ, ⟨_, rfl⟩, hW, hsame.mono hC hN⟩
theorem own_retI (X : Stand p l e R s m args below meth c T locs cells slots) (hx : p.tables.exec = Jvm.exec) {pc : Nat} {Ls : Array Slot} {z : Int32} {rest : List Value} (hret : meth.sig.returnType = some .int) (hd : decode c.code pc = .ok (.ireturn, 1)) {fs : List Frame}
    (hl : ∀ (f : JFrame) (acts : List Action), f.method = m → f.locked = none → f.entered = [] → (doReturn e (T.setTop f) acts (some (.int z))).1 = T.setFrames fs) : Steps p.tables e below (T.setTop (mkF m pc Ls (.int z :: rest))) (T.setFrames fs) := by
  exact retOut X hx hret rfl (Or.inl ⟨rfl, Or.inl rfl, z, rfl⟩) hd hl
theorem own_retJ (X : Stand p l e R s m args below meth c T locs cells slots) (hx : p.tables.exec = Jvm.exec) {pc : Nat} {Ls : Array Slot} {z : Int64} {rest : List Value} (hret : meth.sig.returnType = some .long) (hd : decode c.code pc = .ok (.lreturn, 1)) {fs : List Frame}
    (hl : ∀ (f : JFrame) (acts : List Action), f.method = m → f.locked = none → f.entered = [] → (doReturn e (T.setTop f) acts (some (.long z))).1 = T.setFrames fs) : Steps p.tables e below (T.setTop (mkF m pc Ls (.long z :: rest))) (T.setFrames fs) := by
  exact retOut X hx hret rfl (Or.inr (Or.inl ⟨rfl, rfl, z, rfl⟩)) hd hl
theorem own_retR (X : Stand p l e R s m args below meth c T locs cells slots) (hx : p.tables.exec = Jvm.exec) {pc : Nat} {Ls : Array Slot} {w : Value} {t : FieldType} {rest : List Value} (hret : meth.sig.returnType = some t) (ht : t.isReference = true) (hw : w.isRef = true) (hn : narrow t w = w) (hd : decode c.code pc = .ok (.areturn, 1)) {fs : List Frame}
    (hl : ∀ (f : JFrame) (acts : List Action), f.method = m → f.locked = none → f.entered = [] → (doReturn e (T.setTop f) acts (some w)).1 = T.setFrames fs) : Steps p.tables e below (T.setTop (mkF m pc Ls (w :: rest))) (T.setFrames fs) := by
  exact retOut X hx hret hn (Or.inr (Or.inr (Or.inr (Or.inr ⟨rfl, ht, hw⟩)))) hd hl
/-- the same where Strings may be interned meanwhile -/
def own_DoneW (p : Program) (e : Env) (below : List Frame) (s : State) (Z : State) (EL : List (String × Nat)) (Qo : Option Value → Heap → List Loc → Prop) (C N : Nat) (U : State) : Prop :=
  ∃ s₂ o, Steps p.tables e below U s₂ ∧ s₂.status = .running ∧ Ended s₂ below o ∧ (∃ v L, o = .returned v ∧ Qo v s₂.heap L ∧ CHr Z EL s.vm s.heap s₂.vm s₂.heap ∧ ReturnedEndW s o s₂ L C N)
theorem own_goW {Z : State} {EL : List (String × Nat)} {U U' : State} (h : ∀ t, Steps p.tables e below U' t → Steps p.tables e below U t) (d : own_DoneW p e below s Z EL Qo C N U') : own_DoneW p e below s Z EL Qo C N U := by
  obtain ⟨s₂, o, h1, h2⟩ := d
  exact ⟨s₂, o, h _ h1, h2⟩
theorem own_joinW {Z : State} {EL : List (String × Nat)} {U U' : State} (h : own_DoneW p e below s Z EL Qo C N U' → own_DoneW p e below s Z EL Qo C N U) (d : own_DoneW p e below s Z EL Qo C N U') : own_DoneW p e below s Z EL Qo C N U := h d
theorem own_retW {Z : State} {EL : List (String × Nat)} {vm₁ : Vm} (X : Stand p l e R (s.setVm vm₁) m args below meth c T locs cells slots) {n : Nat} (hS : s.Since vm₁ n) (hn : n ≤ T.heap.size) (hC : CHr Z EL s.vm s.heap T.vm T.heap) {v : Option Value} {g : JFrame} (hlk : meth.locks = false) (hv : meth.sig.returnType = none → v = none) (hCc : cells ≤ C) (hN : slots ≤ N)
    (st : ∀ fs, (∀ (f : JFrame) (acts : List Action), f.method = m → f.locked = none → f.entered = [] → (doReturn e (T.setTop f) acts v).1 = T.setFrames fs) → Steps p.tables e below (T.setTop g) (T.setFrames fs)) (hQ : Qo v T.heap locs) : own_DoneW p e below s Z EL Qo C N (T.setTop g) := by
  obtain ⟨fs, hr, hrun, hended, hE⟩ := X.leaveW hS hn (v := v) hv hlk
  exact ⟨_, _, st fs hr, hrun, hended, _, _, rfl, hQ, hC, hE.1, hE.2.1, hE.2.2.1, hE.2.2.2.mono hCc hN⟩
end Own

theorem d1_0 : decode method_3_code 0 = .ok (.iload_n 0, 1) := by decide +kernel
theorem d1_1 : decode method_3_code 1 = .ok (.ifCond .eq 8, 3) := by decide +kernel
theorem d1_9 : decode method_3_code 9 = .ok (.iconst 1, 1) := by decide +kernel
theorem d1_10 : decode method_3_code 10 = .ok (.goto 4, 3) := by decide +kernel
theorem d1_14 : decode method_3_code 14 = .ok (.ireturn, 1) := by decide +kernel
theorem d1_4 : decode method_3_code 4 = .ok (.iload_n 0, 1) := by decide +kernel
theorem d1_5 : decode method_3_code 5 = .ok (.iconst 3, 1) := by decide +kernel
theorem d1_6 : decode method_3_code 6 = .ok (.if_icmp .ne 7, 3) := by decide +kernel
theorem d1_13 : decode method_3_code 13 = .ok (.iconst 0, 1) := by decide +kernel
theorem own_pn0 : plainName "com/example/tracewarden/tracewarden/net/OrderIsKeptByPinLaw" = true := by first | (simp [plainName, overriddenIn]; done) | decide +kernel
theorem own_ef1 (m : MethodId) (x0 : Int32) : entryFrame m #[(.int x0)] 1 = mkF m 0 #[.val (.int x0)] [] := by first | (simp [entryFrame, mkF, argsToLocals, Value.category]; done) | rfl
def f_1 (p0 : Int32) : Int32 := (if p0 = (0 : Int32) then (1 : Int32) else (if p0 = (3 : Int32) then (1 : Int32) else (0 : Int32)))
def Q1 (Z : State) (p0 : Int32) (h0 : Heap) (n0 : Nat) (v : Option Value) (h : Heap) (L : List Loc) : Prop := v = some (.int (f_1 p0)) ∧ Fr n0 L ∧ h = h0
set_option maxRecDepth 65536 in
set_option maxHeartbeats 40000000 in
theorem rm1 (l : Launch) (Z : State) (aw : Array Value) (hw : ∀ d ∈ tables_1, d.before aw Z = true) (ws : List Jvm.Cond) (p0 : Int32) (h0 : Heap) (n0 : Nat) (Z0 : n0 ≤ h0.size) :
    MetFree l (⟨"com/example/tracewarden/tracewarden/net/OrderIsKeptByPinLaw", "firstBefore", "(I)Z"⟩ : MethodName) (head1 (Jvm.Cond.code (⟨"com/example/tracewarden/tracewarden/net/OrderIsKeptByPinLaw", "firstBefore", "(I)Z"⟩ : MethodName) method_3_code 1 (some .boolean) :: ws) ({ frames := 0, cells := 0, slots := 0, locals := 0 } : Room)) (fun a U => a = #[(.int p0)] ∧ Z.Warmed39 U.vm ∧ U.heap = h0) (fun _ _ _ _ _ => True) (fun _ U o U' => ∃ v L, o = .returned v ∧ (Q1 Z p0 h0 n0) v U'.heap L ∧ FrameEnd U o U' L ({ frames := 0, cells := 0, slots := 0, locals := 0 } : Room).cells ({ frames := 0, cells := 0, slots := 0, locals := 0 } : Room).slots) := by
  refine MetFree.of_bodySF (plainFor_of_name own_pn0) hisR ?_
  intro p e s m args below meth c s₁ Bd hml0 hP hK
  obtain ⟨rfl, hZ, hh⟩ := hP
  have hx := Bd.exec
  have hby := Bd.bytes
  have hml : c.maxLocals = 1 := hml0
  have hown : s.vm.findClass "com/example/tracewarden/tracewarden/net/OrderIsKeptByPinLaw" = some m.cls := findClass_of_methodNamed Bd.named
  have hnm := (name_of_methodNamed Bd.named Bd.method).1
  have hlk : meth.locks = false := BodyLoose.notSynchronized (by assumption)
  have X0 : Stand p l e ({ frames := 0, cells := 0, slots := 0, locals := 0 } : Room) s m #[(.int p0)] below meth c s₁ [] 0 0 := Stand.of_body Bd
  have e0 : s₁.heap = h0 := by rw [← hh, Bd.state]; rfl
  have N0 := Fr.nil n0
  show own_Done p e below s (Q1 Z p0 h0 n0) ({ frames := 0, cells := 0, slots := 0, locals := 0 } : Room).cells ({ frames := 0, cells := 0, slots := 0, locals := 0 } : Room).slots (s₁.setTop (entryFrame m #[(.int p0)] 1))
  refine own_go (U' := s₁.setTop (mkF m 0 #[.val (.int p0)] [])) (fun _ k => castTop (own_ef1 m p0) k) ?_
  refine own_go (U' := s₁.setTop (mkF m 1 #[.val (.int p0)] [(.int p0)])) (fun _ k => XS.iloadN X0.here hx rfl (hb hby d1_0) rfl k) ?_
  by_cases hc1_1 : p0 = (0 : Int32)
  · refine own_go (U' := s₁.setTop (mkF m 9 #[.val (.int p0)] [])) (fun _ k => XS.ifYes X0.here hx rfl (pc0 := 1) (pc' := 9) rfl (hb hby d1_1) rfl ((if0 _ _).trans (teq hc1_1).1) (by decide) (by decide) k) ?_
    refine own_go (U' := s₁.setTop (mkF m 10 #[.val (.int p0)] [(.int (1 : Int32))])) (fun _ k => XS.iconst X0.here hx rfl (hb hby d1_9) k) ?_
    refine own_go (U' := s₁.setTop (mkF m 14 #[.val (.int p0)] [(.int (1 : Int32))])) (fun _ k => XS.goto X0.here hx rfl (pc0 := 10) (pc' := 14) rfl (hb hby d1_10) (by decide) (by decide) k) ?_
    refine own_ret X0 (v := (some (.int (1 : Int32)))) hlk (fun h => by rw [Bd.returns] at h; cases h) (by decide) (by decide) (fun fs hr => retN X0 hx (t := .boolean) Bd.returns (by simp) (hb hby d1_14) hr) ?_
    show (Q1 Z p0 h0 n0) _ s₁.heap _
    rw [e0]
    exact ⟨by first | (simp only [f_1, if_pos hc1_1]; done) | rfl | (simp [f_1, if_pos hc1_1]; done), N0, rfl⟩
  · refine own_go (U' := s₁.setTop (mkF m 4 #[.val (.int p0)] [])) (fun _ k => XS.ifNo X0.here hx rfl (hb hby d1_1) rfl ((if0 _ _).trans (feq hc1_1).1) k) ?_
    refine own_go (U' := s₁.setTop (mkF m 5 #[.val (.int p0)] [(.int p0)])) (fun _ k => XS.iloadN X0.here hx rfl (hb hby d1_4) rfl k) ?_
    refine own_go (U' := s₁.setTop (mkF m 6 #[.val (.int p0)] [(.int (3 : Int32)), (.int p0)])) (fun _ k => XS.iconst X0.here hx rfl (hb hby d1_5) k) ?_
    by_cases hc6_2 : p0 = (3 : Int32)
    · refine own_go (U' := s₁.setTop (mkF m 9 #[.val (.int p0)] [])) (fun _ k => XS.icmpNo X0.here hx rfl (hb hby d1_6) rfl (teq hc6_2).2 k) ?_
      refine own_go (U' := s₁.setTop (mkF m 10 #[.val (.int p0)] [(.int (1 : Int32))])) (fun _ k => XS.iconst X0.here hx rfl (hb hby d1_9) k) ?_
      refine own_go (U' := s₁.setTop (mkF m 14 #[.val (.int p0)] [(.int (1 : Int32))])) (fun _ k => XS.goto X0.here hx rfl (pc0 := 10) (pc' := 14) rfl (hb hby d1_10) (by decide) (by decide) k) ?_
      refine own_ret X0 (v := (some (.int (1 : Int32)))) hlk (fun h => by rw [Bd.returns] at h; cases h) (by decide) (by decide) (fun fs hr => retN X0 hx (t := .boolean) Bd.returns (by simp) (hb hby d1_14) hr) ?_
      show (Q1 Z p0 h0 n0) _ s₁.heap _
      rw [e0]
      exact ⟨by first | (simp only [f_1, if_neg hc1_1, if_pos hc6_2]; done) | rfl | (simp [f_1, if_neg hc1_1, if_pos hc6_2]; done), N0, rfl⟩
    · refine own_go (U' := s₁.setTop (mkF m 13 #[.val (.int p0)] [])) (fun _ k => XS.icmpYes X0.here hx rfl (pc0 := 6) (pc' := 13) rfl (hb hby d1_6) rfl (feq hc6_2).2 (by decide) (by decide) k) ?_
      refine own_go (U' := s₁.setTop (mkF m 14 #[.val (.int p0)] [(.int (0 : Int32))])) (fun _ k => XS.iconst X0.here hx rfl (hb hby d1_13) k) ?_
      refine own_ret X0 (v := (some (.int (0 : Int32)))) hlk (fun h => by rw [Bd.returns] at h; cases h) (by decide) (by decide) (fun fs hr => retN X0 hx (t := .boolean) Bd.returns (by simp) (hb hby d1_14) hr) ?_
      show (Q1 Z p0 h0 n0) _ s₁.heap _
      rw [e0]
      exact ⟨by first | (simp only [f_1, if_neg hc1_1, if_neg hc6_2]; done) | rfl | (simp [f_1, if_neg hc1_1, if_neg hc6_2]; done), N0, rfl⟩
theorem d2_0 : decode method_4_code 0 = .ok (.iload_n 0, 1) := by decide +kernel
theorem d2_1 : decode method_4_code 1 = .ok (.iconst 1, 1) := by decide +kernel
theorem d2_2 : decode method_4_code 2 = .ok (.if_icmp .eq 8, 3) := by decide +kernel
theorem d2_10 : decode method_4_code 10 = .ok (.iconst 1, 1) := by decide +kernel
theorem d2_11 : decode method_4_code 11 = .ok (.goto 4, 3) := by decide +kernel
theorem d2_15 : decode method_4_code 15 = .ok (.ireturn, 1) := by decide +kernel
theorem d2_5 : decode method_4_code 5 = .ok (.iload_n 0, 1) := by decide +kernel
theorem d2_6 : decode method_4_code 6 = .ok (.iconst 3, 1) := by decide +kernel
theorem d2_7 : decode method_4_code 7 = .ok (.if_icmp .ne 7, 3) := by decide +kernel
theorem d2_14 : decode method_4_code 14 = .ok (.iconst 0, 1) := by decide +kernel
theorem own_ef2 (m : MethodId) (x0 : Int32) : entryFrame m #[(.int x0)] 1 = mkF m 0 #[.val (.int x0)] [] := by first | (simp [entryFrame, mkF, argsToLocals, Value.category]; done) | rfl
def f_2 (p0 : Int32) : Int32 := (if p0 = (1 : Int32) then (1 : Int32) else (if p0 = (3 : Int32) then (1 : Int32) else (0 : Int32)))
def Q2 (Z : State) (p0 : Int32) (h0 : Heap) (n0 : Nat) (v : Option Value) (h : Heap) (L : List Loc) : Prop := v = some (.int (f_2 p0)) ∧ Fr n0 L ∧ h = h0
set_option maxRecDepth 65536 in
set_option maxHeartbeats 40000000 in
theorem rm2 (l : Launch) (Z : State) (aw : Array Value) (hw : ∀ d ∈ tables_1, d.before aw Z = true) (ws : List Jvm.Cond) (p0 : Int32) (h0 : Heap) (n0 : Nat) (Z0 : n0 ≤ h0.size) :
    MetFree l (⟨"com/example/tracewarden/tracewarden/net/OrderIsKeptByPinLaw", "secondBefore", "(I)Z"⟩ : MethodName) (head1 (Jvm.Cond.code (⟨"com/example/tracewarden/tracewarden/net/OrderIsKeptByPinLaw", "secondBefore", "(I)Z"⟩ : MethodName) method_4_code 1 (some .boolean) :: ws) ({ frames := 0, cells := 0, slots := 0, locals := 0 } : Room)) (fun a U => a = #[(.int p0)] ∧ Z.Warmed39 U.vm ∧ U.heap = h0) (fun _ _ _ _ _ => True) (fun _ U o U' => ∃ v L, o = .returned v ∧ (Q2 Z p0 h0 n0) v U'.heap L ∧ FrameEnd U o U' L ({ frames := 0, cells := 0, slots := 0, locals := 0 } : Room).cells ({ frames := 0, cells := 0, slots := 0, locals := 0 } : Room).slots) := by
  refine MetFree.of_bodySF (plainFor_of_name own_pn0) hisR ?_
  intro p e s m args below meth c s₁ Bd hml0 hP hK
  obtain ⟨rfl, hZ, hh⟩ := hP
  have hx := Bd.exec
  have hby := Bd.bytes
  have hml : c.maxLocals = 1 := hml0
  have hown : s.vm.findClass "com/example/tracewarden/tracewarden/net/OrderIsKeptByPinLaw" = some m.cls := findClass_of_methodNamed Bd.named
  have hnm := (name_of_methodNamed Bd.named Bd.method).1
  have hlk : meth.locks = false := BodyLoose.notSynchronized (by assumption)
  have X0 : Stand p l e ({ frames := 0, cells := 0, slots := 0, locals := 0 } : Room) s m #[(.int p0)] below meth c s₁ [] 0 0 := Stand.of_body Bd
  have e0 : s₁.heap = h0 := by rw [← hh, Bd.state]; rfl
  have N0 := Fr.nil n0
  show own_Done p e below s (Q2 Z p0 h0 n0) ({ frames := 0, cells := 0, slots := 0, locals := 0 } : Room).cells ({ frames := 0, cells := 0, slots := 0, locals := 0 } : Room).slots (s₁.setTop (entryFrame m #[(.int p0)] 1))
  refine own_go (U' := s₁.setTop (mkF m 0 #[.val (.int p0)] [])) (fun _ k => castTop (own_ef2 m p0) k) ?_
  refine own_go (U' := s₁.setTop (mkF m 1 #[.val (.int p0)] [(.int p0)])) (fun _ k => XS.iloadN X0.here hx rfl (hb hby d2_0) rfl k) ?_
  refine own_go (U' := s₁.setTop (mkF m 2 #[.val (.int p0)] [(.int (1 : Int32)), (.int p0)])) (fun _ k => XS.iconst X0.here hx rfl (hb hby d2_1) k) ?_
  by_cases hc2_3 : p0 = (1 : Int32)
  · refine own_go (U' := s₁.setTop (mkF m 10 #[.val (.int p0)] [])) (fun _ k => XS.icmpYes X0.here hx rfl (pc0 := 2) (pc' := 10) rfl (hb hby d2_2) rfl (teq hc2_3).1 (by decide) (by decide) k) ?_
    refine own_go (U' := s₁.setTop (mkF m 11 #[.val (.int p0)] [(.int (1 : Int32))])) (fun _ k => XS.iconst X0.here hx rfl (hb hby d2_10) k) ?_
    refine own_go (U' := s₁.setTop (mkF m 15 #[.val (.int p0)] [(.int (1 : Int32))])) (fun _ k => XS.goto X0.here hx rfl (pc0 := 11) (pc' := 15) rfl (hb hby d2_11) (by decide) (by decide) k) ?_
    refine own_ret X0 (v := (some (.int (1 : Int32)))) hlk (fun h => by rw [Bd.returns] at h; cases h) (by decide) (by decide) (fun fs hr => retN X0 hx (t := .boolean) Bd.returns (by simp) (hb hby d2_15) hr) ?_
    show (Q2 Z p0 h0 n0) _ s₁.heap _
    rw [e0]
    exact ⟨by first | (simp only [f_2, if_pos hc2_3]; done) | rfl | (simp [f_2, if_pos hc2_3]; done), N0, rfl⟩
  · refine own_go (U' := s₁.setTop (mkF m 5 #[.val (.int p0)] [])) (fun _ k => XS.icmpNo X0.here hx rfl (hb hby d2_2) rfl (feq hc2_3).1 k) ?_
    refine own_go (U' := s₁.setTop (mkF m 6 #[.val (.int p0)] [(.int p0)])) (fun _ k => XS.iloadN X0.here hx rfl (hb hby d2_5) rfl k) ?_
    refine own_go (U' := s₁.setTop (mkF m 7 #[.val (.int p0)] [(.int (3 : Int32)), (.int p0)])) (fun _ k => XS.iconst X0.here hx rfl (hb hby d2_6) k) ?_
    by_cases hc7_4 : p0 = (3 : Int32)
    · refine own_go (U' := s₁.setTop (mkF m 10 #[.val (.int p0)] [])) (fun _ k => XS.icmpNo X0.here hx rfl (hb hby d2_7) rfl (teq hc7_4).2 k) ?_
      refine own_go (U' := s₁.setTop (mkF m 11 #[.val (.int p0)] [(.int (1 : Int32))])) (fun _ k => XS.iconst X0.here hx rfl (hb hby d2_10) k) ?_
      refine own_go (U' := s₁.setTop (mkF m 15 #[.val (.int p0)] [(.int (1 : Int32))])) (fun _ k => XS.goto X0.here hx rfl (pc0 := 11) (pc' := 15) rfl (hb hby d2_11) (by decide) (by decide) k) ?_
      refine own_ret X0 (v := (some (.int (1 : Int32)))) hlk (fun h => by rw [Bd.returns] at h; cases h) (by decide) (by decide) (fun fs hr => retN X0 hx (t := .boolean) Bd.returns (by simp) (hb hby d2_15) hr) ?_
      show (Q2 Z p0 h0 n0) _ s₁.heap _
      rw [e0]
      exact ⟨by first | (simp only [f_2, if_neg hc2_3, if_pos hc7_4]; done) | rfl | (simp [f_2, if_neg hc2_3, if_pos hc7_4]; done), N0, rfl⟩
    · refine own_go (U' := s₁.setTop (mkF m 14 #[.val (.int p0)] [])) (fun _ k => XS.icmpYes X0.here hx rfl (pc0 := 7) (pc' := 14) rfl (hb hby d2_7) rfl (feq hc7_4).2 (by decide) (by decide) k) ?_
      refine own_go (U' := s₁.setTop (mkF m 15 #[.val (.int p0)] [(.int (0 : Int32))])) (fun _ k => XS.iconst X0.here hx rfl (hb hby d2_14) k) ?_
      refine own_ret X0 (v := (some (.int (0 : Int32)))) hlk (fun h => by rw [Bd.returns] at h; cases h) (by decide) (by decide) (fun fs hr => retN X0 hx (t := .boolean) Bd.returns (by simp) (hb hby d2_15) hr) ?_
      show (Q2 Z p0 h0 n0) _ s₁.heap _
      rw [e0]
      exact ⟨by first | (simp only [f_2, if_neg hc2_3, if_neg hc7_4]; done) | rfl | (simp [f_2, if_neg hc2_3, if_neg hc7_4]; done), N0, rfl⟩

theorem own_ord {args : Array Value} {s : State} {t : Term} {C n d : String} {a : Addr} {k : Int32} (ht : t.eval args s none [] s = some (.ref a)) (h : (Cond.eq (.field t C n d) (.int k)).value args s none s [] = some true) : s.fieldOf? a C n d = some (.int k) := by
  have e : (Term.field t C n d).eval args s none [] s = s.fieldOf? a C n d := fld_at ht
  simp only [Cond.value, e, Term.int_eval] at h
  cases hv : s.fieldOf? a C n d with
  | none => rw [hv] at h; simp at h
  | some v =>
    rw [hv] at h
    cases v <;> simp at h
    rw [h]
theorem own_apart {s : State} {C n d : String} {a b : Addr} {k k' : Int32} (h1 : s.fieldOf? a C n d = some (.int k)) (h2 : s.fieldOf? b C n d = some (.int k')) (hk : k ≠ k') : a ≠ b := fun q => by
  rw [q, h2] at h1
  exact hk (Value.int.inj (Option.some.inj h1)).symm

theorem d3_0 : decode method_2_code 0 = .ok (.iload_n 0, 1) := by decide +kernel
theorem d3_1 : decode method_2_code 1 = .ok (.ifCond .ne 7, 3) := by decide +kernel
theorem d3_4 : decode method_2_code 4 = .ok (.getstatic 7, 3) := by decide +kernel
theorem d3_7 : decode method_2_code 7 = .ok (.areturn, 1) := by decide +kernel
theorem d3_8 : decode method_2_code 8 = .ok (.iload_n 0, 1) := by decide +kernel
theorem d3_9 : decode method_2_code 9 = .ok (.iconst 1, 1) := by decide +kernel
theorem d3_10 : decode method_2_code 10 = .ok (.if_icmp .ne 7, 3) := by decide +kernel
theorem d3_13 : decode method_2_code 13 = .ok (.getstatic 13, 3) := by decide +kernel
theorem d3_16 : decode method_2_code 16 = .ok (.areturn, 1) := by decide +kernel
theorem d3_17 : decode method_2_code 17 = .ok (.iload_n 0, 1) := by decide +kernel
theorem d3_18 : decode method_2_code 18 = .ok (.iconst 2, 1) := by decide +kernel
theorem d3_19 : decode method_2_code 19 = .ok (.if_icmp .ne 7, 3) := by decide +kernel
theorem d3_22 : decode method_2_code 22 = .ok (.getstatic 16, 3) := by decide +kernel
theorem d3_25 : decode method_2_code 25 = .ok (.areturn, 1) := by decide +kernel
theorem d3_26 : decode method_2_code 26 = .ok (.getstatic 19, 3) := by decide +kernel
theorem d3_29 : decode method_2_code 29 = .ok (.areturn, 1) := by decide +kernel
theorem own_ef3 (m : MethodId) (x0 : Int32) : entryFrame m #[(.int x0)] 1 = mkF m 0 #[.val (.int x0)] [] := by first | (simp [entryFrame, mkF, argsToLocals, Value.category]; done) | rfl
def f_3 (p0 : Int32) (wS : Addr) (wR : Addr) (wE : Addr) (wI : Addr) : Addr := (if p0 = (0 : Int32) then wS else (if p0 = (1 : Int32) then wR else (if p0 = (2 : Int32) then wE else wI)))
def Q3 (Z : State) (p0 : Int32) (wS : Addr) (wR : Addr) (wE : Addr) (wI : Addr) (h0 : Heap) (n0 : Nat) (v : Option Value) (h : Heap) (L : List Loc) : Prop := v = some (.ref (f_3 p0 wS wR wE wI)) ∧ Fr n0 L ∧ h = h0
set_option maxRecDepth 65536 in
set_option maxHeartbeats 40000000 in
theorem rm3 (l : Launch) (Z : State) (aw : Array Value) (hw : ∀ d ∈ tables_1, d.before aw Z = true) (ws : List Jvm.Cond) (p0 : Int32) (wS : Addr) (wR : Addr) (wE : Addr) (wI : Addr) (h0 : Heap) (n0 : Nat) (Z0 : n0 ≤ h0.size) (S_s : Sta Z h0 "com/example/tracewarden/tracewarden/net/Order" "STRICT" "Lcom/example/tracewarden/tracewarden/net/Order;" (.ref wS)) (S_r : Sta Z h0 "com/example/tracewarden/tracewarden/net/Order" "REVERSE_STRICT" "Lcom/example/tracewarden/tracewarden/net/Order;" (.ref wR)) (S_e : Sta Z h0 "com/example/tracewarden/tracewarden/net/Order" "EXCLUSIVE" "Lcom/example/tracewarden/tracewarden/net/Order;" (.ref wE)) (S_i : Sta Z h0 "com/example/tracewarden/tracewarden/net/Order" "INTERLEAVING" "Lcom/example/tracewarden/tracewarden/net/Order;" (.ref wI)) :
    MetFree l (⟨"com/example/tracewarden/tracewarden/net/OrderIsKeptByPinLaw", "pick", "(I)Lcom/example/tracewarden/tracewarden/net/Order;"⟩ : MethodName) (head1 (Jvm.Cond.code (⟨"com/example/tracewarden/tracewarden/net/OrderIsKeptByPinLaw", "pick", "(I)Lcom/example/tracewarden/tracewarden/net/Order;"⟩ : MethodName) method_2_code 1 (some (.object "com/example/tracewarden/tracewarden/net/Order")) :: ws) ({ frames := 0, cells := 0, slots := 0, locals := 0 } : Room)) (fun a U => a = #[(.int p0)] ∧ Z.Warmed39 U.vm ∧ U.heap = h0) (fun _ _ _ _ _ => True) (fun _ U o U' => ∃ v L, o = .returned v ∧ (Q3 Z p0 wS wR wE wI h0 n0) v U'.heap L ∧ FrameEnd U o U' L ({ frames := 0, cells := 0, slots := 0, locals := 0 } : Room).cells ({ frames := 0, cells := 0, slots := 0, locals := 0 } : Room).slots) := by
  refine MetFree.of_bodySF (plainFor_of_name own_pn0) hisR ?_
  intro p e s m args below meth c s₁ Bd hml0 hP hK
  obtain ⟨rfl, hZ, hh⟩ := hP
  have hx := Bd.exec
  have hby := Bd.bytes
  have hml : c.maxLocals = 1 := hml0
  have hown : s.vm.findClass "com/example/tracewarden/tracewarden/net/OrderIsKeptByPinLaw" = some m.cls := findClass_of_methodNamed Bd.named
  have hnm := (name_of_methodNamed Bd.named Bd.method).1
  have hlk : meth.locks = false := BodyLoose.notSynchronized (by assumption)
  have X0 : Stand p l e ({ frames := 0, cells := 0, slots := 0, locals := 0 } : Room) s m #[(.int p0)] below meth c s₁ [] 0 0 := Stand.of_body Bd
  have e0 : s₁.heap = h0 := by rw [← hh, Bd.state]; rfl
  have N0 := Fr.nil n0
  show own_Done p e below s (Q3 Z p0 wS wR wE wI h0 n0) ({ frames := 0, cells := 0, slots := 0, locals := 0 } : Room).cells ({ frames := 0, cells := 0, slots := 0, locals := 0 } : Room).slots (s₁.setTop (entryFrame m #[(.int p0)] 1))
  refine own_go (U' := s₁.setTop (mkF m 0 #[.val (.int p0)] [])) (fun _ k => castTop (own_ef3 m p0) k) ?_
  refine own_go (U' := s₁.setTop (mkF m 1 #[.val (.int p0)] [(.int p0)])) (fun _ k => XS.iloadN X0.here hx rfl (hb hby d3_0) rfl k) ?_
  by_cases hc1_5 : p0 = (0 : Int32)
  · refine own_go (U' := s₁.setTop (mkF m 4 #[.val (.int p0)] [])) (fun _ k => XS.ifNo X0.here hx rfl (hb hby d3_1) rfl ((if0 _ _).trans (teq hc1_5).2) k) ?_
    obtain ⟨T6, X6, e6, st6⟩ := getS2 X0 hx hZ hown (host := "") (Or.inl (hw _ (List.mem_of_getElem? (i := 10) rfl))) Via.refl e0 S_s (g := (mkF m 4 #[.val (.int p0)] [])) rfl (hb hby d3_4)
    refine own_go (U' := T6.setTop (mkF m 7 #[.val (.int p0)] [(.ref wS)])) (fun _ k => st6 _ k) ?_
    refine own_ret X6 (v := (some (.ref wS))) hlk (fun h => by rw [Bd.returns] at h; cases h) (by decide) (by decide) (fun fs hr => own_retR X6 hx Bd.returns rfl rfl rfl (hb hby d3_7) hr) ?_
    show (Q3 Z p0 wS wR wE wI h0 n0) _ T6.heap _
    rw [e6]
    exact ⟨by first | (simp only [f_3, if_pos hc1_5]; done) | rfl | (simp [f_3, if_pos hc1_5]; done), N0, rfl⟩
  · refine own_go (U' := s₁.setTop (mkF m 8 #[.val (.int p0)] [])) (fun _ k => XS.ifYes X0.here hx rfl (pc0 := 1) (pc' := 8) rfl (hb hby d3_1) rfl ((if0 _ _).trans (feq hc1_5).2) (by decide) (by decide) k) ?_
    refine own_go (U' := s₁.setTop (mkF m 9 #[.val (.int p0)] [(.int p0)])) (fun _ k => XS.iloadN X0.here hx rfl (hb hby d3_8) rfl k) ?_
    refine own_go (U' := s₁.setTop (mkF m 10 #[.val (.int p0)] [(.int (1 : Int32)), (.int p0)])) (fun _ k => XS.iconst X0.here hx rfl (hb hby d3_9) k) ?_
    by_cases hc10_7 : p0 = (1 : Int32)
    · refine own_go (U' := s₁.setTop (mkF m 13 #[.val (.int p0)] [])) (fun _ k => XS.icmpNo X0.here hx rfl (hb hby d3_10) rfl (teq hc10_7).2 k) ?_
      obtain ⟨T8, X8, e8, st8⟩ := getS2 X0 hx hZ hown (host := "") (Or.inl (hw _ (List.mem_of_getElem? (i := 25) rfl))) Via.refl e0 S_r (g := (mkF m 13 #[.val (.int p0)] [])) rfl (hb hby d3_13)
      refine own_go (U' := T8.setTop (mkF m 16 #[.val (.int p0)] [(.ref wR)])) (fun _ k => st8 _ k) ?_
      refine own_ret X8 (v := (some (.ref wR))) hlk (fun h => by rw [Bd.returns] at h; cases h) (by decide) (by decide) (fun fs hr => own_retR X8 hx Bd.returns rfl rfl rfl (hb hby d3_16) hr) ?_
      show (Q3 Z p0 wS wR wE wI h0 n0) _ T8.heap _
      rw [e8]
      exact ⟨by first | (simp only [f_3, if_neg hc1_5, if_pos hc10_7]; done) | rfl | (simp [f_3, if_neg hc1_5, if_pos hc10_7]; done), N0, rfl⟩
    · refine own_go (U' := s₁.setTop (mkF m 17 #[.val (.int p0)] [])) (fun _ k => XS.icmpYes X0.here hx rfl (pc0 := 10) (pc' := 17) rfl (hb hby d3_10) rfl (feq hc10_7).2 (by decide) (by decide) k) ?_
      refine own_go (U' := s₁.setTop (mkF m 18 #[.val (.int p0)] [(.int p0)])) (fun _ k => XS.iloadN X0.here hx rfl (hb hby d3_17) rfl k) ?_
      refine own_go (U' := s₁.setTop (mkF m 19 #[.val (.int p0)] [(.int (2 : Int32)), (.int p0)])) (fun _ k => XS.iconst X0.here hx rfl (hb hby d3_18) k) ?_
      by_cases hc19_9 : p0 = (2 : Int32)
      · refine own_go (U' := s₁.setTop (mkF m 22 #[.val (.int p0)] [])) (fun _ k => XS.icmpNo X0.here hx rfl (hb hby d3_19) rfl (teq hc19_9).2 k) ?_
        obtain ⟨T10, X10, e10, st10⟩ := getS2 X0 hx hZ hown (host := "") (Or.inl (hw _ (List.mem_of_getElem? (i := 24) rfl))) Via.refl e0 S_e (g := (mkF m 22 #[.val (.int p0)] [])) rfl (hb hby d3_22)
        refine own_go (U' := T10.setTop (mkF m 25 #[.val (.int p0)] [(.ref wE)])) (fun _ k => st10 _ k) ?_
        refine own_ret X10 (v := (some (.ref wE))) hlk (fun h => by rw [Bd.returns] at h; cases h) (by decide) (by decide) (fun fs hr => own_retR X10 hx Bd.returns rfl rfl rfl (hb hby d3_25) hr) ?_
        show (Q3 Z p0 wS wR wE wI h0 n0) _ T10.heap _
        rw [e10]
        exact ⟨by first | (simp only [f_3, if_neg hc1_5, if_neg hc10_7, if_pos hc19_9]; done) | rfl | (simp [f_3, if_neg hc1_5, if_neg hc10_7, if_pos hc19_9]; done), N0, rfl⟩
      · refine own_go (U' := s₁.setTop (mkF m 26 #[.val (.int p0)] [])) (fun _ k => XS.icmpYes X0.here hx rfl (pc0 := 19) (pc' := 26) rfl (hb hby d3_19) rfl (feq hc19_9).2 (by decide) (by decide) k) ?_
        obtain ⟨T11, X11, e11, st11⟩ := getS2 X0 hx hZ hown (host := "") (Or.inl (hw _ (List.mem_of_getElem? (i := 13) rfl))) Via.refl e0 S_i (g := (mkF m 26 #[.val (.int p0)] [])) rfl (hb hby d3_26)
        refine own_go (U' := T11.setTop (mkF m 29 #[.val (.int p0)] [(.ref wI)])) (fun _ k => st11 _ k) ?_
        refine own_ret X11 (v := (some (.ref wI))) hlk (fun h => by rw [Bd.returns] at h; cases h) (by decide) (by decide) (fun fs hr => own_retR X11 hx Bd.returns rfl rfl rfl (hb hby d3_29) hr) ?_
        show (Q3 Z p0 wS wR wE wI h0 n0) _ T11.heap _
        rw [e11]
        exact ⟨by first | (simp only [f_3, if_neg hc1_5, if_neg hc10_7, if_neg hc19_9]; done) | rfl | (simp [f_3, if_neg hc1_5, if_neg hc10_7, if_neg hc19_9]; done), N0, rfl⟩
theorem d4_0 : decode prog_151_method_5_code 0 = .ok (.aload_n 0, 1) := by decide +kernel
theorem d4_1 : decode prog_151_method_5_code 1 = .ok (.getstatic 13, 3) := by decide +kernel
theorem d4_4 : decode prog_151_method_5_code 4 = .ok (.if_acmp .eq 29, 3) := by decide +kernel
theorem d4_33 : decode prog_151_method_5_code 33 = .ok (.iconst 1, 1) := by decide +kernel
theorem d4_34 : decode prog_151_method_5_code 34 = .ok (.goto 4, 3) := by decide +kernel
theorem d4_38 : decode prog_151_method_5_code 38 = .ok (.ireturn, 1) := by decide +kernel
theorem d4_7 : decode prog_151_method_5_code 7 = .ok (.aload_n 0, 1) := by decide +kernel
theorem d4_8 : decode prog_151_method_5_code 8 = .ok (.aload_n 1, 1) := by decide +kernel
theorem d4_9 : decode prog_151_method_5_code 9 = .ok (.if_acmp .eq 24, 3) := by decide +kernel
theorem d4_12 : decode prog_151_method_5_code 12 = .ok (.aload_n 0, 1) := by decide +kernel
theorem d4_13 : decode prog_151_method_5_code 13 = .ok (.getstatic 3, 3) := by decide +kernel
theorem d4_16 : decode prog_151_method_5_code 16 = .ok (.if_acmp .eq 10, 3) := by decide +kernel
theorem d4_26 : decode prog_151_method_5_code 26 = .ok (.aload_n 1, 1) := by decide +kernel
theorem d4_27 : decode prog_151_method_5_code 27 = .ok (.getstatic 10, 3) := by decide +kernel
theorem d4_30 : decode prog_151_method_5_code 30 = .ok (.if_acmp .ne 7, 3) := by decide +kernel
theorem d4_37 : decode prog_151_method_5_code 37 = .ok (.iconst 0, 1) := by decide +kernel
theorem d4_19 : decode prog_151_method_5_code 19 = .ok (.aload_n 0, 1) := by decide +kernel
theorem d4_20 : decode prog_151_method_5_code 20 = .ok (.getstatic 7, 3) := by decide +kernel
theorem d4_23 : decode prog_151_method_5_code 23 = .ok (.if_acmp .ne 14, 3) := by decide +kernel
theorem own_pn1 : plainName "com/example/tracewarden/tracewarden/net/Order" = true := by first | (simp [plainName, overriddenIn]; done) | decide +kernel
theorem own_ef4 (m : MethodId) (x0 : Addr) (x1 : Addr) : entryFrame m #[(.ref x0), (.ref x1)] 2 = mkF m 0 #[.val (.ref x0), .val (.ref x1)] [] := by first | (simp [entryFrame, mkF, argsToLocals, Value.category]; done) | rfl
def f_4 (a0 : Addr) (a1 : Addr) (wS : Addr) (wR : Addr) (wE : Addr) (wI : Addr) : Int32 := (if a0 = wI then (1 : Int32) else (if a0 = a1 then (1 : Int32) else (if a0 = wS then (if a1 = wE then (1 : Int32) else (0 : Int32)) else (if a0 = wR then (if a1 = wE then (1 : Int32) else (0 : Int32)) else (0 : Int32)))))
def Q4 (Z : State) (a0 : Addr) (a1 : Addr) (wS : Addr) (wR : Addr) (wE : Addr) (wI : Addr) (h0 : Heap) (n0 : Nat) (v : Option Value) (h : Heap) (L : List Loc) : Prop := v = some (.int (f_4 a0 a1 wS wR wE wI)) ∧ Fr n0 L ∧ h = h0
set_option maxRecDepth 65536 in
set_option maxHeartbeats 40000000 in
theorem rm4 (l : Launch) (Z : State) (aw : Array Value) (hw : ∀ d ∈ tables_1, d.before aw Z = true) (ws : List Jvm.Cond) (a0 : Addr) (a1 : Addr) (wS : Addr) (wR : Addr) (wE : Addr) (wI : Addr) (h0 : Heap) (n0 : Nat) (Z0 : n0 ≤ h0.size) (S_s : Sta Z h0 "com/example/tracewarden/tracewarden/net/Order" "STRICT" "Lcom/example/tracewarden/tracewarden/net/Order;" (.ref wS)) (S_r : Sta Z h0 "com/example/tracewarden/tracewarden/net/Order" "REVERSE_STRICT" "Lcom/example/tracewarden/tracewarden/net/Order;" (.ref wR)) (S_e : Sta Z h0 "com/example/tracewarden/tracewarden/net/Order" "EXCLUSIVE" "Lcom/example/tracewarden/tracewarden/net/Order;" (.ref wE)) (S_i : Sta Z h0 "com/example/tracewarden/tracewarden/net/Order" "INTERLEAVING" "Lcom/example/tracewarden/tracewarden/net/Order;" (.ref wI)) :
    MetFree l (⟨"com/example/tracewarden/tracewarden/net/Order", "isKeptBy", "(Lcom/example/tracewarden/tracewarden/net/Order;)Z"⟩ : MethodName) (head1 (Jvm.Cond.code (⟨"com/example/tracewarden/tracewarden/net/Order", "isKeptBy", "(Lcom/example/tracewarden/tracewarden/net/Order;)Z"⟩ : MethodName) prog_151_method_5_code 2 (some .boolean) :: ws) ({ frames := 0, cells := 0, slots := 0, locals := 0 } : Room)) (fun a U => a = #[(.ref a0), (.ref a1)] ∧ Z.Warmed39 U.vm ∧ U.heap = h0) (fun _ _ _ _ _ => True) (fun _ U o U' => ∃ v L, o = .returned v ∧ (Q4 Z a0 a1 wS wR wE wI h0 n0) v U'.heap L ∧ FrameEnd U o U' L ({ frames := 0, cells := 0, slots := 0, locals := 0 } : Room).cells ({ frames := 0, cells := 0, slots := 0, locals := 0 } : Room).slots) := by
  refine MetFree.of_bodySF (plainFor_of_name own_pn1) hisR ?_
  intro p e s m args below meth c s₁ Bd hml0 hP hK
  obtain ⟨rfl, hZ, hh⟩ := hP
  have hx := Bd.exec
  have hby := Bd.bytes
  have hml : c.maxLocals = 2 := hml0
  have hown : s.vm.findClass "com/example/tracewarden/tracewarden/net/Order" = some m.cls := findClass_of_methodNamed Bd.named
  have hnm := (name_of_methodNamed Bd.named Bd.method).1
  have hlk : meth.locks = false := BodyLoose.notSynchronized (by assumption)
  have X0 : Stand p l e ({ frames := 0, cells := 0, slots := 0, locals := 0 } : Room) s m #[(.ref a0), (.ref a1)] below meth c s₁ [] 0 0 := Stand.of_body Bd
  have e0 : s₁.heap = h0 := by rw [← hh, Bd.state]; rfl
  have N0 := Fr.nil n0
  show own_Done p e below s (Q4 Z a0 a1 wS wR wE wI h0 n0) ({ frames := 0, cells := 0, slots := 0, locals := 0 } : Room).cells ({ frames := 0, cells := 0, slots := 0, locals := 0 } : Room).slots (s₁.setTop (entryFrame m #[(.ref a0), (.ref a1)] 2))
  refine own_go (U' := s₁.setTop (mkF m 0 #[.val (.ref a0), .val (.ref a1)] [])) (fun _ k => castTop (own_ef4 m a0 a1) k) ?_
  refine own_go (U' := s₁.setTop (mkF m 1 #[.val (.ref a0), .val (.ref a1)] [(.ref a0)])) (fun _ k => XS.aloadN X0.here hx rfl (hb hby d4_0) rfl rfl k) ?_
  obtain ⟨T12, X12, e12, st12⟩ := getS2 X0 hx hZ hown (host := "") (Or.inl (hw _ (List.mem_of_getElem? (i := 20) rfl))) Via.refl e0 S_i (g := (mkF m 1 #[.val (.ref a0), .val (.ref a1)] [(.ref a0)])) rfl (hb hby d4_1)
  refine own_go (U' := T12.setTop (mkF m 4 #[.val (.ref a0), .val (.ref a1)] [(.ref wI), (.ref a0)])) (fun _ k => st12 _ k) ?_
  by_cases hc4_13 : a0 = wI
  · refine own_go (U' := T12.setTop (mkF m 33 #[.val (.ref a0), .val (.ref a1)] [])) (fun _ k => Jvm.RoadKit.acmp (g := (mkF m 4 #[.val (.ref a0), .val (.ref a1)] [(.ref wI), (.ref a0)])) X12 hx rfl rfl rfl (pc0 := 4) (pc' := 33) (same := true) rfl (hb hby d4_4) rfl (decide_eq_true (congrArg Value.ref hc4_13)) (by decide) (by decide) k) ?_
    refine own_go (U' := T12.setTop (mkF m 34 #[.val (.ref a0), .val (.ref a1)] [(.int (1 : Int32))])) (fun _ k => XS.iconst X12.here hx rfl (hb hby d4_33) k) ?_
    refine own_go (U' := T12.setTop (mkF m 38 #[.val (.ref a0), .val (.ref a1)] [(.int (1 : Int32))])) (fun _ k => XS.goto X12.here hx rfl (pc0 := 34) (pc' := 38) rfl (hb hby d4_34) (by decide) (by decide) k) ?_
    refine own_ret X12 (v := (some (.int (1 : Int32)))) hlk (fun h => by rw [Bd.returns] at h; cases h) (by decide) (by decide) (fun fs hr => retN X12 hx (t := .boolean) Bd.returns (by simp) (hb hby d4_38) hr) ?_
    show (Q4 Z a0 a1 wS wR wE wI h0 n0) _ T12.heap _
    rw [e12]
    exact ⟨by first | (simp only [f_4, if_pos hc4_13]; done) | rfl | (simp [f_4, if_pos hc4_13]; done), N0, rfl⟩
  · refine own_go (U' := T12.setTop (mkF m 7 #[.val (.ref a0), .val (.ref a1)] [])) (fun _ k => Jvm.RoadKit.acmp (g := (mkF m 4 #[.val (.ref a0), .val (.ref a1)] [(.ref wI), (.ref a0)])) X12 hx rfl rfl rfl (pc0 := 4) (pc' := 7) (same := false) rfl (hb hby d4_4) rfl (decide_eq_false fun q => hc4_13 (Value.ref.inj q)) (by decide) (by decide) k) ?_
    refine own_go (U' := T12.setTop (mkF m 8 #[.val (.ref a0), .val (.ref a1)] [(.ref a0)])) (fun _ k => XS.aloadN X12.here hx rfl (hb hby d4_7) rfl rfl k) ?_
    refine own_go (U' := T12.setTop (mkF m 9 #[.val (.ref a0), .val (.ref a1)] [(.ref a1), (.ref a0)])) (fun _ k => XS.aloadN X12.here hx rfl (hb hby d4_8) rfl rfl k) ?_
    by_cases hc9_14 : a0 = a1
    · refine own_go (U' := T12.setTop (mkF m 33 #[.val (.ref a0), .val (.ref a1)] [])) (fun _ k => Jvm.RoadKit.acmp (g := (mkF m 9 #[.val (.ref a0), .val (.ref a1)] [(.ref a1), (.ref a0)])) X12 hx rfl rfl rfl (pc0 := 9) (pc' := 33) (same := true) rfl (hb hby d4_9) rfl (decide_eq_true (congrArg Value.ref hc9_14)) (by decide) (by decide) k) ?_
      refine own_go (U' := T12.setTop (mkF m 34 #[.val (.ref a0), .val (.ref a1)] [(.int (1 : Int32))])) (fun _ k => XS.iconst X12.here hx rfl (hb hby d4_33) k) ?_
      refine own_go (U' := T12.setTop (mkF m 38 #[.val (.ref a0), .val (.ref a1)] [(.int (1 : Int32))])) (fun _ k => XS.goto X12.here hx rfl (pc0 := 34) (pc' := 38) rfl (hb hby d4_34) (by decide) (by decide) k) ?_
      refine own_ret X12 (v := (some (.int (1 : Int32)))) hlk (fun h => by rw [Bd.returns] at h; cases h) (by decide) (by decide) (fun fs hr => retN X12 hx (t := .boolean) Bd.returns (by simp) (hb hby d4_38) hr) ?_
      show (Q4 Z a0 a1 wS wR wE wI h0 n0) _ T12.heap _
      rw [e12]
      exact ⟨by first | (simp only [f_4, if_neg hc4_13, if_pos hc9_14]; done) | rfl | (simp [f_4, if_neg hc4_13, if_pos hc9_14]; done), N0, rfl⟩
    · refine own_go (U' := T12.setTop (mkF m 12 #[.val (.ref a0), .val (.ref a1)] [])) (fun _ k => Jvm.RoadKit.acmp (g := (mkF m 9 #[.val (.ref a0), .val (.ref a1)] [(.ref a1), (.ref a0)])) X12 hx rfl rfl rfl (pc0 := 9) (pc' := 12) (same := false) rfl (hb hby d4_9) rfl (decide_eq_false fun q => hc9_14 (Value.ref.inj q)) (by decide) (by decide) k) ?_
      refine own_go (U' := T12.setTop (mkF m 13 #[.val (.ref a0), .val (.ref a1)] [(.ref a0)])) (fun _ k => XS.aloadN X12.here hx rfl (hb hby d4_12) rfl rfl k) ?_
      obtain ⟨T15, X15, e15, st15⟩ := getS2 X12 hx hZ hown (host := "") (Or.inl (hw _ (List.mem_of_getElem? (i := 21) rfl))) Via.refl e12 S_s (g := (mkF m 13 #[.val (.ref a0), .val (.ref a1)] [(.ref a0)])) rfl (hb hby d4_13)
      refine own_go (U' := T15.setTop (mkF m 16 #[.val (.ref a0), .val (.ref a1)] [(.ref wS), (.ref a0)])) (fun _ k => st15 _ k) ?_
      by_cases hc16_16 : a0 = wS
      · refine own_go (U' := T15.setTop (mkF m 26 #[.val (.ref a0), .val (.ref a1)] [])) (fun _ k => Jvm.RoadKit.acmp (g := (mkF m 16 #[.val (.ref a0), .val (.ref a1)] [(.ref wS), (.ref a0)])) X15 hx rfl rfl rfl (pc0 := 16) (pc' := 26) (same := true) rfl (hb hby d4_16) rfl (decide_eq_true (congrArg Value.ref hc16_16)) (by decide) (by decide) k) ?_
        refine own_go (U' := T15.setTop (mkF m 27 #[.val (.ref a0), .val (.ref a1)] [(.ref a1)])) (fun _ k => XS.aloadN X15.here hx rfl (hb hby d4_26) rfl rfl k) ?_
        obtain ⟨T17, X17, e17, st17⟩ := getS2 X15 hx hZ hown (host := "") (Or.inl (hw _ (List.mem_of_getElem? (i := 22) rfl))) Via.refl e15 S_e (g := (mkF m 27 #[.val (.ref a0), .val (.ref a1)] [(.ref a1)])) rfl (hb hby d4_27)
        refine own_go (U' := T17.setTop (mkF m 30 #[.val (.ref a0), .val (.ref a1)] [(.ref wE), (.ref a1)])) (fun _ k => st17 _ k) ?_
        by_cases hc30_18 : a1 = wE
        · refine own_go (U' := T17.setTop (mkF m 33 #[.val (.ref a0), .val (.ref a1)] [])) (fun _ k => Jvm.RoadKit.acmp (g := (mkF m 30 #[.val (.ref a0), .val (.ref a1)] [(.ref wE), (.ref a1)])) X17 hx rfl rfl rfl (pc0 := 30) (pc' := 33) (same := true) rfl (hb hby d4_30) rfl (decide_eq_true (congrArg Value.ref hc30_18)) (by decide) (by decide) k) ?_
          refine own_go (U' := T17.setTop (mkF m 34 #[.val (.ref a0), .val (.ref a1)] [(.int (1 : Int32))])) (fun _ k => XS.iconst X17.here hx rfl (hb hby d4_33) k) ?_
          refine own_go (U' := T17.setTop (mkF m 38 #[.val (.ref a0), .val (.ref a1)] [(.int (1 : Int32))])) (fun _ k => XS.goto X17.here hx rfl (pc0 := 34) (pc' := 38) rfl (hb hby d4_34) (by decide) (by decide) k) ?_
          refine own_ret X17 (v := (some (.int (1 : Int32)))) hlk (fun h => by rw [Bd.returns] at h; cases h) (by decide) (by decide) (fun fs hr => retN X17 hx (t := .boolean) Bd.returns (by simp) (hb hby d4_38) hr) ?_
          show (Q4 Z a0 a1 wS wR wE wI h0 n0) _ T17.heap _
          rw [e17]
          exact ⟨by first | (simp only [f_4, if_neg hc4_13, if_neg hc9_14, if_pos hc16_16, if_pos hc30_18]; done) | rfl | (simp [f_4, if_neg hc4_13, if_neg hc9_14, if_pos hc16_16, if_pos hc30_18]; done), N0, rfl⟩
        · refine own_go (U' := T17.setTop (mkF m 37 #[.val (.ref a0), .val (.ref a1)] [])) (fun _ k => Jvm.RoadKit.acmp (g := (mkF m 30 #[.val (.ref a0), .val (.ref a1)] [(.ref wE), (.ref a1)])) X17 hx rfl rfl rfl (pc0 := 30) (pc' := 37) (same := false) rfl (hb hby d4_30) rfl (decide_eq_false fun q => hc30_18 (Value.ref.inj q)) (by decide) (by decide) k) ?_
          refine own_go (U' := T17.setTop (mkF m 38 #[.val (.ref a0), .val (.ref a1)] [(.int (0 : Int32))])) (fun _ k => XS.iconst X17.here hx rfl (hb hby d4_37) k) ?_
          refine own_ret X17 (v := (some (.int (0 : Int32)))) hlk (fun h => by rw [Bd.returns] at h; cases h) (by decide) (by decide) (fun fs hr => retN X17 hx (t := .boolean) Bd.returns (by simp) (hb hby d4_38) hr) ?_
          show (Q4 Z a0 a1 wS wR wE wI h0 n0) _ T17.heap _
          rw [e17]
          exact ⟨by first | (simp only [f_4, if_neg hc4_13, if_neg hc9_14, if_pos hc16_16, if_neg hc30_18]; done) | rfl | (simp [f_4, if_neg hc4_13, if_neg hc9_14, if_pos hc16_16, if_neg hc30_18]; done), N0, rfl⟩
      · refine own_go (U' := T15.setTop (mkF m 19 #[.val (.ref a0), .val (.ref a1)] [])) (fun _ k => Jvm.RoadKit.acmp (g := (mkF m 16 #[.val (.ref a0), .val (.ref a1)] [(.ref wS), (.ref a0)])) X15 hx rfl rfl rfl (pc0 := 16) (pc' := 19) (same := false) rfl (hb hby d4_16) rfl (decide_eq_false fun q => hc16_16 (Value.ref.inj q)) (by decide) (by decide) k) ?_
        refine own_go (U' := T15.setTop (mkF m 20 #[.val (.ref a0), .val (.ref a1)] [(.ref a0)])) (fun _ k => XS.aloadN X15.here hx rfl (hb hby d4_19) rfl rfl k) ?_
        obtain ⟨T19, X19, e19, st19⟩ := getS2 X15 hx hZ hown (host := "") (Or.inl (hw _ (List.mem_of_getElem? (i := 27) rfl))) Via.refl e15 S_r (g := (mkF m 20 #[.val (.ref a0), .val (.ref a1)] [(.ref a0)])) rfl (hb hby d4_20)
        refine own_go (U' := T19.setTop (mkF m 23 #[.val (.ref a0), .val (.ref a1)] [(.ref wR), (.ref a0)])) (fun _ k => st19 _ k) ?_
        by_cases hc23_20 : a0 = wR
        · refine own_go (U' := T19.setTop (mkF m 26 #[.val (.ref a0), .val (.ref a1)] [])) (fun _ k => Jvm.RoadKit.acmp (g := (mkF m 23 #[.val (.ref a0), .val (.ref a1)] [(.ref wR), (.ref a0)])) X19 hx rfl rfl rfl (pc0 := 23) (pc' := 26) (same := true) rfl (hb hby d4_23) rfl (decide_eq_true (congrArg Value.ref hc23_20)) (by decide) (by decide) k) ?_
          refine own_go (U' := T19.setTop (mkF m 27 #[.val (.ref a0), .val (.ref a1)] [(.ref a1)])) (fun _ k => XS.aloadN X19.here hx rfl (hb hby d4_26) rfl rfl k) ?_
          obtain ⟨T21, X21, e21, st21⟩ := getS2 X19 hx hZ hown (host := "") (Or.inl (hw _ (List.mem_of_getElem? (i := 22) rfl))) Via.refl e19 S_e (g := (mkF m 27 #[.val (.ref a0), .val (.ref a1)] [(.ref a1)])) rfl (hb hby d4_27)
          refine own_go (U' := T21.setTop (mkF m 30 #[.val (.ref a0), .val (.ref a1)] [(.ref wE), (.ref a1)])) (fun _ k => st21 _ k) ?_
          by_cases hc30_22 : a1 = wE
          · refine own_go (U' := T21.setTop (mkF m 33 #[.val (.ref a0), .val (.ref a1)] [])) (fun _ k => Jvm.RoadKit.acmp (g := (mkF m 30 #[.val (.ref a0), .val (.ref a1)] [(.ref wE), (.ref a1)])) X21 hx rfl rfl rfl (pc0 := 30) (pc' := 33) (same := true) rfl (hb hby d4_30) rfl (decide_eq_true (congrArg Value.ref hc30_22)) (by decide) (by decide) k) ?_
            refine own_go (U' := T21.setTop (mkF m 34 #[.val (.ref a0), .val (.ref a1)] [(.int (1 : Int32))])) (fun _ k => XS.iconst X21.here hx rfl (hb hby d4_33) k) ?_
            refine own_go (U' := T21.setTop (mkF m 38 #[.val (.ref a0), .val (.ref a1)] [(.int (1 : Int32))])) (fun _ k => XS.goto X21.here hx rfl (pc0 := 34) (pc' := 38) rfl (hb hby d4_34) (by decide) (by decide) k) ?_
            refine own_ret X21 (v := (some (.int (1 : Int32)))) hlk (fun h => by rw [Bd.returns] at h; cases h) (by decide) (by decide) (fun fs hr => retN X21 hx (t := .boolean) Bd.returns (by simp) (hb hby d4_38) hr) ?_
            show (Q4 Z a0 a1 wS wR wE wI h0 n0) _ T21.heap _
            rw [e21]
            exact ⟨by first | (simp only [f_4, if_neg hc4_13, if_neg hc9_14, if_neg hc16_16, if_pos hc23_20, if_pos hc30_22]; done) | rfl | (simp [f_4, if_neg hc4_13, if_neg hc9_14, if_neg hc16_16, if_pos hc23_20, if_pos hc30_22]; done), N0, rfl⟩
          · refine own_go (U' := T21.setTop (mkF m 37 #[.val (.ref a0), .val (.ref a1)] [])) (fun _ k => Jvm.RoadKit.acmp (g := (mkF m 30 #[.val (.ref a0), .val (.ref a1)] [(.ref wE), (.ref a1)])) X21 hx rfl rfl rfl (pc0 := 30) (pc' := 37) (same := false) rfl (hb hby d4_30) rfl (decide_eq_false fun q => hc30_22 (Value.ref.inj q)) (by decide) (by decide) k) ?_
            refine own_go (U' := T21.setTop (mkF m 38 #[.val (.ref a0), .val (.ref a1)] [(.int (0 : Int32))])) (fun _ k => XS.iconst X21.here hx rfl (hb hby d4_37) k) ?_
            refine own_ret X21 (v := (some (.int (0 : Int32)))) hlk (fun h => by rw [Bd.returns] at h; cases h) (by decide) (by decide) (fun fs hr => retN X21 hx (t := .boolean) Bd.returns (by simp) (hb hby d4_38) hr) ?_
            show (Q4 Z a0 a1 wS wR wE wI h0 n0) _ T21.heap _
            rw [e21]
            exact ⟨by first | (simp only [f_4, if_neg hc4_13, if_neg hc9_14, if_neg hc16_16, if_pos hc23_20, if_neg hc30_22]; done) | rfl | (simp [f_4, if_neg hc4_13, if_neg hc9_14, if_neg hc16_16, if_pos hc23_20, if_neg hc30_22]; done), N0, rfl⟩
        · refine own_go (U' := T19.setTop (mkF m 37 #[.val (.ref a0), .val (.ref a1)] [])) (fun _ k => Jvm.RoadKit.acmp (g := (mkF m 23 #[.val (.ref a0), .val (.ref a1)] [(.ref wR), (.ref a0)])) X19 hx rfl rfl rfl (pc0 := 23) (pc' := 37) (same := false) rfl (hb hby d4_23) rfl (decide_eq_false fun q => hc23_20 (Value.ref.inj q)) (by decide) (by decide) k) ?_
          refine own_go (U' := T19.setTop (mkF m 38 #[.val (.ref a0), .val (.ref a1)] [(.int (0 : Int32))])) (fun _ k => XS.iconst X19.here hx rfl (hb hby d4_37) k) ?_
          refine own_ret X19 (v := (some (.int (0 : Int32)))) hlk (fun h => by rw [Bd.returns] at h; cases h) (by decide) (by decide) (fun fs hr => retN X19 hx (t := .boolean) Bd.returns (by simp) (hb hby d4_38) hr) ?_
          show (Q4 Z a0 a1 wS wR wE wI h0 n0) _ T19.heap _
          rw [e19]
          exact ⟨by first | (simp only [f_4, if_neg hc4_13, if_neg hc9_14, if_neg hc16_16, if_neg hc23_20]; done) | rfl | (simp [f_4, if_neg hc4_13, if_neg hc9_14, if_neg hc16_16, if_neg hc23_20]; done), N0, rfl⟩

theorem own_four (x : Int32) : x &&& 3 = 0 ∨ x &&& 3 = 1 ∨ x &&& 3 = 2 ∨ x &&& 3 = 3 := by
  have h : (x &&& 3).toInt = x.toInt % 4 := c_mask x 3 2 (by decide) (by decide)
  have k0 : (0 : Int32).toInt = 0 := by decide
  have k1 : (1 : Int32).toInt = 1 := by decide
  have k2 : (2 : Int32).toInt = 2 := by decide
  have k3 : (3 : Int32).toInt = 3 := by decide
  rcases (by omega : x.toInt % 4 = 0 ∨ x.toInt % 4 = 1 ∨ x.toInt % 4 = 2 ∨ x.toInt % 4 = 3) with q | q | q | q
  · exact Or.inl (Int32.toInt_inj.mp (by omega))
  · exact Or.inr (Or.inl (Int32.toInt_inj.mp (by omega)))
  · exact Or.inr (Or.inr (Or.inl (Int32.toInt_inj.mp (by omega))))
  · exact Or.inr (Or.inr (Or.inr (Int32.toInt_inj.mp (by omega))))
theorem own_fin {x u y z : Int32} {wS wR wE wI : Addr} (hy : (x &&& (3 : Int32)) = y) (hz : (u &&& (3 : Int32)) = z) (d1 : wS ≠ wR) (d2 : wS ≠ wE) (d3 : wS ≠ wI) (d4 : wR ≠ wE) (d5 : wR ≠ wI) (d6 : wE ≠ wI) :
    f_4 (f_3 y wS wR wE wI) (f_3 z wS wR wE wI) wS wR wE wI = if (f_1 z = 0 ∨ ¬ f_1 y = 0) ∧ (f_2 z = 0 ∨ ¬ f_2 y = 0) then 1 else 0 := by
  have e0 := own_four x
  have e1 := own_four u
  rw [hy] at e0
  rw [hz] at e1
  rcases e0 with rfl | rfl | rfl | rfl <;> rcases e1 with rfl | rfl | rfl | rfl <;> simp [f_1, f_2, f_3, f_4, d1, d2, d3, d4, d5, d6, d1.symm, d2.symm, d3.symm, d4.symm, d5.symm, d6.symm]

theorem own_pd0 : parseMethodDescriptor "(I)Z" = some ⟨[.int], some .boolean⟩ := by decide +kernel
theorem own_pd1 : parseMethodDescriptor "(I)Lcom/example/tracewarden/tracewarden/net/Order;" = some ⟨[.int], some (.object "com/example/tracewarden/tracewarden/net/Order")⟩ := by decide +kernel
theorem own_pd2 : parseMethodDescriptor "(Lcom/example/tracewarden/tracewarden/net/Order;)Z" = some ⟨[(.object "com/example/tracewarden/tracewarden/net/Order")], some .boolean⟩ := by decide +kernel
theorem own_ef0 (m : MethodId) (x0 : Int32) (x1 : Int32) : entryFrame m #[(.int x0), (.int x1)] maxLocals = mkF m 0 #[.val (.int x0), .val (.int x1), .unset, .unset, .unset] [] := by first | (simp [entryFrame, mkF, argsToLocals, Value.category, maxLocals]; done) | rfl
def Q0 (Z : State) (p0 : Int32) (p1 : Int32) (wS : Addr) (wR : Addr) (wE : Addr) (wI : Addr) (h0 : Heap) (n0 : Nat) (v : Option Value) (h : Heap) (L : List Loc) : Prop := v = some (.int 1) ∧ Fr n0 L
set_option maxRecDepth 65536 in
set_option maxHeartbeats 40000000 in
theorem rm0 (l : Launch) (Z : State) (aw : Array Value) (hw : ∀ d ∈ tables_1, d.before aw Z = true) (ws : List Jvm.Cond) (p0 : Int32) (p1 : Int32) (wS : Addr) (wR : Addr) (wE : Addr) (wI : Addr) (h0 : Heap) (n0 : Nat) (Z0 : n0 ≤ h0.size) (S_s : Sta Z h0 "com/example/tracewarden/tracewarden/net/Order" "STRICT" "Lcom/example/tracewarden/tracewarden/net/Order;" (.ref wS)) (S_r : Sta Z h0 "com/example/tracewarden/tracewarden/net/Order" "REVERSE_STRICT" "Lcom/example/tracewarden/tracewarden/net/Order;" (.ref wR)) (S_e : Sta Z h0 "com/example/tracewarden/tracewarden/net/Order" "EXCLUSIVE" "Lcom/example/tracewarden/tracewarden/net/Order;" (.ref wE)) (S_i : Sta Z h0 "com/example/tracewarden/tracewarden/net/Order" "INTERLEAVING" "Lcom/example/tracewarden/tracewarden/net/Order;" (.ref wI)) (E_wS : Exa Z h0 wS "com/example/tracewarden/tracewarden/net/Order") (E_wR : Exa Z h0 wR "com/example/tracewarden/tracewarden/net/Order") (E_wE : Exa Z h0 wE "com/example/tracewarden/tracewarden/net/Order") (E_wI : Exa Z h0 wI "com/example/tracewarden/tracewarden/net/Order") (d1 : wS ≠ wR) (d2 : wS ≠ wE) (d3 : wS ≠ wI) (d4 : wR ≠ wE) (d5 : wR ≠ wI) (d6 : wE ≠ wI) :
    MetFree l x (head1 (Jvm.Cond.code x code maxLocals ret :: ws) room_1) (fun a U => a = #[(.int p0), (.int p1)] ∧ Z.Warmed39 U.vm ∧ U.heap = h0) (fun _ _ _ _ _ => True) (fun _ U o U' => ∃ v L, o = .returned v ∧ (Q0 Z p0 p1 wS wR wE wI h0 n0) v U'.heap L ∧ FrameEnd U o U' L room_1.cells room_1.slots) := by
  refine MetFree.of_bodySF (plainFor_of_name own_pn0) hisR ?_
  intro p e s m args below meth c s₁ Bd hml0 hP hK
  obtain ⟨rfl, hZ, hh⟩ := hP
  have hx := Bd.exec
  have hby := Bd.bytes
  have hml : c.maxLocals = 5 := hml0
  have hown : s.vm.findClass "com/example/tracewarden/tracewarden/net/OrderIsKeptByPinLaw" = some m.cls := findClass_of_methodNamed Bd.named
  have hnm := (name_of_methodNamed Bd.named Bd.method).1
  have hlk : meth.locks = false := BodyLoose.notSynchronized (by assumption)
  have X0 : Stand p l e room_1 s m #[(.int p0), (.int p1)] below meth c s₁ [] 0 0 := Stand.of_body Bd
  have e0 : s₁.heap = h0 := by rw [← hh, Bd.state]; rfl
  have N0 := Fr.nil n0
  show own_Done p e below s (Q0 Z p0 p1 wS wR wE wI h0 n0) room_1.cells room_1.slots (s₁.setTop (entryFrame m #[(.int p0), (.int p1)] maxLocals))
  refine own_go (U' := s₁.setTop (mkF m 0 #[.val (.int p0), .val (.int p1), .unset, .unset, .unset] [])) (fun _ k => castTop (own_ef0 m p0 p1) k) ?_
  refine own_go (U' := s₁.setTop (mkF m 1 #[.val (.int p0), .val (.int p1), .unset, .unset, .unset] [(.int p0)])) (fun _ k => XS.iloadN X0.here hx rfl (hb hby at_0) rfl k) ?_
  refine own_go (U' := s₁.setTop (mkF m 2 #[.val (.int p0), .val (.int p1), .unset, .unset, .unset] [(.int (3 : Int32)), (.int p0)])) (fun _ k => XS.iconst X0.here hx rfl (hb hby at_1) k) ?_
  refine own_go (U' := s₁.setTop (mkF m 3 #[.val (.int p0), .val (.int p1), .unset, .unset, .unset] [(.int (p0 &&& (3 : Int32)))])) (fun _ k => XS.iand X0.here hx rfl (hb hby at_2) rfl k) ?_
  generalize hy3 : (p0 &&& (3 : Int32)) = y3
  refine own_go (U' := s₁.setTop (mkF m 4 #[.val (.int p0), .val (.int p1), .val (.int y3), .unset, .unset] [])) (fun _ k => XS.istoreN X0.here hx rfl (hb hby at_3) rfl (l' := #[.val (.int p0), .val (.int p1), .val (.int y3), .unset, .unset]) rfl k) ?_
  refine own_go (U' := s₁.setTop (mkF m 5 #[.val (.int p0), .val (.int p1), .val (.int y3), .unset, .unset] [(.int p1)])) (fun _ k => XS.iloadN X0.here hx rfl (hb hby at_4) rfl k) ?_
  refine own_go (U' := s₁.setTop (mkF m 6 #[.val (.int p0), .val (.int p1), .val (.int y3), .unset, .unset] [(.int (3 : Int32)), (.int p1)])) (fun _ k => XS.iconst X0.here hx rfl (hb hby at_5) k) ?_
  refine own_go (U' := s₁.setTop (mkF m 7 #[.val (.int p0), .val (.int p1), .val (.int y3), .unset, .unset] [(.int (p1 &&& (3 : Int32)))])) (fun _ k => XS.iand X0.here hx rfl (hb hby at_6) rfl k) ?_
  generalize hy7 : (p1 &&& (3 : Int32)) = y7
  refine own_go (U' := s₁.setTop (mkF m 8 #[.val (.int p0), .val (.int p1), .val (.int y3), .val (.int y7), .unset] [])) (fun _ k => XS.istoreN X0.here hx rfl (hb hby at_7) rfl (l' := #[.val (.int p0), .val (.int p1), .val (.int y3), .val (.int y7), .unset]) rfl k) ?_
  refine own_go (U' := s₁.setTop (mkF m 9 #[.val (.int p0), .val (.int p1), .val (.int y3), .val (.int y7), .unset] [(.int y7)])) (fun _ k => XS.iloadN X0.here hx rfl (hb hby at_8) rfl k) ?_
  obtain ⟨_, _, ⟨T23, L23, k23, n23⟩, -, X23, ⟨Lc23, hQ23, l23, y23, z23⟩, st23⟩ := Jvm.LawKit.callS X0 hx (y := (⟨"com/example/tracewarden/tracewarden/net/OrderIsKeptByPinLaw", "firstBefore", "(I)Z"⟩ : MethodName)) hown (mvT hZ (hw _ (List.mem_of_getElem? (i := 0) rfl))) (mvT hZ (hw _ (List.mem_of_getElem? (i := 1) rfl))) (mvT hZ (hw _ (List.mem_of_getElem? (i := 2) rfl))) (mvT hZ (hw _ (List.mem_of_getElem? (i := 3) rfl))) (by decide) (backOf (W := 0) (rm1 l Z aw hw [] y7 h0 n0 Z0 ) hZ (hw _ (List.mem_of_getElem? (i := 3) rfl)) (hw _ (List.mem_of_getElem? (i := 2) rfl)) (by decide) (by decide)) (g := (mkF m 9 #[.val (.int p0), .val (.int p1), .val (.int y3), .val (.int y7), .unset] [(.int y7)])) rfl (by rw [hml]; rfl) (argsL := [(.int y7)]) (rest := []) (lenOf own_pd0 rfl) rfl (by show 2 * 0 + _ ≤ _; exact Nat.le_of_eq rfl) (hb hby at_9) (fun _ _ => ⟨rfl, e0, (by decide : 0 + 0 ≤ _), (by decide : 0 + 0 ≤ _)⟩)
  dsimp only [Pt.U, Pt.locs, Pt.cells, Pt.slots] at X23 l23 y23 z23 st23 hQ23
  subst l23 y23 z23
  obtain ⟨rfl, N23q, e23⟩ := hQ23
  have N23 := Fr.app N0 N23q
  refine own_go (U' := T23.setTop (mkF m 12 #[.val (.int p0), .val (.int p1), .val (.int y3), .val (.int y7), .unset] [(.int (f_1 y7))])) (fun _ k => st23 _ k) ?_
  by_cases hc12_24 : (f_1 y7) = (0 : Int32)
  · refine own_go (U' := T23.setTop (mkF m 22 #[.val (.int p0), .val (.int p1), .val (.int y3), .val (.int y7), .unset] [])) (fun _ k => XS.ifYes X23.here hx rfl (pc0 := 12) (pc' := 22) rfl (hb hby at_12) rfl ((if0 _ _).trans (teq hc12_24).1) (by decide) (by decide) k) ?_
    refine own_go (U' := T23.setTop (mkF m 23 #[.val (.int p0), .val (.int p1), .val (.int y3), .val (.int y7), .unset] [(.int y7)])) (fun _ k => XS.iloadN X23.here hx rfl (hb hby at_22) rfl k) ?_
    obtain ⟨_, _, ⟨T25, L25, k25, n25⟩, -, X25, ⟨Lc25, hQ25, l25, y25, z25⟩, st25⟩ := Jvm.LawKit.callS X23 hx (y := (⟨"com/example/tracewarden/tracewarden/net/OrderIsKeptByPinLaw", "secondBefore", "(I)Z"⟩ : MethodName)) hown (mvT hZ (hw _ (List.mem_of_getElem? (i := 4) rfl))) (mvT hZ (hw _ (List.mem_of_getElem? (i := 5) rfl))) (mvT hZ (hw _ (List.mem_of_getElem? (i := 2) rfl))) (mvT hZ (hw _ (List.mem_of_getElem? (i := 6) rfl))) (by decide) (backOf (W := 0) (rm2 l Z aw hw [] y7 h0 n0 Z0 ) hZ (hw _ (List.mem_of_getElem? (i := 6) rfl)) (hw _ (List.mem_of_getElem? (i := 2) rfl)) (by decide) (by decide)) (g := (mkF m 23 #[.val (.int p0), .val (.int p1), .val (.int y3), .val (.int y7), .unset] [(.int y7)])) rfl (by rw [hml]; rfl) (argsL := [(.int y7)]) (rest := []) (lenOf own_pd0 rfl) rfl (by show 2 * 0 + _ ≤ _; exact Nat.le_of_eq rfl) (hb hby at_23) (fun _ _ => ⟨rfl, e23, (by decide : 0 + 0 ≤ _), (by decide : 0 + 0 ≤ _)⟩)
    dsimp only [Pt.U, Pt.locs, Pt.cells, Pt.slots] at X25 l25 y25 z25 st25 hQ25
    subst l25 y25 z25
    obtain ⟨rfl, N25q, e25⟩ := hQ25
    have N25 := Fr.app N23 N25q
    refine own_go (U' := T25.setTop (mkF m 26 #[.val (.int p0), .val (.int p1), .val (.int y3), .val (.int y7), .unset] [(.int (f_2 y7))])) (fun _ k => st25 _ k) ?_
    by_cases hc26_26 : (f_2 y7) = (0 : Int32)
    · refine own_go (U' := T25.setTop (mkF m 36 #[.val (.int p0), .val (.int p1), .val (.int y3), .val (.int y7), .unset] [])) (fun _ k => XS.ifYes X25.here hx rfl (pc0 := 26) (pc' := 36) rfl (hb hby at_26) rfl ((if0 _ _).trans (teq hc26_26).1) (by decide) (by decide) k) ?_
      refine own_go (U' := T25.setTop (mkF m 37 #[.val (.int p0), .val (.int p1), .val (.int y3), .val (.int y7), .unset] [(.int (1 : Int32))])) (fun _ k => XS.iconst X25.here hx rfl (hb hby at_36) k) ?_
      refine own_go (U' := T25.setTop (mkF m 41 #[.val (.int p0), .val (.int p1), .val (.int y3), .val (.int y7), .unset] [(.int (1 : Int32))])) (fun _ k => XS.goto X25.here hx rfl (pc0 := 37) (pc' := 41) rfl (hb hby at_37) (by decide) (by decide) k) ?_
      refine own_go (U' := T25.setTop (mkF m 43 #[.val (.int p0), .val (.int p1), .val (.int y3), .val (.int y7), .val (.int (1 : Int32))] [])) (fun _ k => XS.istore X25.here hx rfl (hb hby at_41) rfl (l' := #[.val (.int p0), .val (.int p1), .val (.int y3), .val (.int y7), .val (.int (1 : Int32))]) rfl k) ?_
      refine own_go (U' := T25.setTop (mkF m 44 #[.val (.int p0), .val (.int p1), .val (.int y3), .val (.int y7), .val (.int (1 : Int32))] [(.int y3)])) (fun _ k => XS.iloadN X25.here hx rfl (hb hby at_43) rfl k) ?_
      obtain ⟨_, _, ⟨T27, L27, k27, n27⟩, -, X27, ⟨Lc27, hQ27, l27, y27, z27⟩, st27⟩ := Jvm.LawKit.callS X25 hx (y := (⟨"com/example/tracewarden/tracewarden/net/OrderIsKeptByPinLaw", "pick", "(I)Lcom/example/tracewarden/tracewarden/net/Order;"⟩ : MethodName)) hown (mvT hZ (hw _ (List.mem_of_getElem? (i := 7) rfl))) (mvT hZ (hw _ (List.mem_of_getElem? (i := 8) rfl))) (mvT hZ (hw _ (List.mem_of_getElem? (i := 2) rfl))) (mvT hZ (hw _ (List.mem_of_getElem? (i := 9) rfl))) (by decide) (backOf (W := 0) (rm3 l Z aw hw [] y3 wS wR wE wI h0 n0 Z0 S_s S_r S_e S_i) hZ (hw _ (List.mem_of_getElem? (i := 9) rfl)) (hw _ (List.mem_of_getElem? (i := 2) rfl)) (by decide) (by decide)) (g := (mkF m 44 #[.val (.int p0), .val (.int p1), .val (.int y3), .val (.int y7), .val (.int (1 : Int32))] [(.int y3)])) rfl (by rw [hml]; rfl) (argsL := [(.int y3)]) (rest := []) (lenOf own_pd1 rfl) rfl (by show 2 * 0 + _ ≤ _; exact Nat.le_of_eq rfl) (hb hby at_44) (fun _ _ => ⟨rfl, e25, (by decide : 0 + 0 ≤ _), (by decide : 0 + 0 ≤ _)⟩)
      dsimp only [Pt.U, Pt.locs, Pt.cells, Pt.slots] at X27 l27 y27 z27 st27 hQ27
      subst l27 y27 z27
      obtain ⟨rfl, N27q, e27⟩ := hQ27
      have N27 := Fr.app N25 N27q
      refine own_go (U' := T27.setTop (mkF m 47 #[.val (.int p0), .val (.int p1), .val (.int y3), .val (.int y7), .val (.int (1 : Int32))] [(.ref (f_3 y3 wS wR wE wI))])) (fun _ k => st27 _ k) ?_
      refine own_go (U' := T27.setTop (mkF m 48 #[.val (.int p0), .val (.int p1), .val (.int y3), .val (.int y7), .val (.int (1 : Int32))] [(.int y7), (.ref (f_3 y3 wS wR wE wI))])) (fun _ k => XS.iloadN X27.here hx rfl (hb hby at_47) rfl k) ?_
      obtain ⟨_, _, ⟨T28, L28, k28, n28⟩, -, X28, ⟨Lc28, hQ28, l28, y28, z28⟩, st28⟩ := Jvm.LawKit.callS X27 hx (y := (⟨"com/example/tracewarden/tracewarden/net/OrderIsKeptByPinLaw", "pick", "(I)Lcom/example/tracewarden/tracewarden/net/Order;"⟩ : MethodName)) hown (mvT hZ (hw _ (List.mem_of_getElem? (i := 7) rfl))) (mvT hZ (hw _ (List.mem_of_getElem? (i := 8) rfl))) (mvT hZ (hw _ (List.mem_of_getElem? (i := 2) rfl))) (mvT hZ (hw _ (List.mem_of_getElem? (i := 9) rfl))) (by decide) (backOf (W := 1) (rm3 l Z aw hw [] y7 wS wR wE wI h0 n0 Z0 S_s S_r S_e S_i) hZ (hw _ (List.mem_of_getElem? (i := 9) rfl)) (hw _ (List.mem_of_getElem? (i := 2) rfl)) (by decide) (by decide)) (g := (mkF m 48 #[.val (.int p0), .val (.int p1), .val (.int y3), .val (.int y7), .val (.int (1 : Int32))] [(.int y7), (.ref (f_3 y3 wS wR wE wI))])) rfl (by rw [hml]; rfl) (argsL := [(.int y7)]) (rest := [(.ref (f_3 y3 wS wR wE wI))]) (lenOf own_pd1 rfl) rfl (by show 2 * 0 + _ ≤ _; exact Nat.le_of_eq rfl) (hb hby at_48) (fun _ _ => ⟨rfl, e27, (by decide : 0 + 0 ≤ _), (by decide : 0 + 0 ≤ _)⟩)
      dsimp only [Pt.U, Pt.locs, Pt.cells, Pt.slots] at X28 l28 y28 z28 st28 hQ28
      subst l28 y28 z28
      obtain ⟨rfl, N28q, e28⟩ := hQ28
      have N28 := Fr.app N27 N28q
      refine own_go (U' := T28.setTop (mkF m 51 #[.val (.int p0), .val (.int p1), .val (.int y3), .val (.int y7), .val (.int (1 : Int32))] [(.ref (f_3 y7 wS wR wE wI)), (.ref (f_3 y3 wS wR wE wI))])) (fun _ k => st28 _ k) ?_
      have E_o : Exa Z h0 (f_3 y3 wS wR wE wI) "com/example/tracewarden/tracewarden/net/Order" := by unfold f_3; (repeat' split) <;> assumption
      obtain ⟨cq29, kq29, q29a, q29b, q29c⟩ := isOf hZ e28 E_o
      obtain ⟨_, _, ⟨T29, L29, k29, n29⟩, -, X29, ⟨Lc29, hQ29, l29, y29, z29⟩, st29⟩ := X28.virtualBack hx (y := (⟨"com/example/tracewarden/tracewarden/net/Order", "isKeptBy", "(Lcom/example/tracewarden/tracewarden/net/Order;)Z"⟩ : MethodName)) (z := (⟨"com/example/tracewarden/tracewarden/net/Order", "isKeptBy", "(Lcom/example/tracewarden/tracewarden/net/Order;)Z"⟩ : MethodName)) hown (mvT hZ (hw _ (List.mem_of_getElem? (i := 15) rfl))) (mvT hZ (hw _ (List.mem_of_getElem? (i := 16) rfl))) (notFace_of_selects (args := #[]) (mvT hZ (hw _ (List.mem_of_getElem? (i := 18) rfl)))) (mvT hZ (hw _ (List.mem_of_getElem? (i := 18) rfl))) (mvT hZ (hw _ (List.mem_of_getElem? (i := 17) rfl))) (by decide) (backOf (W := 0) (rm4 l Z aw hw [] (f_3 y3 wS wR wE wI) (f_3 y7 wS wR wE wI) wS wR wE wI h0 n0 Z0 S_s S_r S_e S_i) hZ (hw _ (List.mem_of_getElem? (i := 19) rfl)) (hw _ (List.mem_of_getElem? (i := 11) rfl)) (by decide) (by decide)) q29a q29c (g := (mkF m 51 #[.val (.int p0), .val (.int p1), .val (.int y3), .val (.int y7), .val (.int (1 : Int32))] [(.ref (f_3 y7 wS wR wE wI)), (.ref (f_3 y3 wS wR wE wI))])) rfl (by rw [hml]; rfl) (Steps.refl _) (argsL := [(.ref (f_3 y7 wS wR wE wI))]) (rest := []) (lenOf own_pd2 rfl) rfl (by show 2 * 0 + _ ≤ _; exact Nat.le_of_eq rfl) (hb hby at_51) (fun _ _ => ⟨rfl, e28, (by decide : 0 + 0 ≤ _), (by decide : 0 + 0 ≤ _)⟩)
      dsimp only [Pt.U, Pt.locs, Pt.cells, Pt.slots] at X29 l29 y29 z29 st29 hQ29
      subst l29 y29 z29
      obtain ⟨rfl, N29q, e29⟩ := hQ29
      have N29 := Fr.app N28 N29q
      refine own_go (U' := T29.setTop (mkF m 54 #[.val (.int p0), .val (.int p1), .val (.int y3), .val (.int y7), .val (.int (1 : Int32))] [(.int (f_4 (f_3 y3 wS wR wE wI) (f_3 y7 wS wR wE wI) wS wR wE wI))])) (fun _ k => st29.trans k) ?_
      refine own_go (U' := T29.setTop (mkF m 56 #[.val (.int p0), .val (.int p1), .val (.int y3), .val (.int y7), .val (.int (1 : Int32))] [(.int (1 : Int32)), (.int (f_4 (f_3 y3 wS wR wE wI) (f_3 y7 wS wR wE wI) wS wR wE wI))])) (fun _ k => XS.iload X29.here hx rfl (hb hby at_54) rfl k) ?_
      have hc56_30 : (f_4 (f_3 y3 wS wR wE wI) (f_3 y7 wS wR wE wI) wS wR wE wI) = (1 : Int32) := (own_fin hy3 hy7 d1 d2 d3 d4 d5 d6).trans (by simp [d1, d2, d3, d4, d5, d6, hc12_24, hc26_26])
      refine own_go (U' := T29.setTop (mkF m 59 #[.val (.int p0), .val (.int p1), .val (.int y3), .val (.int y7), .val (.int (1 : Int32))] [])) (fun _ k => XS.icmpNo X29.here hx rfl (hb hby at_56) rfl (teq hc56_30).2 k) ?_
      refine own_go (U' := T29.setTop (mkF m 60 #[.val (.int p0), .val (.int p1), .val (.int y3), .val (.int y7), .val (.int (1 : Int32))] [(.int (1 : Int32))])) (fun _ k => XS.iconst X29.here hx rfl (hb hby at_59) k) ?_
      refine own_go (U' := T29.setTop (mkF m 64 #[.val (.int p0), .val (.int p1), .val (.int y3), .val (.int y7), .val (.int (1 : Int32))] [(.int (1 : Int32))])) (fun _ k => XS.goto X29.here hx rfl (pc0 := 60) (pc' := 64) rfl (hb hby at_60) (by decide) (by decide) k) ?_
      refine own_ret X29 (v := (some (.int (1 : Int32)))) hlk (fun h => by rw [Bd.returns] at h; cases h) (by decide) (by decide) (fun fs hr => retN X29 hx (t := .boolean) Bd.returns (by simp) (hb hby at_64) hr) ?_
      show (Q0 Z p0 p1 wS wR wE wI h0 n0) _ T29.heap _
      rw [e29]
      exact ⟨rfl, N29⟩
    · refine own_go (U' := T25.setTop (mkF m 29 #[.val (.int p0), .val (.int p1), .val (.int y3), .val (.int y7), .unset] [])) (fun _ k => XS.ifNo X25.here hx rfl (hb hby at_26) rfl ((if0 _ _).trans (feq hc26_26).1) k) ?_
      refine own_go (U' := T25.setTop (mkF m 30 #[.val (.int p0), .val (.int p1), .val (.int y3), .val (.int y7), .unset] [(.int y3)])) (fun _ k => XS.iloadN X25.here hx rfl (hb hby at_29) rfl k) ?_
      obtain ⟨_, _, ⟨T31, L31, k31, n31⟩, -, X31, ⟨Lc31, hQ31, l31, y31, z31⟩, st31⟩ := Jvm.LawKit.callS X25 hx (y := (⟨"com/example/tracewarden/tracewarden/net/OrderIsKeptByPinLaw", "secondBefore", "(I)Z"⟩ : MethodName)) hown (mvT hZ (hw _ (List.mem_of_getElem? (i := 4) rfl))) (mvT hZ (hw _ (List.mem_of_getElem? (i := 5) rfl))) (mvT hZ (hw _ (List.mem_of_getElem? (i := 2) rfl))) (mvT hZ (hw _ (List.mem_of_getElem? (i := 6) rfl))) (by decide) (backOf (W := 0) (rm2 l Z aw hw [] y3 h0 n0 Z0 ) hZ (hw _ (List.mem_of_getElem? (i := 6) rfl)) (hw _ (List.mem_of_getElem? (i := 2) rfl)) (by decide) (by decide)) (g := (mkF m 30 #[.val (.int p0), .val (.int p1), .val (.int y3), .val (.int y7), .unset] [(.int y3)])) rfl (by rw [hml]; rfl) (argsL := [(.int y3)]) (rest := []) (lenOf own_pd0 rfl) rfl (by show 2 * 0 + _ ≤ _; exact Nat.le_of_eq rfl) (hb hby at_30) (fun _ _ => ⟨rfl, e25, (by decide : 0 + 0 ≤ _), (by decide : 0 + 0 ≤ _)⟩)
      dsimp only [Pt.U, Pt.locs, Pt.cells, Pt.slots] at X31 l31 y31 z31 st31 hQ31
      subst l31 y31 z31
      obtain ⟨rfl, N31q, e31⟩ := hQ31
      have N31 := Fr.app N25 N31q
      refine own_go (U' := T31.setTop (mkF m 33 #[.val (.int p0), .val (.int p1), .val (.int y3), .val (.int y7), .unset] [(.int (f_2 y3))])) (fun _ k => st31 _ k) ?_
      by_cases hc33_32 : (f_2 y3) = (0 : Int32)
      · refine own_go (U' := T31.setTop (mkF m 40 #[.val (.int p0), .val (.int p1), .val (.int y3), .val (.int y7), .unset] [])) (fun _ k => XS.ifYes X31.here hx rfl (pc0 := 33) (pc' := 40) rfl (hb hby at_33) rfl ((if0 _ _).trans (teq hc33_32).1) (by decide) (by decide) k) ?_
        refine own_go (U' := T31.setTop (mkF m 41 #[.val (.int p0), .val (.int p1), .val (.int y3), .val (.int y7), .unset] [(.int (0 : Int32))])) (fun _ k => XS.iconst X31.here hx rfl (hb hby at_40) k) ?_
        refine own_go (U' := T31.setTop (mkF m 43 #[.val (.int p0), .val (.int p1), .val (.int y3), .val (.int y7), .val (.int (0 : Int32))] [])) (fun _ k => XS.istore X31.here hx rfl (hb hby at_41) rfl (l' := #[.val (.int p0), .val (.int p1), .val (.int y3), .val (.int y7), .val (.int (0 : Int32))]) rfl k) ?_
        refine own_go (U' := T31.setTop (mkF m 44 #[.val (.int p0), .val (.int p1), .val (.int y3), .val (.int y7), .val (.int (0 : Int32))] [(.int y3)])) (fun _ k => XS.iloadN X31.here hx rfl (hb hby at_43) rfl k) ?_
        obtain ⟨_, _, ⟨T33, L33, k33, n33⟩, -, X33, ⟨Lc33, hQ33, l33, y33, z33⟩, st33⟩ := Jvm.LawKit.callS X31 hx (y := (⟨"com/example/tracewarden/tracewarden/net/OrderIsKeptByPinLaw", "pick", "(I)Lcom/example/tracewarden/tracewarden/net/Order;"⟩ : MethodName)) hown (mvT hZ (hw _ (List.mem_of_getElem? (i := 7) rfl))) (mvT hZ (hw _ (List.mem_of_getElem? (i := 8) rfl))) (mvT hZ (hw _ (List.mem_of_getElem? (i := 2) rfl))) (mvT hZ (hw _ (List.mem_of_getElem? (i := 9) rfl))) (by decide) (backOf (W := 0) (rm3 l Z aw hw [] y3 wS wR wE wI h0 n0 Z0 S_s S_r S_e S_i) hZ (hw _ (List.mem_of_getElem? (i := 9) rfl)) (hw _ (List.mem_of_getElem? (i := 2) rfl)) (by decide) (by decide)) (g := (mkF m 44 #[.val (.int p0), .val (.int p1), .val (.int y3), .val (.int y7), .val (.int (0 : Int32))] [(.int y3)])) rfl (by rw [hml]; rfl) (argsL := [(.int y3)]) (rest := []) (lenOf own_pd1 rfl) rfl (by show 2 * 0 + _ ≤ _; exact Nat.le_of_eq rfl) (hb hby at_44) (fun _ _ => ⟨rfl, e31, (by decide : 0 + 0 ≤ _), (by decide : 0 + 0 ≤ _)⟩)
        dsimp only [Pt.U, Pt.locs, Pt.cells, Pt.slots] at X33 l33 y33 z33 st33 hQ33
        subst l33 y33 z33
        obtain ⟨rfl, N33q, e33⟩ := hQ33
        have N33 := Fr.app N31 N33q
        refine own_go (U' := T33.setTop (mkF m 47 #[.val (.int p0), .val (.int p1), .val (.int y3), .val (.int y7), .val (.int (0 : Int32))] [(.ref (f_3 y3 wS wR wE wI))])) (fun _ k => st33 _ k) ?_
        refine own_go (U' := T33.setTop (mkF m 48 #[.val (.int p0), .val (.int p1), .val (.int y3), .val (.int y7), .val (.int (0 : Int32))] [(.int y7), (.ref (f_3 y3 wS wR wE wI))])) (fun _ k => XS.iloadN X33.here hx rfl (hb hby at_47) rfl k) ?_
        obtain ⟨_, _, ⟨T34, L34, k34, n34⟩, -, X34, ⟨Lc34, hQ34, l34, y34, z34⟩, st34⟩ := Jvm.LawKit.callS X33 hx (y := (⟨"com/example/tracewarden/tracewarden/net/OrderIsKeptByPinLaw", "pick", "(I)Lcom/example/tracewarden/tracewarden/net/Order;"⟩ : MethodName)) hown (mvT hZ (hw _ (List.mem_of_getElem? (i := 7) rfl))) (mvT hZ (hw _ (List.mem_of_getElem? (i := 8) rfl))) (mvT hZ (hw _ (List.mem_of_getElem? (i := 2) rfl))) (mvT hZ (hw _ (List.mem_of_getElem? (i := 9) rfl))) (by decide) (backOf (W := 1) (rm3 l Z aw hw [] y7 wS wR wE wI h0 n0 Z0 S_s S_r S_e S_i) hZ (hw _ (List.mem_of_getElem? (i := 9) rfl)) (hw _ (List.mem_of_getElem? (i := 2) rfl)) (by decide) (by decide)) (g := (mkF m 48 #[.val (.int p0), .val (.int p1), .val (.int y3), .val (.int y7), .val (.int (0 : Int32))] [(.int y7), (.ref (f_3 y3 wS wR wE wI))])) rfl (by rw [hml]; rfl) (argsL := [(.int y7)]) (rest := [(.ref (f_3 y3 wS wR wE wI))]) (lenOf own_pd1 rfl) rfl (by show 2 * 0 + _ ≤ _; exact Nat.le_of_eq rfl) (hb hby at_48) (fun _ _ => ⟨rfl, e33, (by decide : 0 + 0 ≤ _), (by decide : 0 + 0 ≤ _)⟩)
        dsimp only [Pt.U, Pt.locs, Pt.cells, Pt.slots] at X34 l34 y34 z34 st34 hQ34
        subst l34 y34 z34
        obtain ⟨rfl, N34q, e34⟩ := hQ34
        have N34 := Fr.app N33 N34q
        refine own_go (U' := T34.setTop (mkF m 51 #[.val (.int p0), .val (.int p1), .val (.int y3), .val (.int y7), .val (.int (0 : Int32))] [(.ref (f_3 y7 wS wR wE wI)), (.ref (f_3 y3 wS wR wE wI))])) (fun _ k => st34 _ k) ?_
        have E_o : Exa Z h0 (f_3 y3 wS wR wE wI) "com/example/tracewarden/tracewarden/net/Order" := by unfold f_3; (repeat' split) <;> assumption
        obtain ⟨cq35, kq35, q35a, q35b, q35c⟩ := isOf hZ e34 E_o
        obtain ⟨_, _, ⟨T35, L35, k35, n35⟩, -, X35, ⟨Lc35, hQ35, l35, y35, z35⟩, st35⟩ := X34.virtualBack hx (y := (⟨"com/example/tracewarden/tracewarden/net/Order", "isKeptBy", "(Lcom/example/tracewarden/tracewarden/net/Order;)Z"⟩ : MethodName)) (z := (⟨"com/example/tracewarden/tracewarden/net/Order", "isKeptBy", "(Lcom/example/tracewarden/tracewarden/net/Order;)Z"⟩ : MethodName)) hown (mvT hZ (hw _ (List.mem_of_getElem? (i := 15) rfl))) (mvT hZ (hw _ (List.mem_of_getElem? (i := 16) rfl))) (notFace_of_selects (args := #[]) (mvT hZ (hw _ (List.mem_of_getElem? (i := 18) rfl)))) (mvT hZ (hw _ (List.mem_of_getElem? (i := 18) rfl))) (mvT hZ (hw _ (List.mem_of_getElem? (i := 17) rfl))) (by decide) (backOf (W := 0) (rm4 l Z aw hw [] (f_3 y3 wS wR wE wI) (f_3 y7 wS wR wE wI) wS wR wE wI h0 n0 Z0 S_s S_r S_e S_i) hZ (hw _ (List.mem_of_getElem? (i := 19) rfl)) (hw _ (List.mem_of_getElem? (i := 11) rfl)) (by decide) (by decide)) q35a q35c (g := (mkF m 51 #[.val (.int p0), .val (.int p1), .val (.int y3), .val (.int y7), .val (.int (0 : Int32))] [(.ref (f_3 y7 wS wR wE wI)), (.ref (f_3 y3 wS wR wE wI))])) rfl (by rw [hml]; rfl) (Steps.refl _) (argsL := [(.ref (f_3 y7 wS wR wE wI))]) (rest := []) (lenOf own_pd2 rfl) rfl (by show 2 * 0 + _ ≤ _; exact Nat.le_of_eq rfl) (hb hby at_51) (fun _ _ => ⟨rfl, e34, (by decide : 0 + 0 ≤ _), (by decide : 0 + 0 ≤ _)⟩)
        dsimp only [Pt.U, Pt.locs, Pt.cells, Pt.slots] at X35 l35 y35 z35 st35 hQ35
        subst l35 y35 z35
        obtain ⟨rfl, N35q, e35⟩ := hQ35
        have N35 := Fr.app N34 N35q
        refine own_go (U' := T35.setTop (mkF m 54 #[.val (.int p0), .val (.int p1), .val (.int y3), .val (.int y7), .val (.int (0 : Int32))] [(.int (f_4 (f_3 y3 wS wR wE wI) (f_3 y7 wS wR wE wI) wS wR wE wI))])) (fun _ k => st35.trans k) ?_
        refine own_go (U' := T35.setTop (mkF m 56 #[.val (.int p0), .val (.int p1), .val (.int y3), .val (.int y7), .val (.int (0 : Int32))] [(.int (0 : Int32)), (.int (f_4 (f_3 y3 wS wR wE wI) (f_3 y7 wS wR wE wI) wS wR wE wI))])) (fun _ k => XS.iload X35.here hx rfl (hb hby at_54) rfl k) ?_
        have hc56_36 : (f_4 (f_3 y3 wS wR wE wI) (f_3 y7 wS wR wE wI) wS wR wE wI) = (0 : Int32) := (own_fin hy3 hy7 d1 d2 d3 d4 d5 d6).trans (by simp [d1, d2, d3, d4, d5, d6, hc12_24, hc26_26, hc33_32])
        refine own_go (U' := T35.setTop (mkF m 59 #[.val (.int p0), .val (.int p1), .val (.int y3), .val (.int y7), .val (.int (0 : Int32))] [])) (fun _ k => XS.icmpNo X35.here hx rfl (hb hby at_56) rfl (teq hc56_36).2 k) ?_
        refine own_go (U' := T35.setTop (mkF m 60 #[.val (.int p0), .val (.int p1), .val (.int y3), .val (.int y7), .val (.int (0 : Int32))] [(.int (1 : Int32))])) (fun _ k => XS.iconst X35.here hx rfl (hb hby at_59) k) ?_
        refine own_go (U' := T35.setTop (mkF m 64 #[.val (.int p0), .val (.int p1), .val (.int y3), .val (.int y7), .val (.int (0 : Int32))] [(.int (1 : Int32))])) (fun _ k => XS.goto X35.here hx rfl (pc0 := 60) (pc' := 64) rfl (hb hby at_60) (by decide) (by decide) k) ?_
        refine own_ret X35 (v := (some (.int (1 : Int32)))) hlk (fun h => by rw [Bd.returns] at h; cases h) (by decide) (by decide) (fun fs hr => retN X35 hx (t := .boolean) Bd.returns (by simp) (hb hby at_64) hr) ?_
        show (Q0 Z p0 p1 wS wR wE wI h0 n0) _ T35.heap _
        rw [e35]
        exact ⟨rfl, N35⟩
      · refine own_go (U' := T31.setTop (mkF m 36 #[.val (.int p0), .val (.int p1), .val (.int y3), .val (.int y7), .unset] [])) (fun _ k => XS.ifNo X31.here hx rfl (hb hby at_33) rfl ((if0 _ _).trans (feq hc33_32).1) k) ?_
        refine own_go (U' := T31.setTop (mkF m 37 #[.val (.int p0), .val (.int p1), .val (.int y3), .val (.int y7), .unset] [(.int (1 : Int32))])) (fun _ k => XS.iconst X31.here hx rfl (hb hby at_36) k) ?_
        refine own_go (U' := T31.setTop (mkF m 41 #[.val (.int p0), .val (.int p1), .val (.int y3), .val (.int y7), .unset] [(.int (1 : Int32))])) (fun _ k => XS.goto X31.here hx rfl (pc0 := 37) (pc' := 41) rfl (hb hby at_37) (by decide) (by decide) k) ?_
        refine own_go (U' := T31.setTop (mkF m 43 #[.val (.int p0), .val (.int p1), .val (.int y3), .val (.int y7), .val (.int (1 : Int32))] [])) (fun _ k => XS.istore X31.here hx rfl (hb hby at_41) rfl (l' := #[.val (.int p0), .val (.int p1), .val (.int y3), .val (.int y7), .val (.int (1 : Int32))]) rfl k) ?_
        refine own_go (U' := T31.setTop (mkF m 44 #[.val (.int p0), .val (.int p1), .val (.int y3), .val (.int y7), .val (.int (1 : Int32))] [(.int y3)])) (fun _ k => XS.iloadN X31.here hx rfl (hb hby at_43) rfl k) ?_
        obtain ⟨_, _, ⟨T37, L37, k37, n37⟩, -, X37, ⟨Lc37, hQ37, l37, y37, z37⟩, st37⟩ := Jvm.LawKit.callS X31 hx (y := (⟨"com/example/tracewarden/tracewarden/net/OrderIsKeptByPinLaw", "pick", "(I)Lcom/example/tracewarden/tracewarden/net/Order;"⟩ : MethodName)) hown (mvT hZ (hw _ (List.mem_of_getElem? (i := 7) rfl))) (mvT hZ (hw _ (List.mem_of_getElem? (i := 8) rfl))) (mvT hZ (hw _ (List.mem_of_getElem? (i := 2) rfl))) (mvT hZ (hw _ (List.mem_of_getElem? (i := 9) rfl))) (by decide) (backOf (W := 0) (rm3 l Z aw hw [] y3 wS wR wE wI h0 n0 Z0 S_s S_r S_e S_i) hZ (hw _ (List.mem_of_getElem? (i := 9) rfl)) (hw _ (List.mem_of_getElem? (i := 2) rfl)) (by decide) (by decide)) (g := (mkF m 44 #[.val (.int p0), .val (.int p1), .val (.int y3), .val (.int y7), .val (.int (1 : Int32))] [(.int y3)])) rfl (by rw [hml]; rfl) (argsL := [(.int y3)]) (rest := []) (lenOf own_pd1 rfl) rfl (by show 2 * 0 + _ ≤ _; exact Nat.le_of_eq rfl) (hb hby at_44) (fun _ _ => ⟨rfl, e31, (by decide : 0 + 0 ≤ _), (by decide : 0 + 0 ≤ _)⟩)
        dsimp only [Pt.U, Pt.locs, Pt.cells, Pt.slots] at X37 l37 y37 z37 st37 hQ37
        subst l37 y37 z37
        obtain ⟨rfl, N37q, e37⟩ := hQ37
        have N37 := Fr.app N31 N37q
        refine own_go (U' := T37.setTop (mkF m 47 #[.val (.int p0), .val (.int p1), .val (.int y3), .val (.int y7), .val (.int (1 : Int32))] [(.ref (f_3 y3 wS wR wE wI))])) (fun _ k => st37 _ k) ?_
        refine own_go (U' := T37.setTop (mkF m 48 #[.val (.int p0), .val (.int p1), .val (.int y3), .val (.int y7), .val (.int (1 : Int32))] [(.int y7), (.ref (f_3 y3 wS wR wE wI))])) (fun _ k => XS.iloadN X37.here hx rfl (hb hby at_47) rfl k) ?_
        obtain ⟨_, _, ⟨T38, L38, k38, n38⟩, -, X38, ⟨Lc38, hQ38, l38, y38, z38⟩, st38⟩ := Jvm.LawKit.callS X37 hx (y := (⟨"com/example/tracewarden/tracewarden/net/OrderIsKeptByPinLaw", "pick", "(I)Lcom/example/tracewarden/tracewarden/net/Order;"⟩ : MethodName)) hown (mvT hZ (hw _ (List.mem_of_getElem? (i := 7) rfl))) (mvT hZ (hw _ (List.mem_of_getElem? (i := 8) rfl))) (mvT hZ (hw _ (List.mem_of_getElem? (i := 2) rfl))) (mvT hZ (hw _ (List.mem_of_getElem? (i := 9) rfl))) (by decide) (backOf (W := 1) (rm3 l Z aw hw [] y7 wS wR wE wI h0 n0 Z0 S_s S_r S_e S_i) hZ (hw _ (List.mem_of_getElem? (i := 9) rfl)) (hw _ (List.mem_of_getElem? (i := 2) rfl)) (by decide) (by decide)) (g := (mkF m 48 #[.val (.int p0), .val (.int p1), .val (.int y3), .val (.int y7), .val (.int (1 : Int32))] [(.int y7), (.ref (f_3 y3 wS wR wE wI))])) rfl (by rw [hml]; rfl) (argsL := [(.int y7)]) (rest := [(.ref (f_3 y3 wS wR wE wI))]) (lenOf own_pd1 rfl) rfl (by show 2 * 0 + _ ≤ _; exact Nat.le_of_eq rfl) (hb hby at_48) (fun _ _ => ⟨rfl, e37, (by decide : 0 + 0 ≤ _), (by decide : 0 + 0 ≤ _)⟩)
        dsimp only [Pt.U, Pt.locs, Pt.cells, Pt.slots] at X38 l38 y38 z38 st38 hQ38
        subst l38 y38 z38
        obtain ⟨rfl, N38q, e38⟩ := hQ38
        have N38 := Fr.app N37 N38q
        refine own_go (U' := T38.setTop (mkF m 51 #[.val (.int p0), .val (.int p1), .val (.int y3), .val (.int y7), .val (.int (1 : Int32))] [(.ref (f_3 y7 wS wR wE wI)), (.ref (f_3 y3 wS wR wE wI))])) (fun _ k => st38 _ k) ?_
        have E_o : Exa Z h0 (f_3 y3 wS wR wE wI) "com/example/tracewarden/tracewarden/net/Order" := by unfold f_3; (repeat' split) <;> assumption
        obtain ⟨cq39, kq39, q39a, q39b, q39c⟩ := isOf hZ e38 E_o
        obtain ⟨_, _, ⟨T39, L39, k39, n39⟩, -, X39, ⟨Lc39, hQ39, l39, y39, z39⟩, st39⟩ := X38.virtualBack hx (y := (⟨"com/example/tracewarden/tracewarden/net/Order", "isKeptBy", "(Lcom/example/tracewarden/tracewarden/net/Order;)Z"⟩ : MethodName)) (z := (⟨"com/example/tracewarden/tracewarden/net/Order", "isKeptBy", "(Lcom/example/tracewarden/tracewarden/net/Order;)Z"⟩ : MethodName)) hown (mvT hZ (hw _ (List.mem_of_getElem? (i := 15) rfl))) (mvT hZ (hw _ (List.mem_of_getElem? (i := 16) rfl))) (notFace_of_selects (args := #[]) (mvT hZ (hw _ (List.mem_of_getElem? (i := 18) rfl)))) (mvT hZ (hw _ (List.mem_of_getElem? (i := 18) rfl))) (mvT hZ (hw _ (List.mem_of_getElem? (i := 17) rfl))) (by decide) (backOf (W := 0) (rm4 l Z aw hw [] (f_3 y3 wS wR wE wI) (f_3 y7 wS wR wE wI) wS wR wE wI h0 n0 Z0 S_s S_r S_e S_i) hZ (hw _ (List.mem_of_getElem? (i := 19) rfl)) (hw _ (List.mem_of_getElem? (i := 11) rfl)) (by decide) (by decide)) q39a q39c (g := (mkF m 51 #[.val (.int p0), .val (.int p1), .val (.int y3), .val (.int y7), .val (.int (1 : Int32))] [(.ref (f_3 y7 wS wR wE wI)), (.ref (f_3 y3 wS wR wE wI))])) rfl (by rw [hml]; rfl) (Steps.refl _) (argsL := [(.ref (f_3 y7 wS wR wE wI))]) (rest := []) (lenOf own_pd2 rfl) rfl (by show 2 * 0 + _ ≤ _; exact Nat.le_of_eq rfl) (hb hby at_51) (fun _ _ => ⟨rfl, e38, (by decide : 0 + 0 ≤ _), (by decide : 0 + 0 ≤ _)⟩)
        dsimp only [Pt.U, Pt.locs, Pt.cells, Pt.slots] at X39 l39 y39 z39 st39 hQ39
        subst l39 y39 z39
        obtain ⟨rfl, N39q, e39⟩ := hQ39
        have N39 := Fr.app N38 N39q
        refine own_go (U' := T39.setTop (mkF m 54 #[.val (.int p0), .val (.int p1), .val (.int y3), .val (.int y7), .val (.int (1 : Int32))] [(.int (f_4 (f_3 y3 wS wR wE wI) (f_3 y7 wS wR wE wI) wS wR wE wI))])) (fun _ k => st39.trans k) ?_
        refine own_go (U' := T39.setTop (mkF m 56 #[.val (.int p0), .val (.int p1), .val (.int y3), .val (.int y7), .val (.int (1 : Int32))] [(.int (1 : Int32)), (.int (f_4 (f_3 y3 wS wR wE wI) (f_3 y7 wS wR wE wI) wS wR wE wI))])) (fun _ k => XS.iload X39.here hx rfl (hb hby at_54) rfl k) ?_
        have hc56_40 : (f_4 (f_3 y3 wS wR wE wI) (f_3 y7 wS wR wE wI) wS wR wE wI) = (1 : Int32) := (own_fin hy3 hy7 d1 d2 d3 d4 d5 d6).trans (by simp [d1, d2, d3, d4, d5, d6, hc12_24, hc26_26, hc33_32])
        refine own_go (U' := T39.setTop (mkF m 59 #[.val (.int p0), .val (.int p1), .val (.int y3), .val (.int y7), .val (.int (1 : Int32))] [])) (fun _ k => XS.icmpNo X39.here hx rfl (hb hby at_56) rfl (teq hc56_40).2 k) ?_
        refine own_go (U' := T39.setTop (mkF m 60 #[.val (.int p0), .val (.int p1), .val (.int y3), .val (.int y7), .val (.int (1 : Int32))] [(.int (1 : Int32))])) (fun _ k => XS.iconst X39.here hx rfl (hb hby at_59) k) ?_
        refine own_go (U' := T39.setTop (mkF m 64 #[.val (.int p0), .val (.int p1), .val (.int y3), .val (.int y7), .val (.int (1 : Int32))] [(.int (1 : Int32))])) (fun _ k => XS.goto X39.here hx rfl (pc0 := 60) (pc' := 64) rfl (hb hby at_60) (by decide) (by decide) k) ?_
        refine own_ret X39 (v := (some (.int (1 : Int32)))) hlk (fun h => by rw [Bd.returns] at h; cases h) (by decide) (by decide) (fun fs hr => retN X39 hx (t := .boolean) Bd.returns (by simp) (hb hby at_64) hr) ?_
        show (Q0 Z p0 p1 wS wR wE wI h0 n0) _ T39.heap _
        rw [e39]
        exact ⟨rfl, N39⟩
  · refine own_go (U' := T23.setTop (mkF m 15 #[.val (.int p0), .val (.int p1), .val (.int y3), .val (.int y7), .unset] [])) (fun _ k => XS.ifNo X23.here hx rfl (hb hby at_12) rfl ((if0 _ _).trans (feq hc12_24).1) k) ?_
    refine own_go (U' := T23.setTop (mkF m 16 #[.val (.int p0), .val (.int p1), .val (.int y3), .val (.int y7), .unset] [(.int y3)])) (fun _ k => XS.iloadN X23.here hx rfl (hb hby at_15) rfl k) ?_
    obtain ⟨_, _, ⟨T41, L41, k41, n41⟩, -, X41, ⟨Lc41, hQ41, l41, y41, z41⟩, st41⟩ := Jvm.LawKit.callS X23 hx (y := (⟨"com/example/tracewarden/tracewarden/net/OrderIsKeptByPinLaw", "firstBefore", "(I)Z"⟩ : MethodName)) hown (mvT hZ (hw _ (List.mem_of_getElem? (i := 0) rfl))) (mvT hZ (hw _ (List.mem_of_getElem? (i := 1) rfl))) (mvT hZ (hw _ (List.mem_of_getElem? (i := 2) rfl))) (mvT hZ (hw _ (List.mem_of_getElem? (i := 3) rfl))) (by decide) (backOf (W := 0) (rm1 l Z aw hw [] y3 h0 n0 Z0 ) hZ (hw _ (List.mem_of_getElem? (i := 3) rfl)) (hw _ (List.mem_of_getElem? (i := 2) rfl)) (by decide) (by decide)) (g := (mkF m 16 #[.val (.int p0), .val (.int p1), .val (.int y3), .val (.int y7), .unset] [(.int y3)])) rfl (by rw [hml]; rfl) (argsL := [(.int y3)]) (rest := []) (lenOf own_pd0 rfl) rfl (by show 2 * 0 + _ ≤ _; exact Nat.le_of_eq rfl) (hb hby at_16) (fun _ _ => ⟨rfl, e23, (by decide : 0 + 0 ≤ _), (by decide : 0 + 0 ≤ _)⟩)
    dsimp only [Pt.U, Pt.locs, Pt.cells, Pt.slots] at X41 l41 y41 z41 st41 hQ41
    subst l41 y41 z41
    obtain ⟨rfl, N41q, e41⟩ := hQ41
    have N41 := Fr.app N23 N41q
    refine own_go (U' := T41.setTop (mkF m 19 #[.val (.int p0), .val (.int p1), .val (.int y3), .val (.int y7), .unset] [(.int (f_1 y3))])) (fun _ k => st41 _ k) ?_
    by_cases hc19_42 : (f_1 y3) = (0 : Int32)
    · refine own_go (U' := T41.setTop (mkF m 40 #[.val (.int p0), .val (.int p1), .val (.int y3), .val (.int y7), .unset] [])) (fun _ k => XS.ifYes X41.here hx rfl (pc0 := 19) (pc' := 40) rfl (hb hby at_19) rfl ((if0 _ _).trans (teq hc19_42).1) (by decide) (by decide) k) ?_
      refine own_go (U' := T41.setTop (mkF m 41 #[.val (.int p0), .val (.int p1), .val (.int y3), .val (.int y7), .unset] [(.int (0 : Int32))])) (fun _ k => XS.iconst X41.here hx rfl (hb hby at_40) k) ?_
      refine own_go (U' := T41.setTop (mkF m 43 #[.val (.int p0), .val (.int p1), .val (.int y3), .val (.int y7), .val (.int (0 : Int32))] [])) (fun _ k => XS.istore X41.here hx rfl (hb hby at_41) rfl (l' := #[.val (.int p0), .val (.int p1), .val (.int y3), .val (.int y7), .val (.int (0 : Int32))]) rfl k) ?_
      refine own_go (U' := T41.setTop (mkF m 44 #[.val (.int p0), .val (.int p1), .val (.int y3), .val (.int y7), .val (.int (0 : Int32))] [(.int y3)])) (fun _ k => XS.iloadN X41.here hx rfl (hb hby at_43) rfl k) ?_
      obtain ⟨_, _, ⟨T43, L43, k43, n43⟩, -, X43, ⟨Lc43, hQ43, l43, y43, z43⟩, st43⟩ := Jvm.LawKit.callS X41 hx (y := (⟨"com/example/tracewarden/tracewarden/net/OrderIsKeptByPinLaw", "pick", "(I)Lcom/example/tracewarden/tracewarden/net/Order;"⟩ : MethodName)) hown (mvT hZ (hw _ (List.mem_of_getElem? (i := 7) rfl))) (mvT hZ (hw _ (List.mem_of_getElem? (i := 8) rfl))) (mvT hZ (hw _ (List.mem_of_getElem? (i := 2) rfl))) (mvT hZ (hw _ (List.mem_of_getElem? (i := 9) rfl))) (by decide) (backOf (W := 0) (rm3 l Z aw hw [] y3 wS wR wE wI h0 n0 Z0 S_s S_r S_e S_i) hZ (hw _ (List.mem_of_getElem? (i := 9) rfl)) (hw _ (List.mem_of_getElem? (i := 2) rfl)) (by decide) (by decide)) (g := (mkF m 44 #[.val (.int p0), .val (.int p1), .val (.int y3), .val (.int y7), .val (.int (0 : Int32))] [(.int y3)])) rfl (by rw [hml]; rfl) (argsL := [(.int y3)]) (rest := []) (lenOf own_pd1 rfl) rfl (by show 2 * 0 + _ ≤ _; exact Nat.le_of_eq rfl) (hb hby at_44) (fun _ _ => ⟨rfl, e41, (by decide : 0 + 0 ≤ _), (by decide : 0 + 0 ≤ _)⟩)
      dsimp only [Pt.U, Pt.locs, Pt.cells, Pt.slots] at X43 l43 y43 z43 st43 hQ43
      subst l43 y43 z43
      obtain ⟨rfl, N43q, e43⟩ := hQ43
      have N43 := Fr.app N41 N43q
      refine own_go (U' := T43.setTop (mkF m 47 #[.val (.int p0), .val (.int p1), .val (.int y3), .val (.int y7), .val (.int (0 : Int32))] [(.ref (f_3 y3 wS wR wE wI))])) (fun _ k => st43 _ k) ?_
      refine own_go (U' := T43.setTop (mkF m 48 #[.val (.int p0), .val (.int p1), .val (.int y3), .val (.int y7), .val (.int (0 : Int32))] [(.int y7), (.ref (f_3 y3 wS wR wE wI))])) (fun _ k => XS.iloadN X43.here hx rfl (hb hby at_47) rfl k) ?_
      obtain ⟨_, _, ⟨T44, L44, k44, n44⟩, -, X44, ⟨Lc44, hQ44, l44, y44, z44⟩, st44⟩ := Jvm.LawKit.callS X43 hx (y := (⟨"com/example/tracewarden/tracewarden/net/OrderIsKeptByPinLaw", "pick", "(I)Lcom/example/tracewarden/tracewarden/net/Order;"⟩ : MethodName)) hown (mvT hZ (hw _ (List.mem_of_getElem? (i := 7) rfl))) (mvT hZ (hw _ (List.mem_of_getElem? (i := 8) rfl))) (mvT hZ (hw _ (List.mem_of_getElem? (i := 2) rfl))) (mvT hZ (hw _ (List.mem_of_getElem? (i := 9) rfl))) (by decide) (backOf (W := 1) (rm3 l Z aw hw [] y7 wS wR wE wI h0 n0 Z0 S_s S_r S_e S_i) hZ (hw _ (List.mem_of_getElem? (i := 9) rfl)) (hw _ (List.mem_of_getElem? (i := 2) rfl)) (by decide) (by decide)) (g := (mkF m 48 #[.val (.int p0), .val (.int p1), .val (.int y3), .val (.int y7), .val (.int (0 : Int32))] [(.int y7), (.ref (f_3 y3 wS wR wE wI))])) rfl (by rw [hml]; rfl) (argsL := [(.int y7)]) (rest := [(.ref (f_3 y3 wS wR wE wI))]) (lenOf own_pd1 rfl) rfl (by show 2 * 0 + _ ≤ _; exact Nat.le_of_eq rfl) (hb hby at_48) (fun _ _ => ⟨rfl, e43, (by decide : 0 + 0 ≤ _), (by decide : 0 + 0 ≤ _)⟩)
      dsimp only [Pt.U, Pt.locs, Pt.cells, Pt.slots] at X44 l44 y44 z44 st44 hQ44
      subst l44 y44 z44
      obtain ⟨rfl, N44q, e44⟩ := hQ44
      have N44 := Fr.app N43 N44q
      refine own_go (U' := T44.setTop (mkF m 51 #[.val (.int p0), .val (.int p1), .val (.int y3), .val (.int y7), .val (.int (0 : Int32))] [(.ref (f_3 y7 wS wR wE wI)), (.ref (f_3 y3 wS wR wE wI))])) (fun _ k => st44 _ k) ?_
      have E_o : Exa Z h0 (f_3 y3 wS wR wE wI) "com/example/tracewarden/tracewarden/net/Order" := by unfold f_3; (repeat' split) <;> assumption
      obtain ⟨cq45, kq45, q45a, q45b, q45c⟩ := isOf hZ e44 E_o
      obtain ⟨_, _, ⟨T45, L45, k45, n45⟩, -, X45, ⟨Lc45, hQ45, l45, y45, z45⟩, st45⟩ := X44.virtualBack hx (y := (⟨"com/example/tracewarden/tracewarden/net/Order", "isKeptBy", "(Lcom/example/tracewarden/tracewarden/net/Order;)Z"⟩ : MethodName)) (z := (⟨"com/example/tracewarden/tracewarden/net/Order", "isKeptBy", "(Lcom/example/tracewarden/tracewarden/net/Order;)Z"⟩ : MethodName)) hown (mvT hZ (hw _ (List.mem_of_getElem? (i := 15) rfl))) (mvT hZ (hw _ (List.mem_of_getElem? (i := 16) rfl))) (notFace_of_selects (args := #[]) (mvT hZ (hw _ (List.mem_of_getElem? (i := 18) rfl)))) (mvT hZ (hw _ (List.mem_of_getElem? (i := 18) rfl))) (mvT hZ (hw _ (List.mem_of_getElem? (i := 17) rfl))) (by decide) (backOf (W := 0) (rm4 l Z aw hw [] (f_3 y3 wS wR wE wI) (f_3 y7 wS wR wE wI) wS wR wE wI h0 n0 Z0 S_s S_r S_e S_i) hZ (hw _ (List.mem_of_getElem? (i := 19) rfl)) (hw _ (List.mem_of_getElem? (i := 11) rfl)) (by decide) (by decide)) q45a q45c (g := (mkF m 51 #[.val (.int p0), .val (.int p1), .val (.int y3), .val (.int y7), .val (.int (0 : Int32))] [(.ref (f_3 y7 wS wR wE wI)), (.ref (f_3 y3 wS wR wE wI))])) rfl (by rw [hml]; rfl) (Steps.refl _) (argsL := [(.ref (f_3 y7 wS wR wE wI))]) (rest := []) (lenOf own_pd2 rfl) rfl (by show 2 * 0 + _ ≤ _; exact Nat.le_of_eq rfl) (hb hby at_51) (fun _ _ => ⟨rfl, e44, (by decide : 0 + 0 ≤ _), (by decide : 0 + 0 ≤ _)⟩)
      dsimp only [Pt.U, Pt.locs, Pt.cells, Pt.slots] at X45 l45 y45 z45 st45 hQ45
      subst l45 y45 z45
      obtain ⟨rfl, N45q, e45⟩ := hQ45
      have N45 := Fr.app N44 N45q
      refine own_go (U' := T45.setTop (mkF m 54 #[.val (.int p0), .val (.int p1), .val (.int y3), .val (.int y7), .val (.int (0 : Int32))] [(.int (f_4 (f_3 y3 wS wR wE wI) (f_3 y7 wS wR wE wI) wS wR wE wI))])) (fun _ k => st45.trans k) ?_
      refine own_go (U' := T45.setTop (mkF m 56 #[.val (.int p0), .val (.int p1), .val (.int y3), .val (.int y7), .val (.int (0 : Int32))] [(.int (0 : Int32)), (.int (f_4 (f_3 y3 wS wR wE wI) (f_3 y7 wS wR wE wI) wS wR wE wI))])) (fun _ k => XS.iload X45.here hx rfl (hb hby at_54) rfl k) ?_
      have hc56_46 : (f_4 (f_3 y3 wS wR wE wI) (f_3 y7 wS wR wE wI) wS wR wE wI) = (0 : Int32) := (own_fin hy3 hy7 d1 d2 d3 d4 d5 d6).trans (by simp [d1, d2, d3, d4, d5, d6, hc12_24, hc19_42])
      refine own_go (U' := T45.setTop (mkF m 59 #[.val (.int p0), .val (.int p1), .val (.int y3), .val (.int y7), .val (.int (0 : Int32))] [])) (fun _ k => XS.icmpNo X45.here hx rfl (hb hby at_56) rfl (teq hc56_46).2 k) ?_
      refine own_go (U' := T45.setTop (mkF m 60 #[.val (.int p0), .val (.int p1), .val (.int y3), .val (.int y7), .val (.int (0 : Int32))] [(.int (1 : Int32))])) (fun _ k => XS.iconst X45.here hx rfl (hb hby at_59) k) ?_
      refine own_go (U' := T45.setTop (mkF m 64 #[.val (.int p0), .val (.int p1), .val (.int y3), .val (.int y7), .val (.int (0 : Int32))] [(.int (1 : Int32))])) (fun _ k => XS.goto X45.here hx rfl (pc0 := 60) (pc' := 64) rfl (hb hby at_60) (by decide) (by decide) k) ?_
      refine own_ret X45 (v := (some (.int (1 : Int32)))) hlk (fun h => by rw [Bd.returns] at h; cases h) (by decide) (by decide) (fun fs hr => retN X45 hx (t := .boolean) Bd.returns (by simp) (hb hby at_64) hr) ?_
      show (Q0 Z p0 p1 wS wR wE wI h0 n0) _ T45.heap _
      rw [e45]
      exact ⟨rfl, N45⟩
    · refine own_go (U' := T41.setTop (mkF m 22 #[.val (.int p0), .val (.int p1), .val (.int y3), .val (.int y7), .unset] [])) (fun _ k => XS.ifNo X41.here hx rfl (hb hby at_19) rfl ((if0 _ _).trans (feq hc19_42).1) k) ?_
      refine own_go (U' := T41.setTop (mkF m 23 #[.val (.int p0), .val (.int p1), .val (.int y3), .val (.int y7), .unset] [(.int y7)])) (fun _ k => XS.iloadN X41.here hx rfl (hb hby at_22) rfl k) ?_
      obtain ⟨_, _, ⟨T47, L47, k47, n47⟩, -, X47, ⟨Lc47, hQ47, l47, y47, z47⟩, st47⟩ := Jvm.LawKit.callS X41 hx (y := (⟨"com/example/tracewarden/tracewarden/net/OrderIsKeptByPinLaw", "secondBefore", "(I)Z"⟩ : MethodName)) hown (mvT hZ (hw _ (List.mem_of_getElem? (i := 4) rfl))) (mvT hZ (hw _ (List.mem_of_getElem? (i := 5) rfl))) (mvT hZ (hw _ (List.mem_of_getElem? (i := 2) rfl))) (mvT hZ (hw _ (List.mem_of_getElem? (i := 6) rfl))) (by decide) (backOf (W := 0) (rm2 l Z aw hw [] y7 h0 n0 Z0 ) hZ (hw _ (List.mem_of_getElem? (i := 6) rfl)) (hw _ (List.mem_of_getElem? (i := 2) rfl)) (by decide) (by decide)) (g := (mkF m 23 #[.val (.int p0), .val (.int p1), .val (.int y3), .val (.int y7), .unset] [(.int y7)])) rfl (by rw [hml]; rfl) (argsL := [(.int y7)]) (rest := []) (lenOf own_pd0 rfl) rfl (by show 2 * 0 + _ ≤ _; exact Nat.le_of_eq rfl) (hb hby at_23) (fun _ _ => ⟨rfl, e41, (by decide : 0 + 0 ≤ _), (by decide : 0 + 0 ≤ _)⟩)
      dsimp only [Pt.U, Pt.locs, Pt.cells, Pt.slots] at X47 l47 y47 z47 st47 hQ47
      subst l47 y47 z47
      obtain ⟨rfl, N47q, e47⟩ := hQ47
      have N47 := Fr.app N41 N47q
      refine own_go (U' := T47.setTop (mkF m 26 #[.val (.int p0), .val (.int p1), .val (.int y3), .val (.int y7), .unset] [(.int (f_2 y7))])) (fun _ k => st47 _ k) ?_
      by_cases hc26_48 : (f_2 y7) = (0 : Int32)
      · refine own_go (U' := T47.setTop (mkF m 36 #[.val (.int p0), .val (.int p1), .val (.int y3), .val (.int y7), .unset] [])) (fun _ k => XS.ifYes X47.here hx rfl (pc0 := 26) (pc' := 36) rfl (hb hby at_26) rfl ((if0 _ _).trans (teq hc26_48).1) (by decide) (by decide) k) ?_
        refine own_go (U' := T47.setTop (mkF m 37 #[.val (.int p0), .val (.int p1), .val (.int y3), .val (.int y7), .unset] [(.int (1 : Int32))])) (fun _ k => XS.iconst X47.here hx rfl (hb hby at_36) k) ?_
        refine own_go (U' := T47.setTop (mkF m 41 #[.val (.int p0), .val (.int p1), .val (.int y3), .val (.int y7), .unset] [(.int (1 : Int32))])) (fun _ k => XS.goto X47.here hx rfl (pc0 := 37) (pc' := 41) rfl (hb hby at_37) (by decide) (by decide) k) ?_
        refine own_go (U' := T47.setTop (mkF m 43 #[.val (.int p0), .val (.int p1), .val (.int y3), .val (.int y7), .val (.int (1 : Int32))] [])) (fun _ k => XS.istore X47.here hx rfl (hb hby at_41) rfl (l' := #[.val (.int p0), .val (.int p1), .val (.int y3), .val (.int y7), .val (.int (1 : Int32))]) rfl k) ?_
        refine own_go (U' := T47.setTop (mkF m 44 #[.val (.int p0), .val (.int p1), .val (.int y3), .val (.int y7), .val (.int (1 : Int32))] [(.int y3)])) (fun _ k => XS.iloadN X47.here hx rfl (hb hby at_43) rfl k) ?_
        obtain ⟨_, _, ⟨T49, L49, k49, n49⟩, -, X49, ⟨Lc49, hQ49, l49, y49, z49⟩, st49⟩ := Jvm.LawKit.callS X47 hx (y := (⟨"com/example/tracewarden/tracewarden/net/OrderIsKeptByPinLaw", "pick", "(I)Lcom/example/tracewarden/tracewarden/net/Order;"⟩ : MethodName)) hown (mvT hZ (hw _ (List.mem_of_getElem? (i := 7) rfl))) (mvT hZ (hw _ (List.mem_of_getElem? (i := 8) rfl))) (mvT hZ (hw _ (List.mem_of_getElem? (i := 2) rfl))) (mvT hZ (hw _ (List.mem_of_getElem? (i := 9) rfl))) (by decide) (backOf (W := 0) (rm3 l Z aw hw [] y3 wS wR wE wI h0 n0 Z0 S_s S_r S_e S_i) hZ (hw _ (List.mem_of_getElem? (i := 9) rfl)) (hw _ (List.mem_of_getElem? (i := 2) rfl)) (by decide) (by decide)) (g := (mkF m 44 #[.val (.int p0), .val (.int p1), .val (.int y3), .val (.int y7), .val (.int (1 : Int32))] [(.int y3)])) rfl (by rw [hml]; rfl) (argsL := [(.int y3)]) (rest := []) (lenOf own_pd1 rfl) rfl (by show 2 * 0 + _ ≤ _; exact Nat.le_of_eq rfl) (hb hby at_44) (fun _ _ => ⟨rfl, e47, (by decide : 0 + 0 ≤ _), (by decide : 0 + 0 ≤ _)⟩)
        dsimp only [Pt.U, Pt.locs, Pt.cells, Pt.slots] at X49 l49 y49 z49 st49 hQ49
        subst l49 y49 z49
        obtain ⟨rfl, N49q, e49⟩ := hQ49
        have N49 := Fr.app N47 N49q
        refine own_go (U' := T49.setTop (mkF m 47 #[.val (.int p0), .val (.int p1), .val (.int y3), .val (.int y7), .val (.int (1 : Int32))] [(.ref (f_3 y3 wS wR wE wI))])) (fun _ k => st49 _ k) ?_
        refine own_go (U' := T49.setTop (mkF m 48 #[.val (.int p0), .val (.int p1), .val (.int y3), .val (.int y7), .val (.int (1 : Int32))] [(.int y7), (.ref (f_3 y3 wS wR wE wI))])) (fun _ k => XS.iloadN X49.here hx rfl (hb hby at_47) rfl k) ?_
        obtain ⟨_, _, ⟨T50, L50, k50, n50⟩, -, X50, ⟨Lc50, hQ50, l50, y50, z50⟩, st50⟩ := Jvm.LawKit.callS X49 hx (y := (⟨"com/example/tracewarden/tracewarden/net/OrderIsKeptByPinLaw", "pick", "(I)Lcom/example/tracewarden/tracewarden/net/Order;"⟩ : MethodName)) hown (mvT hZ (hw _ (List.mem_of_getElem? (i := 7) rfl))) (mvT hZ (hw _ (List.mem_of_getElem? (i := 8) rfl))) (mvT hZ (hw _ (List.mem_of_getElem? (i := 2) rfl))) (mvT hZ (hw _ (List.mem_of_getElem? (i := 9) rfl))) (by decide) (backOf (W := 1) (rm3 l Z aw hw [] y7 wS wR wE wI h0 n0 Z0 S_s S_r S_e S_i) hZ (hw _ (List.mem_of_getElem? (i := 9) rfl)) (hw _ (List.mem_of_getElem? (i := 2) rfl)) (by decide) (by decide)) (g := (mkF m 48 #[.val (.int p0), .val (.int p1), .val (.int y3), .val (.int y7), .val (.int (1 : Int32))] [(.int y7), (.ref (f_3 y3 wS wR wE wI))])) rfl (by rw [hml]; rfl) (argsL := [(.int y7)]) (rest := [(.ref (f_3 y3 wS wR wE wI))]) (lenOf own_pd1 rfl) rfl (by show 2 * 0 + _ ≤ _; exact Nat.le_of_eq rfl) (hb hby at_48) (fun _ _ => ⟨rfl, e49, (by decide : 0 + 0 ≤ _), (by decide : 0 + 0 ≤ _)⟩)
        dsimp only [Pt.U, Pt.locs, Pt.cells, Pt.slots] at X50 l50 y50 z50 st50 hQ50
        subst l50 y50 z50
        obtain ⟨rfl, N50q, e50⟩ := hQ50
        have N50 := Fr.app N49 N50q
        refine own_go (U' := T50.setTop (mkF m 51 #[.val (.int p0), .val (.int p1), .val (.int y3), .val (.int y7), .val (.int (1 : Int32))] [(.ref (f_3 y7 wS wR wE wI)), (.ref (f_3 y3 wS wR wE wI))])) (fun _ k => st50 _ k) ?_
        have E_o : Exa Z h0 (f_3 y3 wS wR wE wI) "com/example/tracewarden/tracewarden/net/Order" := by unfold f_3; (repeat' split) <;> assumption
        obtain ⟨cq51, kq51, q51a, q51b, q51c⟩ := isOf hZ e50 E_o
        obtain ⟨_, _, ⟨T51, L51, k51, n51⟩, -, X51, ⟨Lc51, hQ51, l51, y51, z51⟩, st51⟩ := X50.virtualBack hx (y := (⟨"com/example/tracewarden/tracewarden/net/Order", "isKeptBy", "(Lcom/example/tracewarden/tracewarden/net/Order;)Z"⟩ : MethodName)) (z := (⟨"com/example/tracewarden/tracewarden/net/Order", "isKeptBy", "(Lcom/example/tracewarden/tracewarden/net/Order;)Z"⟩ : MethodName)) hown (mvT hZ (hw _ (List.mem_of_getElem? (i := 15) rfl))) (mvT hZ (hw _ (List.mem_of_getElem? (i := 16) rfl))) (notFace_of_selects (args := #[]) (mvT hZ (hw _ (List.mem_of_getElem? (i := 18) rfl)))) (mvT hZ (hw _ (List.mem_of_getElem? (i := 18) rfl))) (mvT hZ (hw _ (List.mem_of_getElem? (i := 17) rfl))) (by decide) (backOf (W := 0) (rm4 l Z aw hw [] (f_3 y3 wS wR wE wI) (f_3 y7 wS wR wE wI) wS wR wE wI h0 n0 Z0 S_s S_r S_e S_i) hZ (hw _ (List.mem_of_getElem? (i := 19) rfl)) (hw _ (List.mem_of_getElem? (i := 11) rfl)) (by decide) (by decide)) q51a q51c (g := (mkF m 51 #[.val (.int p0), .val (.int p1), .val (.int y3), .val (.int y7), .val (.int (1 : Int32))] [(.ref (f_3 y7 wS wR wE wI)), (.ref (f_3 y3 wS wR wE wI))])) rfl (by rw [hml]; rfl) (Steps.refl _) (argsL := [(.ref (f_3 y7 wS wR wE wI))]) (rest := []) (lenOf own_pd2 rfl) rfl (by show 2 * 0 + _ ≤ _; exact Nat.le_of_eq rfl) (hb hby at_51) (fun _ _ => ⟨rfl, e50, (by decide : 0 + 0 ≤ _), (by decide : 0 + 0 ≤ _)⟩)
        dsimp only [Pt.U, Pt.locs, Pt.cells, Pt.slots] at X51 l51 y51 z51 st51 hQ51
        subst l51 y51 z51
        obtain ⟨rfl, N51q, e51⟩ := hQ51
        have N51 := Fr.app N50 N51q
        refine own_go (U' := T51.setTop (mkF m 54 #[.val (.int p0), .val (.int p1), .val (.int y3), .val (.int y7), .val (.int (1 : Int32))] [(.int (f_4 (f_3 y3 wS wR wE wI) (f_3 y7 wS wR wE wI) wS wR wE wI))])) (fun _ k => st51.trans k) ?_
        refine own_go (U' := T51.setTop (mkF m 56 #[.val (.int p0), .val (.int p1), .val (.int y3), .val (.int y7), .val (.int (1 : Int32))] [(.int (1 : Int32)), (.int (f_4 (f_3 y3 wS wR wE wI) (f_3 y7 wS wR wE wI) wS wR wE wI))])) (fun _ k => XS.iload X51.here hx rfl (hb hby at_54) rfl k) ?_
        have hc56_52 : (f_4 (f_3 y3 wS wR wE wI) (f_3 y7 wS wR wE wI) wS wR wE wI) = (1 : Int32) := (own_fin hy3 hy7 d1 d2 d3 d4 d5 d6).trans (by simp [d1, d2, d3, d4, d5, d6, hc12_24, hc19_42, hc26_48])
        refine own_go (U' := T51.setTop (mkF m 59 #[.val (.int p0), .val (.int p1), .val (.int y3), .val (.int y7), .val (.int (1 : Int32))] [])) (fun _ k => XS.icmpNo X51.here hx rfl (hb hby at_56) rfl (teq hc56_52).2 k) ?_
        refine own_go (U' := T51.setTop (mkF m 60 #[.val (.int p0), .val (.int p1), .val (.int y3), .val (.int y7), .val (.int (1 : Int32))] [(.int (1 : Int32))])) (fun _ k => XS.iconst X51.here hx rfl (hb hby at_59) k) ?_
        refine own_go (U' := T51.setTop (mkF m 64 #[.val (.int p0), .val (.int p1), .val (.int y3), .val (.int y7), .val (.int (1 : Int32))] [(.int (1 : Int32))])) (fun _ k => XS.goto X51.here hx rfl (pc0 := 60) (pc' := 64) rfl (hb hby at_60) (by decide) (by decide) k) ?_
        refine own_ret X51 (v := (some (.int (1 : Int32)))) hlk (fun h => by rw [Bd.returns] at h; cases h) (by decide) (by decide) (fun fs hr => retN X51 hx (t := .boolean) Bd.returns (by simp) (hb hby at_64) hr) ?_
        show (Q0 Z p0 p1 wS wR wE wI h0 n0) _ T51.heap _
        rw [e51]
        exact ⟨rfl, N51⟩
      · refine own_go (U' := T47.setTop (mkF m 29 #[.val (.int p0), .val (.int p1), .val (.int y3), .val (.int y7), .unset] [])) (fun _ k => XS.ifNo X47.here hx rfl (hb hby at_26) rfl ((if0 _ _).trans (feq hc26_48).1) k) ?_
        refine own_go (U' := T47.setTop (mkF m 30 #[.val (.int p0), .val (.int p1), .val (.int y3), .val (.int y7), .unset] [(.int y3)])) (fun _ k => XS.iloadN X47.here hx rfl (hb hby at_29) rfl k) ?_
        obtain ⟨_, _, ⟨T53, L53, k53, n53⟩, -, X53, ⟨Lc53, hQ53, l53, y53, z53⟩, st53⟩ := Jvm.LawKit.callS X47 hx (y := (⟨"com/example/tracewarden/tracewarden/net/OrderIsKeptByPinLaw", "secondBefore", "(I)Z"⟩ : MethodName)) hown (mvT hZ (hw _ (List.mem_of_getElem? (i := 4) rfl))) (mvT hZ (hw _ (List.mem_of_getElem? (i := 5) rfl))) (mvT hZ (hw _ (List.mem_of_getElem? (i := 2) rfl))) (mvT hZ (hw _ (List.mem_of_getElem? (i := 6) rfl))) (by decide) (backOf (W := 0) (rm2 l Z aw hw [] y3 h0 n0 Z0 ) hZ (hw _ (List.mem_of_getElem? (i := 6) rfl)) (hw _ (List.mem_of_getElem? (i := 2) rfl)) (by decide) (by decide)) (g := (mkF m 30 #[.val (.int p0), .val (.int p1), .val (.int y3), .val (.int y7), .unset] [(.int y3)])) rfl (by rw [hml]; rfl) (argsL := [(.int y3)]) (rest := []) (lenOf own_pd0 rfl) rfl (by show 2 * 0 + _ ≤ _; exact Nat.le_of_eq rfl) (hb hby at_30) (fun _ _ => ⟨rfl, e47, (by decide : 0 + 0 ≤ _), (by decide : 0 + 0 ≤ _)⟩)
        dsimp only [Pt.U, Pt.locs, Pt.cells, Pt.slots] at X53 l53 y53 z53 st53 hQ53
        subst l53 y53 z53
        obtain ⟨rfl, N53q, e53⟩ := hQ53
        have N53 := Fr.app N47 N53q
        refine own_go (U' := T53.setTop (mkF m 33 #[.val (.int p0), .val (.int p1), .val (.int y3), .val (.int y7), .unset] [(.int (f_2 y3))])) (fun _ k => st53 _ k) ?_
        by_cases hc33_54 : (f_2 y3) = (0 : Int32)
        · refine own_go (U' := T53.setTop (mkF m 40 #[.val (.int p0), .val (.int p1), .val (.int y3), .val (.int y7), .unset] [])) (fun _ k => XS.ifYes X53.here hx rfl (pc0 := 33) (pc' := 40) rfl (hb hby at_33) rfl ((if0 _ _).trans (teq hc33_54).1) (by decide) (by decide) k) ?_
          refine own_go (U' := T53.setTop (mkF m 41 #[.val (.int p0), .val (.int p1), .val (.int y3), .val (.int y7), .unset] [(.int (0 : Int32))])) (fun _ k => XS.iconst X53.here hx rfl (hb hby at_40) k) ?_
          refine own_go (U' := T53.setTop (mkF m 43 #[.val (.int p0), .val (.int p1), .val (.int y3), .val (.int y7), .val (.int (0 : Int32))] [])) (fun _ k => XS.istore X53.here hx rfl (hb hby at_41) rfl (l' := #[.val (.int p0), .val (.int p1), .val (.int y3), .val (.int y7), .val (.int (0 : Int32))]) rfl k) ?_
          refine own_go (U' := T53.setTop (mkF m 44 #[.val (.int p0), .val (.int p1), .val (.int y3), .val (.int y7), .val (.int (0 : Int32))] [(.int y3)])) (fun _ k => XS.iloadN X53.here hx rfl (hb hby at_43) rfl k) ?_
          obtain ⟨_, _, ⟨T55, L55, k55, n55⟩, -, X55, ⟨Lc55, hQ55, l55, y55, z55⟩, st55⟩ := Jvm.LawKit.callS X53 hx (y := (⟨"com/example/tracewarden/tracewarden/net/OrderIsKeptByPinLaw", "pick", "(I)Lcom/example/tracewarden/tracewarden/net/Order;"⟩ : MethodName)) hown (mvT hZ (hw _ (List.mem_of_getElem? (i := 7) rfl))) (mvT hZ (hw _ (List.mem_of_getElem? (i := 8) rfl))) (mvT hZ (hw _ (List.mem_of_getElem? (i := 2) rfl))) (mvT hZ (hw _ (List.mem_of_getElem? (i := 9) rfl))) (by decide) (backOf (W := 0) (rm3 l Z aw hw [] y3 wS wR wE wI h0 n0 Z0 S_s S_r S_e S_i) hZ (hw _ (List.mem_of_getElem? (i := 9) rfl)) (hw _ (List.mem_of_getElem? (i := 2) rfl)) (by decide) (by decide)) (g := (mkF m 44 #[.val (.int p0), .val (.int p1), .val (.int y3), .val (.int y7), .val (.int (0 : Int32))] [(.int y3)])) rfl (by rw [hml]; rfl) (argsL := [(.int y3)]) (rest := []) (lenOf own_pd1 rfl) rfl (by show 2 * 0 + _ ≤ _; exact Nat.le_of_eq rfl) (hb hby at_44) (fun _ _ => ⟨rfl, e53, (by decide : 0 + 0 ≤ _), (by decide : 0 + 0 ≤ _)⟩)
          dsimp only [Pt.U, Pt.locs, Pt.cells, Pt.slots] at X55 l55 y55 z55 st55 hQ55
          subst l55 y55 z55
          obtain ⟨rfl, N55q, e55⟩ := hQ55
          have N55 := Fr.app N53 N55q
          refine own_go (U' := T55.setTop (mkF m 47 #[.val (.int p0), .val (.int p1), .val (.int y3), .val (.int y7), .val (.int (0 : Int32))] [(.ref (f_3 y3 wS wR wE wI))])) (fun _ k => st55 _ k) ?_
          refine own_go (U' := T55.setTop (mkF m 48 #[.val (.int p0), .val (.int p1), .val (.int y3), .val (.int y7), .val (.int (0 : Int32))] [(.int y7), (.ref (f_3 y3 wS wR wE wI))])) (fun _ k => XS.iloadN X55.here hx rfl (hb hby at_47) rfl k) ?_
          obtain ⟨_, _, ⟨T56, L56, k56, n56⟩, -, X56, ⟨Lc56, hQ56, l56, y56, z56⟩, st56⟩ := Jvm.LawKit.callS X55 hx (y := (⟨"com/example/tracewarden/tracewarden/net/OrderIsKeptByPinLaw", "pick", "(I)Lcom/example/tracewarden/tracewarden/net/Order;"⟩ : MethodName)) hown (mvT hZ (hw _ (List.mem_of_getElem? (i := 7) rfl))) (mvT hZ (hw _ (List.mem_of_getElem? (i := 8) rfl))) (mvT hZ (hw _ (List.mem_of_getElem? (i := 2) rfl))) (mvT hZ (hw _ (List.mem_of_getElem? (i := 9) rfl))) (by decide) (backOf (W := 1) (rm3 l Z aw hw [] y7 wS wR wE wI h0 n0 Z0 S_s S_r S_e S_i) hZ (hw _ (List.mem_of_getElem? (i := 9) rfl)) (hw _ (List.mem_of_getElem? (i := 2) rfl)) (by decide) (by decide)) (g := (mkF m 48 #[.val (.int p0), .val (.int p1), .val (.int y3), .val (.int y7), .val (.int (0 : Int32))] [(.int y7), (.ref (f_3 y3 wS wR wE wI))])) rfl (by rw [hml]; rfl) (argsL := [(.int y7)]) (rest := [(.ref (f_3 y3 wS wR wE wI))]) (lenOf own_pd1 rfl) rfl (by show 2 * 0 + _ ≤ _; exact Nat.le_of_eq rfl) (hb hby at_48) (fun _ _ => ⟨rfl, e55, (by decide : 0 + 0 ≤ _), (by decide : 0 + 0 ≤ _)⟩)
          dsimp only [Pt.U, Pt.locs, Pt.cells, Pt.slots] at X56 l56 y56 z56 st56 hQ56
          subst l56 y56 z56
          obtain ⟨rfl, N56q, e56⟩ := hQ56
          have N56 := Fr.app N55 N56q
          refine own_go (U' := T56.setTop (mkF m 51 #[.val (.int p0), .val (.int p1), .val (.int y3), .val (.int y7), .val (.int (0 : Int32))] [(.ref (f_3 y7 wS wR wE wI)), (.ref (f_3 y3 wS wR wE wI))])) (fun _ k => st56 _ k) ?_
          have E_o : Exa Z h0 (f_3 y3 wS wR wE wI) "com/example/tracewarden/tracewarden/net/Order" := by unfold f_3; (repeat' split) <;> assumption
          obtain ⟨cq57, kq57, q57a, q57b, q57c⟩ := isOf hZ e56 E_o
          obtain ⟨_, _, ⟨T57, L57, k57, n57⟩, -, X57, ⟨Lc57, hQ57, l57, y57, z57⟩, st57⟩ := X56.virtualBack hx (y := (⟨"com/example/tracewarden/tracewarden/net/Order", "isKeptBy", "(Lcom/example/tracewarden/tracewarden/net/Order;)Z"⟩ : MethodName)) (z := (⟨"com/example/tracewarden/tracewarden/net/Order", "isKeptBy", "(Lcom/example/tracewarden/tracewarden/net/Order;)Z"⟩ : MethodName)) hown (mvT hZ (hw _ (List.mem_of_getElem? (i := 15) rfl))) (mvT hZ (hw _ (List.mem_of_getElem? (i := 16) rfl))) (notFace_of_selects (args := #[]) (mvT hZ (hw _ (List.mem_of_getElem? (i := 18) rfl)))) (mvT hZ (hw _ (List.mem_of_getElem? (i := 18) rfl))) (mvT hZ (hw _ (List.mem_of_getElem? (i := 17) rfl))) (by decide) (backOf (W := 0) (rm4 l Z aw hw [] (f_3 y3 wS wR wE wI) (f_3 y7 wS wR wE wI) wS wR wE wI h0 n0 Z0 S_s S_r S_e S_i) hZ (hw _ (List.mem_of_getElem? (i := 19) rfl)) (hw _ (List.mem_of_getElem? (i := 11) rfl)) (by decide) (by decide)) q57a q57c (g := (mkF m 51 #[.val (.int p0), .val (.int p1), .val (.int y3), .val (.int y7), .val (.int (0 : Int32))] [(.ref (f_3 y7 wS wR wE wI)), (.ref (f_3 y3 wS wR wE wI))])) rfl (by rw [hml]; rfl) (Steps.refl _) (argsL := [(.ref (f_3 y7 wS wR wE wI))]) (rest := []) (lenOf own_pd2 rfl) rfl (by show 2 * 0 + _ ≤ _; exact Nat.le_of_eq rfl) (hb hby at_51) (fun _ _ => ⟨rfl, e56, (by decide : 0 + 0 ≤ _), (by decide : 0 + 0 ≤ _)⟩)
          dsimp only [Pt.U, Pt.locs, Pt.cells, Pt.slots] at X57 l57 y57 z57 st57 hQ57
          subst l57 y57 z57
          obtain ⟨rfl, N57q, e57⟩ := hQ57
          have N57 := Fr.app N56 N57q
          refine own_go (U' := T57.setTop (mkF m 54 #[.val (.int p0), .val (.int p1), .val (.int y3), .val (.int y7), .val (.int (0 : Int32))] [(.int (f_4 (f_3 y3 wS wR wE wI) (f_3 y7 wS wR wE wI) wS wR wE wI))])) (fun _ k => st57.trans k) ?_
          refine own_go (U' := T57.setTop (mkF m 56 #[.val (.int p0), .val (.int p1), .val (.int y3), .val (.int y7), .val (.int (0 : Int32))] [(.int (0 : Int32)), (.int (f_4 (f_3 y3 wS wR wE wI) (f_3 y7 wS wR wE wI) wS wR wE wI))])) (fun _ k => XS.iload X57.here hx rfl (hb hby at_54) rfl k) ?_
          have hc56_58 : (f_4 (f_3 y3 wS wR wE wI) (f_3 y7 wS wR wE wI) wS wR wE wI) = (0 : Int32) := (own_fin hy3 hy7 d1 d2 d3 d4 d5 d6).trans (by simp [d1, d2, d3, d4, d5, d6, hc12_24, hc19_42, hc26_48, hc33_54])
          refine own_go (U' := T57.setTop (mkF m 59 #[.val (.int p0), .val (.int p1), .val (.int y3), .val (.int y7), .val (.int (0 : Int32))] [])) (fun _ k => XS.icmpNo X57.here hx rfl (hb hby at_56) rfl (teq hc56_58).2 k) ?_
          refine own_go (U' := T57.setTop (mkF m 60 #[.val (.int p0), .val (.int p1), .val (.int y3), .val (.int y7), .val (.int (0 : Int32))] [(.int (1 : Int32))])) (fun _ k => XS.iconst X57.here hx rfl (hb hby at_59) k) ?_
          refine own_go (U' := T57.setTop (mkF m 64 #[.val (.int p0), .val (.int p1), .val (.int y3), .val (.int y7), .val (.int (0 : Int32))] [(.int (1 : Int32))])) (fun _ k => XS.goto X57.here hx rfl (pc0 := 60) (pc' := 64) rfl (hb hby at_60) (by decide) (by decide) k) ?_
          refine own_ret X57 (v := (some (.int (1 : Int32)))) hlk (fun h => by rw [Bd.returns] at h; cases h) (by decide) (by decide) (fun fs hr => retN X57 hx (t := .boolean) Bd.returns (by simp) (hb hby at_64) hr) ?_
          show (Q0 Z p0 p1 wS wR wE wI h0 n0) _ T57.heap _
          rw [e57]
          exact ⟨rfl, N57⟩
        · refine own_go (U' := T53.setTop (mkF m 36 #[.val (.int p0), .val (.int p1), .val (.int y3), .val (.int y7), .unset] [])) (fun _ k => XS.ifNo X53.here hx rfl (hb hby at_33) rfl ((if0 _ _).trans (feq hc33_54).1) k) ?_
          refine own_go (U' := T53.setTop (mkF m 37 #[.val (.int p0), .val (.int p1), .val (.int y3), .val (.int y7), .unset] [(.int (1 : Int32))])) (fun _ k => XS.iconst X53.here hx rfl (hb hby at_36) k) ?_
          refine own_go (U' := T53.setTop (mkF m 41 #[.val (.int p0), .val (.int p1), .val (.int y3), .val (.int y7), .unset] [(.int (1 : Int32))])) (fun _ k => XS.goto X53.here hx rfl (pc0 := 37) (pc' := 41) rfl (hb hby at_37) (by decide) (by decide) k) ?_
          refine own_go (U' := T53.setTop (mkF m 43 #[.val (.int p0), .val (.int p1), .val (.int y3), .val (.int y7), .val (.int (1 : Int32))] [])) (fun _ k => XS.istore X53.here hx rfl (hb hby at_41) rfl (l' := #[.val (.int p0), .val (.int p1), .val (.int y3), .val (.int y7), .val (.int (1 : Int32))]) rfl k) ?_
          refine own_go (U' := T53.setTop (mkF m 44 #[.val (.int p0), .val (.int p1), .val (.int y3), .val (.int y7), .val (.int (1 : Int32))] [(.int y3)])) (fun _ k => XS.iloadN X53.here hx rfl (hb hby at_43) rfl k) ?_
          obtain ⟨_, _, ⟨T59, L59, k59, n59⟩, -, X59, ⟨Lc59, hQ59, l59, y59, z59⟩, st59⟩ := Jvm.LawKit.callS X53 hx (y := (⟨"com/example/tracewarden/tracewarden/net/OrderIsKeptByPinLaw", "pick", "(I)Lcom/example/tracewarden/tracewarden/net/Order;"⟩ : MethodName)) hown (mvT hZ (hw _ (List.mem_of_getElem? (i := 7) rfl))) (mvT hZ (hw _ (List.mem_of_getElem? (i := 8) rfl))) (mvT hZ (hw _ (List.mem_of_getElem? (i := 2) rfl))) (mvT hZ (hw _ (List.mem_of_getElem? (i := 9) rfl))) (by decide) (backOf (W := 0) (rm3 l Z aw hw [] y3 wS wR wE wI h0 n0 Z0 S_s S_r S_e S_i) hZ (hw _ (List.mem_of_getElem? (i := 9) rfl)) (hw _ (List.mem_of_getElem? (i := 2) rfl)) (by decide) (by decide)) (g := (mkF m 44 #[.val (.int p0), .val (.int p1), .val (.int y3), .val (.int y7), .val (.int (1 : Int32))] [(.int y3)])) rfl (by rw [hml]; rfl) (argsL := [(.int y3)]) (rest := []) (lenOf own_pd1 rfl) rfl (by show 2 * 0 + _ ≤ _; exact Nat.le_of_eq rfl) (hb hby at_44) (fun _ _ => ⟨rfl, e53, (by decide : 0 + 0 ≤ _), (by decide : 0 + 0 ≤ _)⟩)
          dsimp only [Pt.U, Pt.locs, Pt.cells, Pt.slots] at X59 l59 y59 z59 st59 hQ59
          subst l59 y59 z59
          obtain ⟨rfl, N59q, e59⟩ := hQ59
          have N59 := Fr.app N53 N59q
          refine own_go (U' := T59.setTop (mkF m 47 #[.val (.int p0), .val (.int p1), .val (.int y3), .val (.int y7), .val (.int (1 : Int32))] [(.ref (f_3 y3 wS wR wE wI))])) (fun _ k => st59 _ k) ?_
          refine own_go (U' := T59.setTop (mkF m 48 #[.val (.int p0), .val (.int p1), .val (.int y3), .val (.int y7), .val (.int (1 : Int32))] [(.int y7), (.ref (f_3 y3 wS wR wE wI))])) (fun _ k => XS.iloadN X59.here hx rfl (hb hby at_47) rfl k) ?_
          obtain ⟨_, _, ⟨T60, L60, k60, n60⟩, -, X60, ⟨Lc60, hQ60, l60, y60, z60⟩, st60⟩ := Jvm.LawKit.callS X59 hx (y := (⟨"com/example/tracewarden/tracewarden/net/OrderIsKeptByPinLaw", "pick", "(I)Lcom/example/tracewarden/tracewarden/net/Order;"⟩ : MethodName)) hown (mvT hZ (hw _ (List.mem_of_getElem? (i := 7) rfl))) (mvT hZ (hw _ (List.mem_of_getElem? (i := 8) rfl))) (mvT hZ (hw _ (List.mem_of_getElem? (i := 2) rfl))) (mvT hZ (hw _ (List.mem_of_getElem? (i := 9) rfl))) (by decide) (backOf (W := 1) (rm3 l Z aw hw [] y7 wS wR wE wI h0 n0 Z0 S_s S_r S_e S_i) hZ (hw _ (List.mem_of_getElem? (i := 9) rfl)) (hw _ (List.mem_of_getElem? (i := 2) rfl)) (by decide) (by decide)) (g := (mkF m 48 #[.val (.int p0), .val (.int p1), .val (.int y3), .val (.int y7), .val (.int (1 : Int32))] [(.int y7), (.ref (f_3 y3 wS wR wE wI))])) rfl (by rw [hml]; rfl) (argsL := [(.int y7)]) (rest := [(.ref (f_3 y3 wS wR wE wI))]) (lenOf own_pd1 rfl) rfl (by show 2 * 0 + _ ≤ _; exact Nat.le_of_eq rfl) (hb hby at_48) (fun _ _ => ⟨rfl, e59, (by decide : 0 + 0 ≤ _), (by decide : 0 + 0 ≤ _)⟩)
          dsimp only [Pt.U, Pt.locs, Pt.cells, Pt.slots] at X60 l60 y60 z60 st60 hQ60
          subst l60 y60 z60
          obtain ⟨rfl, N60q, e60⟩ := hQ60
          have N60 := Fr.app N59 N60q
          refine own_go (U' := T60.setTop (mkF m 51 #[.val (.int p0), .val (.int p1), .val (.int y3), .val (.int y7), .val (.int (1 : Int32))] [(.ref (f_3 y7 wS wR wE wI)), (.ref (f_3 y3 wS wR wE wI))])) (fun _ k => st60 _ k) ?_
          have E_o : Exa Z h0 (f_3 y3 wS wR wE wI) "com/example/tracewarden/tracewarden/net/Order" := by unfold f_3; (repeat' split) <;> assumption
          obtain ⟨cq61, kq61, q61a, q61b, q61c⟩ := isOf hZ e60 E_o
          obtain ⟨_, _, ⟨T61, L61, k61, n61⟩, -, X61, ⟨Lc61, hQ61, l61, y61, z61⟩, st61⟩ := X60.virtualBack hx (y := (⟨"com/example/tracewarden/tracewarden/net/Order", "isKeptBy", "(Lcom/example/tracewarden/tracewarden/net/Order;)Z"⟩ : MethodName)) (z := (⟨"com/example/tracewarden/tracewarden/net/Order", "isKeptBy", "(Lcom/example/tracewarden/tracewarden/net/Order;)Z"⟩ : MethodName)) hown (mvT hZ (hw _ (List.mem_of_getElem? (i := 15) rfl))) (mvT hZ (hw _ (List.mem_of_getElem? (i := 16) rfl))) (notFace_of_selects (args := #[]) (mvT hZ (hw _ (List.mem_of_getElem? (i := 18) rfl)))) (mvT hZ (hw _ (List.mem_of_getElem? (i := 18) rfl))) (mvT hZ (hw _ (List.mem_of_getElem? (i := 17) rfl))) (by decide) (backOf (W := 0) (rm4 l Z aw hw [] (f_3 y3 wS wR wE wI) (f_3 y7 wS wR wE wI) wS wR wE wI h0 n0 Z0 S_s S_r S_e S_i) hZ (hw _ (List.mem_of_getElem? (i := 19) rfl)) (hw _ (List.mem_of_getElem? (i := 11) rfl)) (by decide) (by decide)) q61a q61c (g := (mkF m 51 #[.val (.int p0), .val (.int p1), .val (.int y3), .val (.int y7), .val (.int (1 : Int32))] [(.ref (f_3 y7 wS wR wE wI)), (.ref (f_3 y3 wS wR wE wI))])) rfl (by rw [hml]; rfl) (Steps.refl _) (argsL := [(.ref (f_3 y7 wS wR wE wI))]) (rest := []) (lenOf own_pd2 rfl) rfl (by show 2 * 0 + _ ≤ _; exact Nat.le_of_eq rfl) (hb hby at_51) (fun _ _ => ⟨rfl, e60, (by decide : 0 + 0 ≤ _), (by decide : 0 + 0 ≤ _)⟩)
          dsimp only [Pt.U, Pt.locs, Pt.cells, Pt.slots] at X61 l61 y61 z61 st61 hQ61
          subst l61 y61 z61
          obtain ⟨rfl, N61q, e61⟩ := hQ61
          have N61 := Fr.app N60 N61q
          refine own_go (U' := T61.setTop (mkF m 54 #[.val (.int p0), .val (.int p1), .val (.int y3), .val (.int y7), .val (.int (1 : Int32))] [(.int (f_4 (f_3 y3 wS wR wE wI) (f_3 y7 wS wR wE wI) wS wR wE wI))])) (fun _ k => st61.trans k) ?_
          refine own_go (U' := T61.setTop (mkF m 56 #[.val (.int p0), .val (.int p1), .val (.int y3), .val (.int y7), .val (.int (1 : Int32))] [(.int (1 : Int32)), (.int (f_4 (f_3 y3 wS wR wE wI) (f_3 y7 wS wR wE wI) wS wR wE wI))])) (fun _ k => XS.iload X61.here hx rfl (hb hby at_54) rfl k) ?_
          have hc56_62 : (f_4 (f_3 y3 wS wR wE wI) (f_3 y7 wS wR wE wI) wS wR wE wI) = (1 : Int32) := (own_fin hy3 hy7 d1 d2 d3 d4 d5 d6).trans (by simp [d1, d2, d3, d4, d5, d6, hc12_24, hc19_42, hc26_48, hc33_54])
          refine own_go (U' := T61.setTop (mkF m 59 #[.val (.int p0), .val (.int p1), .val (.int y3), .val (.int y7), .val (.int (1 : Int32))] [])) (fun _ k => XS.icmpNo X61.here hx rfl (hb hby at_56) rfl (teq hc56_62).2 k) ?_
          refine own_go (U' := T61.setTop (mkF m 60 #[.val (.int p0), .val (.int p1), .val (.int y3), .val (.int y7), .val (.int (1 : Int32))] [(.int (1 : Int32))])) (fun _ k => XS.iconst X61.here hx rfl (hb hby at_59) k) ?_
          refine own_go (U' := T61.setTop (mkF m 64 #[.val (.int p0), .val (.int p1), .val (.int y3), .val (.int y7), .val (.int (1 : Int32))] [(.int (1 : Int32))])) (fun _ k => XS.goto X61.here hx rfl (pc0 := 60) (pc' := 64) rfl (hb hby at_60) (by decide) (by decide) k) ?_
          refine own_ret X61 (v := (some (.int (1 : Int32)))) hlk (fun h => by rw [Bd.returns] at h; cases h) (by decide) (by decide) (fun fs hr => retN X61 hx (t := .boolean) Bd.returns (by simp) (hb hby at_64) hr) ?_
          show (Q0 Z p0 p1 wS wR wE wI h0 n0) _ T61.heap _
          rw [e61]
          exact ⟨rfl, N61⟩
set_option maxRecDepth 65536 in
set_option maxHeartbeats 40000000 in
theorem comes_1 {Post : Tables → Env → Array Value → State → Outcome → State → Prop} (hpost : ∀ tb e args s v u, (limb_1_1.after args s (.returned v) u = true ∧ limb_1_2.after args s (.returned v) u = true ∧ True) → FrameEnd s (.returned v) u (Jvm.fieldLocs frame_1_writes args s ++ Jvm.arrayLocs frame_1_arrays args s ++ Jvm.staticLocs frame_1_statics s) 0 0 → Post tb e args s (.returned v) u) :
    ArmFor flags0 classFile x code maxLocals ret World_1 tables_1 room_1 Calls_1 rest_1 Pre_1 Post := by
  intro l hfl _ _ p e ha hc hk s m args below hf hA hF happ hP
  obtain ⟨hcalls, hrest, hpre⟩ := hP
  obtain ⟨-, -, -, hnamed, -, -, -, hat⟩ := (Spec.applies_iff hf).mp happ
  obtain ⟨hg, hn⟩ := and_e (Cond.before_iff.mp (show (Jvm.Cond.and given_1 narrow_1).before args s = true from hpre))
  obtain ⟨hcnt, hg0⟩ := and_e hg
  obtain ⟨hv0, hg1⟩ := and_e hg0
  have hv1 := hg1
  obtain ⟨w0, w1, rfl⟩ : ∃ w0 w1 : Value, args = #[w0, w1] := by
    have hs : args.size = 2 := by simpa [Cond.value, given_1] using hcnt
    obtain ⟨L⟩ := args
    match L, hs with
    | [w0, w1], _ => exact ⟨w0, w1, rfl⟩
  have hw := fun d (hd : d ∈ tables_1) => atoms_spec (ws := Jvm.Cond.code x code maxLocals ret :: tables_1) hat d (List.mem_cons_of_mem _ hd)
  have hfit : Fit s := fun {y c} hc i hi => by
    obtain ⟨ha, rfl⟩ := Array.getElem?_eq_some_iff.mp hc
    have q := List.all_eq_true.mp ((Array.all_eq_true_iff_forall_mem.mp hF) _ (Array.getElem_mem ha)) i (List.mem_range.mpr hi)
    simpa [Array.getElem?_eq_getElem hi] using q
  obtain ⟨i0, ei0⟩ := is_v hv0
  obtain rfl : w0 = (.int i0) := Option.some.inj ei0
  obtain ⟨i1, ei1⟩ := is_v hv1
  obtain rfl : w1 = (.int i1) := Option.some.inj ei1
  obtain ⟨xS, hn⟩ := and_e hn
  obtain ⟨xI, hn⟩ := and_e hn
  obtain ⟨oS, hn⟩ := and_e hn
  obtain ⟨oI, hn⟩ := and_e hn
  obtain ⟨xE, hn⟩ := and_e hn
  obtain ⟨oE, hn⟩ := and_e hn
  obtain ⟨xR, oR⟩ := and_e hn
  obtain ⟨wS, eS⟩ := exa_v xS
  obtain ⟨wI, eI⟩ := exa_v xI
  obtain ⟨wE, eE⟩ := exa_v xE
  obtain ⟨wR, eR⟩ := exa_v xR
  have wi := hw _ (List.mem_of_getElem? (i := 11) rfl)
  have S_s := Sta.start eS (Or.inr ⟨wi, hw _ (List.mem_of_getElem? (i := 12) rfl)⟩)
  have S_i := Sta.start eI (Or.inr ⟨wi, hw _ (List.mem_of_getElem? (i := 14) rfl)⟩)
  have S_e := Sta.start eE (Or.inr ⟨wi, hw _ (List.mem_of_getElem? (i := 23) rfl)⟩)
  have S_r := Sta.start eR (Or.inr ⟨wi, hw _ (List.mem_of_getElem? (i := 26) rfl)⟩)
  have fS := own_ord eS oS
  have fI := own_ord eI oI
  have fE := own_ord eE oE
  have fR := own_ord eR oR
  obtain ⟨n, o, h1, h2, h3, _, L, rfl, ⟨rfl, N⟩, hq⟩ := rm0 l s _ hw tables_1 i0 i1 wS wR wE wI s.heap s.heap.size (Nat.le_refl _) S_s S_r S_e S_i (Exa.start eS xS) (Exa.start eR xR) (Exa.start eE xE) (Exa.start eI xI) (own_apart fS fR (by decide)) (own_apart fS fE (by decide)) (own_apart fS fI (by decide)) (own_apart fR fE (by decide)) (own_apart fR fI (by decide)) (own_apart fE fI (by decide)) p e ha hc hk s m _ below hf ((Spec.applies_iff_loose hf).mp happ).1 ⟨rfl, State.Warmed39.refl s, rfl⟩ trivial
  refine ⟨n, _, h1, h2, h3, hpost _ _ _ _ _ _ ⟨Cond.after_iff.mpr rfl, Cond.after_iff.mpr (eq_i res_at (Term.int_eval (1)) rfl), trivial⟩ ⟨hq.1, hq.2.1, (hq.2.2.sift fun y hy => Or.inr (N y hy)).mono (by decide) (by decide)⟩⟩
theorem main_1_1 : Claimed_1_1 := comes_1 fun _ _ _ _ _ _ h hF => ⟨h.1, hF⟩
theorem main_1_2 : Claimed_1_2 := comes_1 fun _ _ _ _ _ _ h hF => ⟨h.2.1, hF⟩
end Jvm.Pilot.@@N@@
namespace Jvm.Pilot.@@N@@
open Jvm Jvm.ClassFile Sem Op Lib Jvm.Free Jvm.Stand Jvm.Pilot.@@N@@.Jvm.D
/-! MADE BY PROGRAM (witnessworld.py) out of the Statement's table words and the real class files: 12 classes; the members and pool entries that the words name. The judged class is class 1, her method 4. -/
namespace start1
open Jvm.ClassFile
def u (s : String) : CpInfo := .utf8 (stringToUtf16 s)
/-- a pool by its gaps: so many unusable entries, then the entry; so many at the end -/
def gap : Nat → List CpInfo → List CpInfo
  | 0, r => r
  | n + 1, r => .unusable :: gap n r
def poolList (es : List (Nat × CpInfo)) (last : Nat) : List CpInfo := es.foldr (fun e r => gap e.1 (e.2 :: r)) (gap last [])
def pool (es : List (Nat × CpInfo)) (last : Nat) : Array CpInfo := ⟨poolList es last⟩
def fileOf (pool : Array CpInfo) (this : Nat) (attrs : Array Attribute := #[]) (ms : Array MethodInfo := #[]) (fl : Nat := 33) (sup : Nat := 0) (ifs : Array Nat := #[]) (fds : Array FieldInfo := #[]) : ClassFile where
  minorVersion := 0
  majorVersion := 65
  constantPool := pool
  accessFlags := fl
  thisClass := this
  superClass := sup
  interfaces := ifs
  fields := fds
  methods := ms
  attributes := attrs
def plain (name : String) (sup : Option ClassId) : Class where
  name := name
  kind := .ordinary
  loader := none
  accessFlags := 33
  super := sup
  interfaces := #[]
  cf := none
  fields := #[]
  methods := #[]
  instanceTypes := #[]
  staticTypes := #[]
  resolved := #[]
  callSites := []
  init := .initialized
  statics := none
  mirror := none

def pool0 : Array CpInfo := pool [(5, u "<init>"), (0, u "()V"), (1, .class_ 10), (1, u "java/lang/Object")] 113

def k0m0 : Method := { name := "<init>", desc := "()V", sig := { parameters := [], returnType := none }, accessFlags := 1, code := none }
/-- java/lang/Object -/
def k0 : Class := { plain "java/lang/Object" none with
  accessFlags := 33
  interfaces := #[]
  cf := some (fileOf pool0 8 #[] #[{ accessFlags := 1, nameIndex := 5, descriptorIndex := 6, attributes := #[] }] 33 0 #[] #[])
  fields := #[]
  methods := #[k0m0]
  instanceTypes := #[]
  staticTypes := #[]
  resolved := Array.replicate 124 none
  statics := none }

def pool1 : Array CpInfo := pool [(2, .class_ 4), (1, u "java/lang/Object"), (0, u "<init>"), (0, u "()V"), (0, .fieldref 8 9), (0, .class_ 10), (0, .nameAndType 11 12), (0, u "com/example/tracewarden/tracewarden/net/Order"), (0, u "STRICT"), (0, u "Lcom/example/tracewarden/tracewarden/net/Order;"), (0, .fieldref 8 14), (0, .nameAndType 15 12), (0, u "REVERSE_STRICT"), (0, .fieldref 8 17), (0, .nameAndType 18 12), (0, u "EXCLUSIVE"), (0, .fieldref 8 20), (0, .nameAndType 21 12), (0, u "INTERLEAVING"), (0, .methodref 23 24), (0, .class_ 25), (0, .nameAndType 26 27), (0, u "com/example/tracewarden/tracewarden/net/OrderIsKeptByPinLaw"), (0, u "firstBefore"), (0, u "(I)Z"), (0, .methodref 23 29), (0, .nameAndType 30 27), (0, u "secondBefore"), (0, .methodref 23 32), (0, .nameAndType 33 34), (0, u "pick"), (0, u "(I)Lcom/example/tracewarden/tracewarden/net/Order;"), (0, .methodref 8 36), (0, .nameAndType 37 38), (0, u "isKeptBy"), (0, u "(Lcom/example/tracewarden/tracewarden/net/Order;)Z"), (3, u "law"), (0, u "(II)Z")] 2

def k1m0 : Method := { name := "<init>", desc := "()V", sig := { parameters := [], returnType := none }, accessFlags := 1, code := none }
def k1c1 : Code := { maxStack := 2, maxLocals := 1, code := method_2_code, exceptionTable := #[], attributes := #[] }
def k1m1 : Method := { name := "pick", desc := "(I)Lcom/example/tracewarden/tracewarden/net/Order;", sig := { parameters := [.int], returnType := some (.object "com/example/tracewarden/tracewarden/net/Order") }, accessFlags := 10, code := some k1c1 }
def k1c2 : Code := { maxStack := 2, maxLocals := 1, code := method_3_code, exceptionTable := #[], attributes := #[] }
def k1m2 : Method := { name := "firstBefore", desc := "(I)Z", sig := { parameters := [.int], returnType := some .boolean }, accessFlags := 10, code := some k1c2 }
def k1c3 : Code := { maxStack := 2, maxLocals := 1, code := method_4_code, exceptionTable := #[], attributes := #[] }
def k1m3 : Method := { name := "secondBefore", desc := "(I)Z", sig := { parameters := [.int], returnType := some .boolean }, accessFlags := 10, code := some k1c3 }
def k1c4 : Code := { maxStack := 2, maxLocals := 5, code := code, exceptionTable := #[], attributes := #[] }
def k1m4 : Method := { name := "law", desc := "(II)Z", sig := { parameters := [.int, .int], returnType := some .boolean }, accessFlags := 9, code := some k1c4 }
/-- com/example/tracewarden/tracewarden/net/OrderIsKeptByPinLaw -/
def k1 : Class := { plain "com/example/tracewarden/tracewarden/net/OrderIsKeptByPinLaw" (some 0) with
  accessFlags := 49
  interfaces := #[]
  cf := some (fileOf pool1 23 #[] #[{ accessFlags := 1, nameIndex := 5, descriptorIndex := 6, attributes := #[] }, { accessFlags := 10, nameIndex := 33, descriptorIndex := 34, attributes := #[] }, { accessFlags := 10, nameIndex := 26, descriptorIndex := 27, attributes := #[] }, { accessFlags := 10, nameIndex := 30, descriptorIndex := 27, attributes := #[] }, { accessFlags := 9, nameIndex := 42, descriptorIndex := 43, attributes := #[] }] 49 2 #[] #[])
  fields := #[]
  methods := #[k1m0, k1m1, k1m2, k1m3, k1m4]
  instanceTypes := #[]
  staticTypes := #[]
  resolved := Array.replicate 46 none
  statics := none }

def pool2 : Array CpInfo := pool [(1, .class_ 2), (0, u "java/lang/constant/Constable"), (0, .class_ 4), (0, u "java/lang/Object")] 6

/-- java/lang/constant/Constable -/
def k2 : Class := { plain "java/lang/constant/Constable" (some 0) with
  accessFlags := 1537
  interfaces := #[]
  cf := some (fileOf pool2 1 #[] #[] 1537 3 #[] #[])
  fields := #[]
  methods := #[]
  instanceTypes := #[]
  staticTypes := #[]
  resolved := Array.replicate 11 none
  statics := none }

def pool3 : Array CpInfo := pool [(1, .class_ 2), (0, u "java/lang/Comparable"), (0, .class_ 4), (0, u "java/lang/Object")] 7

/-- java/lang/Comparable -/
def k3 : Class := { plain "java/lang/Comparable" (some 0) with
  accessFlags := 1537
  interfaces := #[]
  cf := some (fileOf pool3 1 #[] #[] 1537 3 #[] #[])
  fields := #[]
  methods := #[]
  instanceTypes := #[]
  staticTypes := #[]
  resolved := Array.replicate 12 none
  statics := none }

def pool4 : Array CpInfo := pool [(1, .class_ 2), (0, u "java/io/Serializable"), (0, .class_ 4), (0, u "java/lang/Object")] 2

/-- java/io/Serializable -/
def k4 : Class := { plain "java/io/Serializable" (some 0) with
  accessFlags := 1537
  interfaces := #[]
  cf := some (fileOf pool4 1 #[] #[] 1537 3 #[] #[])
  fields := #[]
  methods := #[]
  instanceTypes := #[]
  staticTypes := #[]
  resolved := Array.replicate 7 none
  statics := none }

def pool5 : Array CpInfo := pool [(2, .class_ 4), (1, u "java/lang/Enum"), (0, u "name"), (0, u "Ljava/lang/String;"), (2, u "ordinal"), (0, u "I"), (1, .class_ 14), (1, u "java/lang/Object"), (4, u "hash"), (86, .class_ 108), (1, u "java/lang/Enum$EnumDesc"), (2, .class_ 112), (0, u "java/lang/constant/Constable"), (0, .class_ 114), (0, u "java/lang/Comparable"), (0, .class_ 116), (0, u "java/io/Serializable")] 87

/-- java/lang/Enum -/
def k5 : Class := { plain "java/lang/Enum" (some 0) with
  accessFlags := 1057
  interfaces := #[2, 3, 4]
  cf := some (fileOf pool5 2 #[.nestMembers #[106]] #[] 1057 12 #[111, 113, 115] #[{ accessFlags := 18, nameIndex := 5, descriptorIndex := 6, attributes := #[] }, { accessFlags := 18, nameIndex := 9, descriptorIndex := 10, attributes := #[] }, { accessFlags := 2, nameIndex := 19, descriptorIndex := 10, attributes := #[] }])
  fields := #[{ name := "name", type := (.object "java/lang/String"), accessFlags := 18, slot := 0, constantValue := 0 }, { name := "ordinal", type := .int, accessFlags := 18, slot := 1, constantValue := 0 }, { name := "hash", type := .int, accessFlags := 2, slot := 2, constantValue := 0 }]
  methods := #[]
  instanceTypes := #[(.object "java/lang/String"), .int, .int]
  staticTypes := #[]
  resolved := Array.replicate 204 none
  statics := none }

def pool6 : Array CpInfo := pool [(1, .class_ 2), (0, u "com/example/tracewarden/tracewarden/net/Order"), (0, .fieldref 1 4), (0, .nameAndType 5 6), (0, u "STRICT"), (0, u "Lcom/example/tracewarden/tracewarden/net/Order;"), (0, .fieldref 1 8), (0, .nameAndType 9 6), (0, u "REVERSE_STRICT"), (0, .fieldref 1 11), (0, .nameAndType 12 6), (0, u "EXCLUSIVE"), (0, .fieldref 1 14), (0, .nameAndType 15 6), (0, u "INTERLEAVING"), (2, u "$VALUES"), (0, u "[Lcom/example/tracewarden/tracewarden/net/Order;"), (6, .class_ 28), (1, u "java/lang/Enum"), (8, u "label"), (0, u "Ljava/lang/String;"), (29, u "isKeptBy"), (0, u "(Lcom/example/tracewarden/tracewarden/net/Order;)Z")] 6

def k6c0 : Code := { maxStack := 2, maxLocals := 2, code := prog_151_method_5_code, exceptionTable := #[], attributes := #[] }
def k6m0 : Method := { name := "isKeptBy", desc := "(Lcom/example/tracewarden/tracewarden/net/Order;)Z", sig := { parameters := [(.object "com/example/tracewarden/tracewarden/net/Order")], returnType := some .boolean }, accessFlags := 1, code := some k6c0 }
/-- com/example/tracewarden/tracewarden/net/Order -/
def k6 : Class := { plain "com/example/tracewarden/tracewarden/net/Order" (some 5) with
  accessFlags := 16433
  interfaces := #[]
  cf := some (fileOf pool6 1 #[] #[{ accessFlags := 1, nameIndex := 68, descriptorIndex := 69, attributes := #[] }] 16433 26 #[] #[{ accessFlags := 16409, nameIndex := 5, descriptorIndex := 6, attributes := #[] }, { accessFlags := 16409, nameIndex := 9, descriptorIndex := 6, attributes := #[] }, { accessFlags := 16409, nameIndex := 12, descriptorIndex := 6, attributes := #[] }, { accessFlags := 16409, nameIndex := 15, descriptorIndex := 6, attributes := #[] }, { accessFlags := 18, nameIndex := 37, descriptorIndex := 38, attributes := #[] }, { accessFlags := 4122, nameIndex := 18, descriptorIndex := 19, attributes := #[] }])
  fields := #[{ name := "STRICT", type := (.object "com/example/tracewarden/tracewarden/net/Order"), accessFlags := 16409, slot := 0, constantValue := 0 }, { name := "REVERSE_STRICT", type := (.object "com/example/tracewarden/tracewarden/net/Order"), accessFlags := 16409, slot := 1, constantValue := 0 }, { name := "EXCLUSIVE", type := (.object "com/example/tracewarden/tracewarden/net/Order"), accessFlags := 16409, slot := 2, constantValue := 0 }, { name := "INTERLEAVING", type := (.object "com/example/tracewarden/tracewarden/net/Order"), accessFlags := 16409, slot := 3, constantValue := 0 }, { name := "label", type := (.object "java/lang/String"), accessFlags := 18, slot := 3, constantValue := 0 }, { name := "$VALUES", type := (.array (.object "com/example/tracewarden/tracewarden/net/Order")), accessFlags := 4122, slot := 4, constantValue := 0 }]
  methods := #[k6m0]
  instanceTypes := #[(.object "java/lang/String"), .int, .int, (.object "java/lang/String")]
  staticTypes := #[(.object "com/example/tracewarden/tracewarden/net/Order"), (.object "com/example/tracewarden/tracewarden/net/Order"), (.object "com/example/tracewarden/tracewarden/net/Order"), (.object "com/example/tracewarden/tracewarden/net/Order"), (.array (.object "com/example/tracewarden/tracewarden/net/Order"))]
  resolved := Array.replicate 76 none
  statics := some 0 }

def pool7 : Array CpInfo := pool [(1, u "java/lang/Cloneable"), (0, .class_ 1), (0, u "java/lang/Object"), (0, .class_ 3)] 3

/-- java/lang/Cloneable -/
def k7 : Class := { plain "java/lang/Cloneable" (some 0) with
  accessFlags := 1537
  interfaces := #[]
  cf := some (fileOf pool7 2 #[] #[] 1537 4 #[] #[])
  fields := #[]
  methods := #[]
  instanceTypes := #[]
  staticTypes := #[]
  resolved := Array.replicate 8 none
  statics := none }

/-- the primitive byte -/
def k8 : Class := { plain "byte" none with kind := .primitive 'B', accessFlags := 0x411 }
/-- [B -/
def k9 : Class := { plain "[B" (some 0) with kind := .array 8 .byte, interfaces := #[7, 4], accessFlags := 1041 }

/-- the primitive int -/
def k10 : Class := { plain "int" none with kind := .primitive 'I', accessFlags := 0x411 }
/-- [I -/
def k11 : Class := { plain "[I" (some 0) with kind := .array 10 .int, interfaces := #[7, 4], accessFlags := 1041 }

def heap : Heap := #[{ cls := 6, slots := #[.ref 1, .ref 2, .ref 3, .ref 4, .null], vm := .statics 6 },
  { cls := 6, slots := #[.null, .int 0, .int 0, .null], vm := .none },
  { cls := 6, slots := #[.null, .int 1, .int 0, .null], vm := .none },
  { cls := 6, slots := #[.null, .int 2, .int 0, .null], vm := .none },
  { cls := 6, slots := #[.null, .int 3, .int 0, .null], vm := .none }]
def classes : Array Class := #[k0, k1, k2, k3, k4, k5, k6, k7, k8, k9, k10, k11]
def interned : List (Array UInt16 × Addr) := []
def slotsUsed : Nat := 21
def theMethod : MethodId := ⟨1, 4⟩
def args0 : Array Value := #[.int 5, .int 2]
def aboutOver (below : List Frame) : State where
  vm := { classes := classes, interned := interned.toArray }
  heap := heap
  slotsUsed := slotsUsed
  threads := #[{ frames := .invoking theMethod args0 :: below }]
def below0 : List Frame := [.native { method := ⟨0, 0⟩, args := #[] }]
def about1 : State := aboutOver below0
def p0 : Program := .bare "" "" ""
def e0 : Env := launch0.env 0 0 0
theorem w_frames : about1.frames = Frame.invoking theMethod args0 :: below0 := rfl
set_option maxRecDepth 65536 in
theorem w_args : argsFit about1.vm theMethod args0 = true := by decide +kernel
set_option maxRecDepth 65536 in
theorem w_heap : heapFits about1 = true := by decide +kernel
set_option maxRecDepth 65536 in
theorem w_runnable : about1.curStatus? = some .runnable := by decide +kernel
set_option maxRecDepth 65536 in
theorem w_alone : about1.alone = true := by decide +kernel
set_option maxRecDepth 65536 in
theorem w_named : about1.methodNamed? x = some theMethod := by decide +kernel
set_option maxRecDepth 65536 in
theorem w_hears : about1.hears theMethod below0 = true := by decide +kernel
set_option maxRecDepth 65536 in
theorem w_ripe : about1.ripe theMethod args0 below0 = true := by decide +kernel
theorem w_running : about1.status = .running := rfl
set_option maxRecDepth 65536 in
theorem w_room : about1.hasRoom e0.platform room_1 = true :=
  launch0.hasRoom_least _ room_1 (by decide +kernel) (by decide +kernel) (by decide +kernel) (by decide +kernel) (by decide +kernel) (by decide +kernel)
theorem allAtoms_all (ts : List Jvm.Cond) (a : Array Jvm.Value) (st : Jvm.State) : (allAtoms ts).before a st = ts.all (fun c => c.before a st) := by
  induction ts with
  | nil => rfl
  | cons c t ih =>
    show (Jvm.Cond.and c (allAtoms t)).before a st = _
    rw [Jvm.Cond.before_and, ih, List.all_cons]
def words1 : List Jvm.Cond := Jvm.Cond.code x code maxLocals ret :: tables_1
/-- a 'code' word, met by the world's own term for the bytes: nothing is compared byte by byte -/
theorem code_word {y : MethodName} {bytes : ByteArray} {mx : Nat} {rt : Option FieldType} {a : Array Value} {s : State} {m : MethodId} {meth : Method} {c : Code} (h1 : s.methodNamed? y = some m) (h2 : s.vm.method? m = some meth) (h3 : meth.code = some c) (h4 : c.code = bytes)
    (h5 : (c.maxLocals == mx && c.exceptionTable.isEmpty && decide (c.maxStack ≤ mostOperands) && decide (meth.sig.returnType = rt) && !meth.locks && decide (parseMethodDescriptor y.desc = some meth.sig)) = true) : (Jvm.Cond.code y bytes mx rt).before a s = true := by
  simp only [Bool.and_eq_true, beq_iff_eq, Bool.not_eq_true', decide_eq_true_eq] at h5
  obtain ⟨⟨⟨⟨⟨g1, g2⟩, g3⟩, g4⟩, g5⟩, g6⟩ := h5
  simp [Cond.before, Cond.holds, Cond.value, h1, h2, h3, h4, g1, g2, g3, g4, g5, g6]
def isCode : Jvm.Cond → Bool
  | .code _ _ _ _ => true
  | _ => false
theorem all_split {L : List Jvm.Cond} {P : Jvm.Cond → Bool} (h1 : L.all (fun c => isCode c || P c) = true) (h2 : ∀ c ∈ L.filter isCode, P c = true) : L.all P = true := by
  refine List.all_eq_true.mpr fun c hc => ?_
  have h := List.all_eq_true.mp h1 c hc
  rcases Bool.eq_false_or_eq_true (isCode c) with hi | hi
  · exact h2 c (List.mem_filter.mpr ⟨hc, hi⟩)
  · simpa [hi] using h
set_option maxRecDepth 65536 in
theorem w_c0 : (Jvm.Cond.code x code maxLocals ret).before args0 about1 = true := code_word (m := ⟨1, 4⟩) (meth := k1m4) (c := k1c4) (by decide +kernel) rfl rfl rfl (by decide +kernel)
set_option maxRecDepth 65536 in
theorem w_c1 : (Jvm.Cond.code ({ cls := "com/example/tracewarden/tracewarden/net/OrderIsKeptByPinLaw", name := "firstBefore", desc := "(I)Z" } : Jvm.MethodName) method_3_code (1 : Nat) (Option.some Jvm.ClassFile.FieldType.boolean)).before args0 about1 = true := code_word (m := ⟨1, 2⟩) (meth := k1m2) (c := k1c2) (by decide +kernel) rfl rfl rfl (by decide +kernel)
set_option maxRecDepth 65536 in
theorem w_c2 : (Jvm.Cond.code ({ cls := "com/example/tracewarden/tracewarden/net/OrderIsKeptByPinLaw", name := "secondBefore", desc := "(I)Z" } : Jvm.MethodName) method_4_code (1 : Nat) (Option.some Jvm.ClassFile.FieldType.boolean)).before args0 about1 = true := code_word (m := ⟨1, 3⟩) (meth := k1m3) (c := k1c3) (by decide +kernel) rfl rfl rfl (by decide +kernel)
set_option maxRecDepth 65536 in
theorem w_c3 : (Jvm.Cond.code ({ cls := "com/example/tracewarden/tracewarden/net/OrderIsKeptByPinLaw", name := "pick", desc := "(I)Lcom/example/tracewarden/tracewarden/net/Order;" } : Jvm.MethodName) method_2_code (1 : Nat) (Option.some (Jvm.ClassFile.FieldType.object "com/example/tracewarden/tracewarden/net/Order"))).before args0 about1 = true := code_word (m := ⟨1, 1⟩) (meth := k1m1) (c := k1c1) (by decide +kernel) rfl rfl rfl (by decide +kernel)
set_option maxRecDepth 65536 in
theorem w_c4 : (Jvm.Cond.code ({ cls := "com/example/tracewarden/tracewarden/net/Order", name := "isKeptBy", desc := "(Lcom/example/tracewarden/tracewarden/net/Order;)Z" } : Jvm.MethodName) prog_151_method_5_code (2 : Nat) (Option.some Jvm.ClassFile.FieldType.boolean)).before args0 about1 = true := code_word (m := ⟨6, 0⟩) (meth := k6m0) (c := k6c0) (by decide +kernel) rfl rfl rfl (by decide +kernel)
def codes1 : List Jvm.Cond := [Jvm.Cond.code x code maxLocals ret, Jvm.Cond.code ({ cls := "com/example/tracewarden/tracewarden/net/OrderIsKeptByPinLaw", name := "firstBefore", desc := "(I)Z" } : Jvm.MethodName) method_3_code (1 : Nat) (Option.some Jvm.ClassFile.FieldType.boolean), Jvm.Cond.code ({ cls := "com/example/tracewarden/tracewarden/net/OrderIsKeptByPinLaw", name := "secondBefore", desc := "(I)Z" } : Jvm.MethodName) method_4_code (1 : Nat) (Option.some Jvm.ClassFile.FieldType.boolean), Jvm.Cond.code ({ cls := "com/example/tracewarden/tracewarden/net/OrderIsKeptByPinLaw", name := "pick", desc := "(I)Lcom/example/tracewarden/tracewarden/net/Order;" } : Jvm.MethodName) method_2_code (1 : Nat) (Option.some (Jvm.ClassFile.FieldType.object "com/example/tracewarden/tracewarden/net/Order")), Jvm.Cond.code ({ cls := "com/example/tracewarden/tracewarden/net/Order", name := "isKeptBy", desc := "(Lcom/example/tracewarden/tracewarden/net/Order;)Z" } : Jvm.MethodName) prog_151_method_5_code (2 : Nat) (Option.some Jvm.ClassFile.FieldType.boolean)]
set_option maxRecDepth 65536 in
theorem codes_eq : words1.filter isCode = codes1 := rfl
theorem w_codes : ∀ c ∈ words1.filter isCode, c.before args0 about1 = true := by
  rw [codes_eq]
  intro c hc
  simp only [codes1, List.mem_cons, List.not_mem_nil, or_false] at hc
  rcases hc with rfl | rfl | rfl | rfl | rfl
  · exact w_c0
  · exact w_c1
  · exact w_c2
  · exact w_c3
  · exact w_c4
set_option maxRecDepth 65536 in
theorem w_t1 : (words1.take 24).all (fun c => isCode c || c.before args0 about1) = true := by decide +kernel
set_option maxRecDepth 65536 in
theorem w_t2 : (words1.drop 24).all (fun c => isCode c || c.before args0 about1) = true := by decide +kernel
theorem w_tables : (allAtoms (Jvm.Cond.code x code maxLocals ret :: tables_1)).before args0 about1 = true := by
  rw [allAtoms_all]
  show words1.all (fun c => c.before args0 about1) = true
  refine all_split ?_ w_codes
  rw [← List.take_append_drop 24 words1, List.all_append, w_t1, w_t2]
  rfl
set_option maxRecDepth 65536 in
theorem w_case : (Jvm.Cond.and given_1 narrow_1).before args0 about1 = true := by decide +kernel
theorem w_applies : (headSpec (Jvm.Cond.code x code maxLocals ret :: tables_1) room_1).applies x e0.platform about1 = true :=
  (Spec.applies_iff w_frames).mpr ⟨w_running, w_runnable, w_alone, w_named, w_hears, w_ripe, w_room, w_tables⟩
theorem atStart : AtStart classFile x code maxLocals ret World_1 tables_1 room_1 Calls_1 rest_1 Pre_1 launch0 p0 e0 about1 theMethod args0 below0 :=
  ⟨lists_1, trivial, launch0.admits_env _ _ _, launch0.least_env, fairChoices_fair.cas, fairChoices_fair.clock, w_frames, w_args, w_heap, w_applies, trivial, trivial, w_case⟩
end start1
theorem witness_1 : WitnessClaimed_1 := ⟨start1.p0, start1.e0, start1.about1, start1.theMethod, start1.args0, start1.below0, start1.atStart⟩
end Jvm.Pilot.@@N@@
