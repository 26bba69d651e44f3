import JvmDerived
import JvmDerived.Pilot.@@N@@Statement
import JvmDerived.Pilot.@@N@@Code
set_option linter.unusedVariables false
set_option linter.unusedSimpArgs false
namespace Jvm.Pilot.@@N@@
open Jvm Jvm.ClassFile Sem Op Lib Jvm.Free Jvm.Stand Jvm.LawKit Jvm.RoadKit Bundle Jvm.Pilot.@@N@@.Jvm.D

section Own
variable {p : Program} {l : Launch} {e : Env} {R : Room} {s : State} {m : MethodId} {args : Array Value} {below : List Frame} {meth : Method} {c : Code} {T : State} {locs : List Loc} {cells slots : Nat} {Qo : Option Value → Heap → List Loc → Prop} {C N : Nat}
/-- the run goes on from U to a return that answers Qo -/
def own_Done (p : Program) (e : Env) (below : List Frame) (s : State) (Qo : Option Value → Heap → List Loc → Prop) (C N : Nat) (U : State) : Prop :=
  ∃ s₂ o, Steps p.tables e below U s₂ ∧ s₂.status = .running ∧ Ended s₂ below o ∧ (∃ v L, o = .returned v ∧ Qo v s₂.heap L ∧ FrameEnd s o s₂ L C N)
theorem own_go {U U' : State} (h : ∀ t, Steps p.tables e below U' t → Steps p.tables e below U t) (d : own_Done p e below s Qo C N U') : own_Done p e below s Qo C N U := by
  obtain ⟨s₂, o, h1, h2⟩ := d
  exact ⟨s₂, o, h _ h1, h2⟩
theorem own_join {U U' : State} (h : own_Done p e below s Qo C N U' → own_Done p e below s Qo C N U) (d : own_Done p e below s Qo C N U') : own_Done p e below s Qo C N U := h d
theorem own_sta_keep {Z : State} {h h' : Heap} {C n d : String} {v : Value} (F : Sta Z h C n d v) (K : Keep h h' []) : Sta Z h' C n d v := by
  obtain ⟨cf, i, k, f, st, cell, h1, h2, h3, h4, h5, r⟩ := F
  exact ⟨cf, i, k, f, st, cell, h1, h2, h3, h4, K.2.1 st cell h5 (fun q => nomatch q), r⟩
theorem own_at {c : Cell} {z j : Int32} {vs : List Value} {d v : Value} {i : Nat} (S : c.slots.size = z.toNatClampNeg) (H : Has c vs d) (q : ¬ j < 0 ∧ j < z) (hj : j.toNatClampNeg = i) (hv : vs.getD i d = v) : c.slots[j.toNatClampNeg]? = some v := by
  have h := inb_of S q
  rw [H _ (Nat.lt_of_not_le fun k => h (Or.inr k)), hj, hv]
/-- an array of ints, bytes, chars .. by what its places hold -/
def own_Arf (Z : State) (h : Heap) (a : Addr) (k : ClassId) (ty : FieldType) (n : Int32) (f : Int32 → Int32) : Prop :=
  ∃ c : Cell, Arr Z h a c ty ∧ c.cls = k ∧ c.slots.size = n.toNatClampNeg ∧ ¬ n < 0 ∧ ∀ j : Int32, ¬ j < 0 → j < n → c.slots[j.toNatClampNeg]? = some (.int (f j))
section Arf
variable {Z : State} {h h' : Heap} {a b : Addr} {k : ClassId} {ty : FieldType} {n : Int32} {f : Int32 → Int32}
theorem own_Arf.lt (F : own_Arf Z h a k ty n f) : a < h.size := by obtain ⟨c, A, -⟩ := F; exact A.lt
theorem own_Arf.ext (F : own_Arf Z h a k ty n f) (E : Ext h h') : own_Arf Z h' a k ty n f := by obtain ⟨c, A, r⟩ := F; exact ⟨c, A.ext E, r⟩
theorem own_Arf.other {sl : Nat} {v : Value} (F : own_Arf Z h b k ty n f) (W : Wr h h' a sl v) (q : b ≠ a) : own_Arf Z h' b k ty n f := by obtain ⟨c, A, r⟩ := F; exact ⟨c, A.other W q, r⟩
theorem own_Arf.keep {ws : List Addr} (F : own_Arf Z h a k ty n f) (K : Keep h h' ws) (q : a ∉ ws) : own_Arf Z h' a k ty n f := by obtain ⟨c, A, r⟩ := F; exact ⟨c, ⟨K.2.1 a c A.1 q, A.2⟩, r⟩
theorem own_Arf.new (A : Arr Z h a (newA k ty n) ty) (q : ¬ n < 0) (hd : defaultValue ty = .int 0) : own_Arf Z h a k ty n (fun _ => (0 : Int32)) :=
  ⟨_, A, rfl, sz_new _ _ _, q, fun j h1 h2 => by
    have h3 := inb_of (sz_new k ty n) (z := n) (j := j) ⟨h1, h2⟩
    rw [sz_new] at h3
    rw [get_new h3, hd]⟩
theorem own_Arf.set {c : Cell} {j v : Int32} (A : Arr Z h a c ty) (q1 : c.cls = k) (S : c.slots.size = n.toNatClampNeg) (q3 : ¬ n < 0) (H : ∀ j : Int32, ¬ j < 0 → j < n → c.slots[j.toNatClampNeg]? = some (.int (f j))) (hj : ¬ j < 0 ∧ j < n) (W : Wr h h' a j.toNatClampNeg (.int v)) :
    own_Arf Z h' a k ty n (fun i => if i = j then v else f i) :=
  ⟨c.setSlot j.toNatClampNeg (.int v), A.same W, q1, by rw [sz_set]; exact S, q3, fun i h1 h2 => by
    by_cases e : i = j
    · rw [get_hit (inb_of S hj) e]; simp only [if_pos e]
    · rw [get_miss hj.1 h1 e, H i h1 h2]; simp only [if_neg e]⟩
end Arf
theorem own_ret (X : Stand p l e R s m args below meth c T locs cells slots) {v : Option Value} {g : JFrame} (hlk : meth.locks = false) (hv : meth.sig.returnType = none → v = none) (hC : cells ≤ C) (hN : slots ≤ N)
    (st : ∀ fs, (∀ (f : JFrame) (acts : List Action), f.method = m → f.locked = none → f.entered = [] → (doReturn e (T.setTop f) acts v).1 = T.setFrames fs) → Steps p.tables e below (T.setTop g) (T.setFrames fs)) (hQ : Qo v T.heap locs) : own_Done p e below s Qo C N (T.setTop g) := by
  obtain ⟨fs, hr, hrun, hended, hW, hsame⟩ := X.leave (v := v) hv hlk
  exact ⟨_, _, st fs hr, hrun, hended, _, _, rfl, hQ, ⟨_, rfl⟩, hW, hsame.mono hC hN⟩
theorem own_retI (X : Stand p l e R s m args below meth c T locs cells slots) (hx : p.tables.exec = Jvm.exec) {pc : Nat} {Ls : Array Slot} {z : Int32} {rest : List Value} (hret : meth.sig.returnType = some .int) (hd : decode c.code pc = .ok (.ireturn, 1)) {fs : List Frame}
    (hl : ∀ (f : JFrame) (acts : List Action), f.method = m → f.locked = none → f.entered = [] → (doReturn e (T.setTop f) acts (some (.int z))).1 = T.setFrames fs) : Steps p.tables e below (T.setTop (mkF m pc Ls (.int z :: rest))) (T.setFrames fs) := by
  exact retOut X hx hret rfl (Or.inl ⟨rfl, Or.inl rfl, z, rfl⟩) hd hl
theorem own_retJ (X : Stand p l e R s m args below meth c T locs cells slots) (hx : p.tables.exec = Jvm.exec) {pc : Nat} {Ls : Array Slot} {z : Int64} {rest : List Value} (hret : meth.sig.returnType = some .long) (hd : decode c.code pc = .ok (.lreturn, 1)) {fs : List Frame}
    (hl : ∀ (f : JFrame) (acts : List Action), f.method = m → f.locked = none → f.entered = [] → (doReturn e (T.setTop f) acts (some (.long z))).1 = T.setFrames fs) : Steps p.tables e below (T.setTop (mkF m pc Ls (.long z :: rest))) (T.setFrames fs) := by
  exact retOut X hx hret rfl (Or.inr (Or.inl ⟨rfl, rfl, z, rfl⟩)) hd hl
theorem own_retR (X : Stand p l e R s m args below meth c T locs cells slots) (hx : p.tables.exec = Jvm.exec) {pc : Nat} {Ls : Array Slot} {w : Value} {t : FieldType} {rest : List Value} (hret : meth.sig.returnType = some t) (ht : t.isReference = true) (hw : w.isRef = true) (hn : narrow t w = w) (hd : decode c.code pc = .ok (.areturn, 1)) {fs : List Frame}
    (hl : ∀ (f : JFrame) (acts : List Action), f.method = m → f.locked = none → f.entered = [] → (doReturn e (T.setTop f) acts (some w)).1 = T.setFrames fs) : Steps p.tables e below (T.setTop (mkF m pc Ls (w :: rest))) (T.setFrames fs) := by
  exact retOut X hx hret hn (Or.inr (Or.inr (Or.inr (Or.inr ⟨rfl, ht, hw⟩)))) hd hl
/-- the same where Strings may be interned meanwhile -/
def own_DoneW (p : Program) (e : Env) (below : List Frame) (s : State) (Z : State) (EL : List (String × Nat)) (Qo : Option Value → Heap → List Loc → Prop) (C N : Nat) (U : State) : Prop :=
  ∃ s₂ o, Steps p.tables e below U s₂ ∧ s₂.status = .running ∧ Ended s₂ below o ∧ (∃ v L, o = .returned v ∧ Qo v s₂.heap L ∧ CHr Z EL s.vm s.heap s₂.vm s₂.heap ∧ ReturnedEndW s o s₂ L C N)
theorem own_goW {Z : State} {EL : List (String × Nat)} {U U' : State} (h : ∀ t, Steps p.tables e below U' t → Steps p.tables e below U t) (d : own_DoneW p e below s Z EL Qo C N U') : own_DoneW p e below s Z EL Qo C N U := by
  obtain ⟨s₂, o, h1, h2⟩ := d
  exact ⟨s₂, o, h _ h1, h2⟩
theorem own_joinW {Z : State} {EL : List (String × Nat)} {U U' : State} (h : own_DoneW p e below s Z EL Qo C N U' → own_DoneW p e below s Z EL Qo C N U) (d : own_DoneW p e below s Z EL Qo C N U') : own_DoneW p e below s Z EL Qo C N U := h d
theorem own_retW {Z : State} {EL : List (String × Nat)} {vm₁ : Vm} (X : Stand p l e R (s.setVm vm₁) m args below meth c T locs cells slots) {n : Nat} (hS : s.Since vm₁ n) (hn : n ≤ T.heap.size) (hC : CHr Z EL s.vm s.heap T.vm T.heap) {v : Option Value} {g : JFrame} (hlk : meth.locks = false) (hv : meth.sig.returnType = none → v = none) (hCc : cells ≤ C) (hN : slots ≤ N)
    (st : ∀ fs, (∀ (f : JFrame) (acts : List Action), f.method = m → f.locked = none → f.entered = [] → (doReturn e (T.setTop f) acts v).1 = T.setFrames fs) → Steps p.tables e below (T.setTop g) (T.setFrames fs)) (hQ : Qo v T.heap locs) : own_DoneW p e below s Z EL Qo C N (T.setTop g) := by
  obtain ⟨fs, hr, hrun, hended, hE⟩ := X.leaveW hS hn (v := v) hv hlk
  exact ⟨_, _, st fs hr, hrun, hended, _, _, rfl, hQ, hC, hE.1, hE.2.1, hE.2.2.1, hE.2.2.2.mono hCc hN⟩
end Own

theorem d2_0 : decode prog_59_method_2_code 0 = .ok (.iload_n 0, 1) := by decide +kernel
theorem d2_1 : decode prog_59_method_2_code 1 = .ok (.bipush 32, 2) := by decide +kernel
theorem d2_3 : decode prog_59_method_2_code 3 = .ok (.if_icmp .eq 21, 3) := by decide +kernel
theorem d2_24 : decode prog_59_method_2_code 24 = .ok (.iconst 1, 1) := by decide +kernel
theorem d2_25 : decode prog_59_method_2_code 25 = .ok (.goto 4, 3) := by decide +kernel
theorem d2_29 : decode prog_59_method_2_code 29 = .ok (.ireturn, 1) := by decide +kernel
theorem d2_6 : decode prog_59_method_2_code 6 = .ok (.iload_n 0, 1) := by decide +kernel
theorem d2_7 : decode prog_59_method_2_code 7 = .ok (.bipush 9, 2) := by decide +kernel
theorem d2_9 : decode prog_59_method_2_code 9 = .ok (.if_icmp .eq 15, 3) := by decide +kernel
theorem d2_12 : decode prog_59_method_2_code 12 = .ok (.iload_n 0, 1) := by decide +kernel
theorem d2_13 : decode prog_59_method_2_code 13 = .ok (.bipush 13, 2) := by decide +kernel
theorem d2_15 : decode prog_59_method_2_code 15 = .ok (.if_icmp .eq 9, 3) := by decide +kernel
theorem d2_18 : decode prog_59_method_2_code 18 = .ok (.iload_n 0, 1) := by decide +kernel
theorem d2_19 : decode prog_59_method_2_code 19 = .ok (.bipush 10, 2) := by decide +kernel
theorem d2_21 : decode prog_59_method_2_code 21 = .ok (.if_icmp .ne 7, 3) := by decide +kernel
theorem d2_28 : decode prog_59_method_2_code 28 = .ok (.iconst 0, 1) := by decide +kernel
theorem own_pn0 : plainName "com/example/map50k/map50k/io/XmlWhitespace" = true := by first | (simp [plainName, overriddenIn]; done) | decide +kernel
theorem own_ef2 (m : MethodId) (x0 : Int32) : entryFrame m #[(.int x0)] 1 = mkF m 0 #[.val (.int x0)] [] := by first | (simp [entryFrame, mkF, argsToLocals, Value.category]; done) | rfl
def f_2 (p0 : Int32) : Int32 := (if p0 = (32 : Int32) then (1 : Int32) else (if p0 = (9 : Int32) then (1 : Int32) else (if p0 = (13 : Int32) then (1 : Int32) else (if p0 = (10 : Int32) then (1 : Int32) else (0 : Int32)))))
def Q2 (Z : State) (p0 : Int32) (h0 : Heap) (n0 : Nat) (v : Option Value) (h : Heap) (L : List Loc) : Prop := v = some (.int (f_2 p0)) ∧ Fr n0 L ∧ h = h0
set_option maxRecDepth 65536 in
set_option maxHeartbeats 40000000 in
theorem rm2 (l : Launch) (Z : State) (a0 : Array Value) (hw : ∀ d ∈ tables_1, d.before a0 Z = true) (ws : List Jvm.Cond) (p0 : Int32) (h0 : Heap) (n0 : Nat) (Z0 : n0 ≤ h0.size) :
    MetFree l (⟨"com/example/map50k/map50k/io/XmlWhitespace", "is", "(I)Z"⟩ : MethodName) (head1 (Jvm.Cond.code (⟨"com/example/map50k/map50k/io/XmlWhitespace", "is", "(I)Z"⟩ : MethodName) prog_59_method_2_code 1 (some .boolean) :: ws) ({ frames := 0, cells := 0, slots := 0, locals := 0 } : Room)) (fun a U => a = #[(.int p0)] ∧ Z.Warmed39 U.vm ∧ U.heap = h0) (fun _ _ _ _ _ => True) (fun _ U o U' => ∃ v L, o = .returned v ∧ (Q2 Z p0 h0 n0) v U'.heap L ∧ FrameEnd U o U' L ({ frames := 0, cells := 0, slots := 0, locals := 0 } : Room).cells ({ frames := 0, cells := 0, slots := 0, locals := 0 } : Room).slots) := by
  refine MetFree.of_bodySF (plainFor_of_name own_pn0) hisR ?_
  intro p e s m args below meth c s₁ Bd hml0 hP hK
  obtain ⟨rfl, hZ, hh⟩ := hP
  have hx := Bd.exec
  have hby := Bd.bytes
  have hml : c.maxLocals = 1 := hml0
  have hown : s.vm.findClass "com/example/map50k/map50k/io/XmlWhitespace" = some m.cls := findClass_of_methodNamed Bd.named
  have hnm := (name_of_methodNamed Bd.named Bd.method).1
  have hlk : meth.locks = false := BodyLoose.notSynchronized (by assumption)
  have X0 : Stand p l e ({ frames := 0, cells := 0, slots := 0, locals := 0 } : Room) s m #[(.int p0)] below meth c s₁ [] 0 0 := Stand.of_body Bd
  have e0 : s₁.heap = h0 := by rw [← hh, Bd.state]; rfl
  have N0 := Fr.nil n0
  show own_Done p e below s (Q2 Z p0 h0 n0) ({ frames := 0, cells := 0, slots := 0, locals := 0 } : Room).cells ({ frames := 0, cells := 0, slots := 0, locals := 0 } : Room).slots (s₁.setTop (entryFrame m #[(.int p0)] 1))
  refine own_go (U' := s₁.setTop (mkF m 0 #[.val (.int p0)] [])) (fun _ k => castTop (own_ef2 m p0) k) ?_
  refine own_go (U' := s₁.setTop (mkF m 1 #[.val (.int p0)] [(.int p0)])) (fun _ k => XS.iloadN X0.here hx rfl (hb hby d2_0) rfl k) ?_
  refine own_go (U' := s₁.setTop (mkF m 3 #[.val (.int p0)] [(.int (32 : Int32)), (.int p0)])) (fun _ k => XS.bipush X0.here hx rfl (hb hby d2_1) k) ?_
  by_cases hc3_1 : p0 = (32 : Int32)
  · refine own_go (U' := s₁.setTop (mkF m 24 #[.val (.int p0)] [])) (fun _ k => XS.icmpYes X0.here hx rfl (pc0 := 3) (pc' := 24) rfl (hb hby d2_3) rfl (teq hc3_1).1 (by decide) (by decide) k) ?_
    refine own_go (U' := s₁.setTop (mkF m 25 #[.val (.int p0)] [(.int (1 : Int32))])) (fun _ k => XS.iconst X0.here hx rfl (hb hby d2_24) k) ?_
    refine own_go (U' := s₁.setTop (mkF m 29 #[.val (.int p0)] [(.int (1 : Int32))])) (fun _ k => XS.goto X0.here hx rfl (pc0 := 25) (pc' := 29) rfl (hb hby d2_25) (by decide) (by decide) k) ?_
    refine own_ret X0 (v := (some (.int (1 : Int32)))) hlk (fun h => by rw [Bd.returns] at h; cases h) (by decide) (by decide) (fun fs hr => retN X0 hx (t := .boolean) Bd.returns (by simp) (hb hby d2_29) hr) ?_
    show (Q2 Z p0 h0 n0) _ s₁.heap _
    rw [e0]
    exact ⟨by first | (simp only [f_2, if_pos hc3_1]; done) | rfl | (simp [f_2, if_pos hc3_1]; done), N0, rfl⟩
  · refine own_go (U' := s₁.setTop (mkF m 6 #[.val (.int p0)] [])) (fun _ k => XS.icmpNo X0.here hx rfl (hb hby d2_3) rfl (feq hc3_1).1 k) ?_
    refine own_go (U' := s₁.setTop (mkF m 7 #[.val (.int p0)] [(.int p0)])) (fun _ k => XS.iloadN X0.here hx rfl (hb hby d2_6) rfl k) ?_
    refine own_go (U' := s₁.setTop (mkF m 9 #[.val (.int p0)] [(.int (9 : Int32)), (.int p0)])) (fun _ k => XS.bipush X0.here hx rfl (hb hby d2_7) k) ?_
    by_cases hc9_2 : p0 = (9 : Int32)
    · refine own_go (U' := s₁.setTop (mkF m 24 #[.val (.int p0)] [])) (fun _ k => XS.icmpYes X0.here hx rfl (pc0 := 9) (pc' := 24) rfl (hb hby d2_9) rfl (teq hc9_2).1 (by decide) (by decide) k) ?_
      refine own_go (U' := s₁.setTop (mkF m 25 #[.val (.int p0)] [(.int (1 : Int32))])) (fun _ k => XS.iconst X0.here hx rfl (hb hby d2_24) k) ?_
      refine own_go (U' := s₁.setTop (mkF m 29 #[.val (.int p0)] [(.int (1 : Int32))])) (fun _ k => XS.goto X0.here hx rfl (pc0 := 25) (pc' := 29) rfl (hb hby d2_25) (by decide) (by decide) k) ?_
      refine own_ret X0 (v := (some (.int (1 : Int32)))) hlk (fun h => by rw [Bd.returns] at h; cases h) (by decide) (by decide) (fun fs hr => retN X0 hx (t := .boolean) Bd.returns (by simp) (hb hby d2_29) hr) ?_
      show (Q2 Z p0 h0 n0) _ s₁.heap _
      rw [e0]
      exact ⟨by first | (simp only [f_2, if_neg hc3_1, if_pos hc9_2]; done) | rfl | (simp [f_2, if_neg hc3_1, if_pos hc9_2]; done), N0, rfl⟩
    · refine own_go (U' := s₁.setTop (mkF m 12 #[.val (.int p0)] [])) (fun _ k => XS.icmpNo X0.here hx rfl (hb hby d2_9) rfl (feq hc9_2).1 k) ?_
      refine own_go (U' := s₁.setTop (mkF m 13 #[.val (.int p0)] [(.int p0)])) (fun _ k => XS.iloadN X0.here hx rfl (hb hby d2_12) rfl k) ?_
      refine own_go (U' := s₁.setTop (mkF m 15 #[.val (.int p0)] [(.int (13 : Int32)), (.int p0)])) (fun _ k => XS.bipush X0.here hx rfl (hb hby d2_13) k) ?_
      by_cases hc15_3 : p0 = (13 : Int32)
      · refine own_go (U' := s₁.setTop (mkF m 24 #[.val (.int p0)] [])) (fun _ k => XS.icmpYes X0.here hx rfl (pc0 := 15) (pc' := 24) rfl (hb hby d2_15) rfl (teq hc15_3).1 (by decide) (by decide) k) ?_
        refine own_go (U' := s₁.setTop (mkF m 25 #[.val (.int p0)] [(.int (1 : Int32))])) (fun _ k => XS.iconst X0.here hx rfl (hb hby d2_24) k) ?_
        refine own_go (U' := s₁.setTop (mkF m 29 #[.val (.int p0)] [(.int (1 : Int32))])) (fun _ k => XS.goto X0.here hx rfl (pc0 := 25) (pc' := 29) rfl (hb hby d2_25) (by decide) (by decide) k) ?_
        refine own_ret X0 (v := (some (.int (1 : Int32)))) hlk (fun h => by rw [Bd.returns] at h; cases h) (by decide) (by decide) (fun fs hr => retN X0 hx (t := .boolean) Bd.returns (by simp) (hb hby d2_29) hr) ?_
        show (Q2 Z p0 h0 n0) _ s₁.heap _
        rw [e0]
        exact ⟨by first | (simp only [f_2, if_neg hc3_1, if_neg hc9_2, if_pos hc15_3]; done) | rfl | (simp [f_2, if_neg hc3_1, if_neg hc9_2, if_pos hc15_3]; done), N0, rfl⟩
      · refine own_go (U' := s₁.setTop (mkF m 18 #[.val (.int p0)] [])) (fun _ k => XS.icmpNo X0.here hx rfl (hb hby d2_15) rfl (feq hc15_3).1 k) ?_
        refine own_go (U' := s₁.setTop (mkF m 19 #[.val (.int p0)] [(.int p0)])) (fun _ k => XS.iloadN X0.here hx rfl (hb hby d2_18) rfl k) ?_
        refine own_go (U' := s₁.setTop (mkF m 21 #[.val (.int p0)] [(.int (10 : Int32)), (.int p0)])) (fun _ k => XS.bipush X0.here hx rfl (hb hby d2_19) k) ?_
        by_cases hc21_4 : p0 = (10 : Int32)
        · refine own_go (U' := s₁.setTop (mkF m 24 #[.val (.int p0)] [])) (fun _ k => XS.icmpNo X0.here hx rfl (hb hby d2_21) rfl (teq hc21_4).2 k) ?_
          refine own_go (U' := s₁.setTop (mkF m 25 #[.val (.int p0)] [(.int (1 : Int32))])) (fun _ k => XS.iconst X0.here hx rfl (hb hby d2_24) k) ?_
          refine own_go (U' := s₁.setTop (mkF m 29 #[.val (.int p0)] [(.int (1 : Int32))])) (fun _ k => XS.goto X0.here hx rfl (pc0 := 25) (pc' := 29) rfl (hb hby d2_25) (by decide) (by decide) k) ?_
          refine own_ret X0 (v := (some (.int (1 : Int32)))) hlk (fun h => by rw [Bd.returns] at h; cases h) (by decide) (by decide) (fun fs hr => retN X0 hx (t := .boolean) Bd.returns (by simp) (hb hby d2_29) hr) ?_
          show (Q2 Z p0 h0 n0) _ s₁.heap _
          rw [e0]
          exact ⟨by first | (simp only [f_2, if_neg hc3_1, if_neg hc9_2, if_neg hc15_3, if_pos hc21_4]; done) | rfl | (simp [f_2, if_neg hc3_1, if_neg hc9_2, if_neg hc15_3, if_pos hc21_4]; done), N0, rfl⟩
        · refine own_go (U' := s₁.setTop (mkF m 28 #[.val (.int p0)] [])) (fun _ k => XS.icmpYes X0.here hx rfl (pc0 := 21) (pc' := 28) rfl (hb hby d2_21) rfl (feq hc21_4).2 (by decide) (by decide) k) ?_
          refine own_go (U' := s₁.setTop (mkF m 29 #[.val (.int p0)] [(.int (0 : Int32))])) (fun _ k => XS.iconst X0.here hx rfl (hb hby d2_28) k) ?_
          refine own_ret X0 (v := (some (.int (0 : Int32)))) hlk (fun h => by rw [Bd.returns] at h; cases h) (by decide) (by decide) (fun fs hr => retN X0 hx (t := .boolean) Bd.returns (by simp) (hb hby d2_29) hr) ?_
          show (Q2 Z p0 h0 n0) _ s₁.heap _
          rw [e0]
          exact ⟨by first | (simp only [f_2, if_neg hc3_1, if_neg hc9_2, if_neg hc15_3, if_neg hc21_4]; done) | rfl | (simp [f_2, if_neg hc3_1, if_neg hc9_2, if_neg hc15_3, if_neg hc21_4]; done), N0, rfl⟩
theorem d3_0 : decode method_2_code 0 = .ok (.ldc2_w 7, 3) := by decide +kernel
theorem d3_3 : decode method_2_code 3 = .ok (.lstore_n 1, 1) := by decide +kernel
theorem d3_4 : decode method_2_code 4 = .ok (.iload_n 0, 1) := by decide +kernel
theorem d3_5 : decode method_2_code 5 = .ok (.ifCond .lt 9, 3) := by decide +kernel
theorem d3_14 : decode method_2_code 14 = .ok (.iconst 0, 1) := by decide +kernel
theorem d3_15 : decode method_2_code 15 = .ok (.ireturn, 1) := by decide +kernel
theorem d3_8 : decode method_2_code 8 = .ok (.iload_n 0, 1) := by decide +kernel
theorem d3_9 : decode method_2_code 9 = .ok (.bipush 64, 2) := by decide +kernel
theorem d3_11 : decode method_2_code 11 = .ok (.if_icmp .lt 5, 3) := by decide +kernel
theorem d3_16 : decode method_2_code 16 = .ok (.lload_n 1, 1) := by decide +kernel
theorem d3_17 : decode method_2_code 17 = .ok (.iload_n 0, 1) := by decide +kernel
theorem d3_18 : decode method_2_code 18 = .ok (.lushr, 1) := by decide +kernel
theorem d3_19 : decode method_2_code 19 = .ok (.lconst 1, 1) := by decide +kernel
theorem d3_20 : decode method_2_code 20 = .ok (.land, 1) := by decide +kernel
theorem d3_21 : decode method_2_code 21 = .ok (.lconst 0, 1) := by decide +kernel
theorem d3_22 : decode method_2_code 22 = .ok (.lcmp, 1) := by decide +kernel
theorem d3_23 : decode method_2_code 23 = .ok (.ifCond .eq 7, 3) := by decide +kernel
theorem d3_30 : decode method_2_code 30 = .ok (.iconst 0, 1) := by decide +kernel
theorem d3_31 : decode method_2_code 31 = .ok (.ireturn, 1) := by decide +kernel
theorem d3_26 : decode method_2_code 26 = .ok (.iconst 1, 1) := by decide +kernel
theorem d3_27 : decode method_2_code 27 = .ok (.goto 4, 3) := by decide +kernel
theorem own_pn1 : plainName "com/example/map50k/map50k/io/XmlWhitespaceIsPinLaw" = true := by first | (simp [plainName, overriddenIn]; done) | decide +kernel
theorem own_ef3 (m : MethodId) (x0 : Int32) : entryFrame m #[(.int x0)] 3 = mkF m 0 #[.val (.int x0), .unset, .unset] [] := by first | (simp [entryFrame, mkF, argsToLocals, Value.category]; done) | rfl
def f_3 (p0 : Int32) : Int32 := (if p0 < (0 : Int32) then (0 : Int32) else (if p0 < (64 : Int32) then (if ((((4294977024 : Int64).toUInt64 >>> (p0 &&& 0x3f).toInt64.toUInt64).toInt64) &&& (1 : Int64)) = (0 : Int64) then (0 : Int32) else (1 : Int32)) else (0 : Int32)))
def Q3 (Z : State) (p0 : Int32) (h0 : Heap) (n0 : Nat) (v : Option Value) (h : Heap) (L : List Loc) : Prop := v = some (.int (f_3 p0)) ∧ Fr n0 L ∧ h = h0
set_option maxRecDepth 65536 in
set_option maxHeartbeats 40000000 in
theorem rm3 (l : Launch) (Z : State) (a0 : Array Value) (hw : ∀ d ∈ tables_1, d.before a0 Z = true) (ws : List Jvm.Cond) (p0 : Int32) (h0 : Heap) (n0 : Nat) (Z0 : n0 ≤ h0.size) :
    MetFree l (⟨"com/example/map50k/map50k/io/XmlWhitespaceIsPinLaw", "expected", "(I)Z"⟩ : MethodName) (head1 (Jvm.Cond.code (⟨"com/example/map50k/map50k/io/XmlWhitespaceIsPinLaw", "expected", "(I)Z"⟩ : MethodName) method_2_code 3 (some .boolean) :: ws) ({ frames := 0, cells := 0, slots := 0, locals := 0 } : Room)) (fun a U => a = #[(.int p0)] ∧ Z.Warmed39 U.vm ∧ U.heap = h0) (fun _ _ _ _ _ => True) (fun _ U o U' => ∃ v L, o = .returned v ∧ (Q3 Z p0 h0 n0) v U'.heap L ∧ FrameEnd U o U' L ({ frames := 0, cells := 0, slots := 0, locals := 0 } : Room).cells ({ frames := 0, cells := 0, slots := 0, locals := 0 } : Room).slots) := by
  refine MetFree.of_bodySF (plainFor_of_name own_pn1) hisR ?_
  intro p e s m args below meth c s₁ Bd hml0 hP hK
  obtain ⟨rfl, hZ, hh⟩ := hP
  have hx := Bd.exec
  have hby := Bd.bytes
  have hml : c.maxLocals = 3 := hml0
  have hown : s.vm.findClass "com/example/map50k/map50k/io/XmlWhitespaceIsPinLaw" = some m.cls := findClass_of_methodNamed Bd.named
  have hnm := (name_of_methodNamed Bd.named Bd.method).1
  have hlk : meth.locks = false := BodyLoose.notSynchronized (by assumption)
  have X0 : Stand p l e ({ frames := 0, cells := 0, slots := 0, locals := 0 } : Room) s m #[(.int p0)] below meth c s₁ [] 0 0 := Stand.of_body Bd
  have e0 : s₁.heap = h0 := by rw [← hh, Bd.state]; rfl
  have N0 := Fr.nil n0
  show own_Done p e below s (Q3 Z p0 h0 n0) ({ frames := 0, cells := 0, slots := 0, locals := 0 } : Room).cells ({ frames := 0, cells := 0, slots := 0, locals := 0 } : Room).slots (s₁.setTop (entryFrame m #[(.int p0)] 3))
  refine own_go (U' := s₁.setTop (mkF m 0 #[.val (.int p0), .unset, .unset] [])) (fun _ k => castTop (own_ef3 m p0) k) ?_
  refine own_go (U' := s₁.setTop (mkF m 3 #[.val (.int p0), .unset, .unset] [(.long (4294977024 : Int64))])) (fun _ k => X0.ldc2Long hx hown (mvT hZ (hw _ (List.mem_of_getElem? (i := 11) rfl))) (g := (mkF m 0 #[.val (.int p0), .unset, .unset] [])) rfl (hb hby d3_0) _ k) ?_
  refine own_go (U' := s₁.setTop (mkF m 4 #[.val (.int p0), .val (.long (4294977024 : Int64)), .second] [])) (fun _ k => XS.lstoreN X0.here hx rfl (hb hby d3_3) rfl (l' := #[.val (.int p0), .val (.long (4294977024 : Int64)), .second]) rfl k) ?_
  refine own_go (U' := s₁.setTop (mkF m 5 #[.val (.int p0), .val (.long (4294977024 : Int64)), .second] [(.int p0)])) (fun _ k => XS.iloadN X0.here hx rfl (hb hby d3_4) rfl k) ?_
  by_cases hc5_5 : p0 < (0 : Int32)
  · refine own_go (U' := s₁.setTop (mkF m 14 #[.val (.int p0), .val (.long (4294977024 : Int64)), .second] [])) (fun _ k => XS.ifYes X0.here hx rfl (pc0 := 5) (pc' := 14) rfl (hb hby d3_5) rfl ((if0 _ _).trans (tlt hc5_5).1) (by decide) (by decide) k) ?_
    refine own_go (U' := s₁.setTop (mkF m 15 #[.val (.int p0), .val (.long (4294977024 : Int64)), .second] [(.int (0 : Int32))])) (fun _ k => XS.iconst X0.here hx rfl (hb hby d3_14) k) ?_
    refine own_ret X0 (v := (some (.int (0 : Int32)))) hlk (fun h => by rw [Bd.returns] at h; cases h) (by decide) (by decide) (fun fs hr => retN X0 hx (t := .boolean) Bd.returns (by simp) (hb hby d3_15) hr) ?_
    show (Q3 Z p0 h0 n0) _ s₁.heap _
    rw [e0]
    exact ⟨by first | (simp only [f_3, if_pos hc5_5]; done) | rfl | (simp [f_3, if_pos hc5_5]; done), N0, rfl⟩
  · refine own_go (U' := s₁.setTop (mkF m 8 #[.val (.int p0), .val (.long (4294977024 : Int64)), .second] [])) (fun _ k => XS.ifNo X0.here hx rfl (hb hby d3_5) rfl ((if0 _ _).trans (flt hc5_5).1) k) ?_
    refine own_go (U' := s₁.setTop (mkF m 9 #[.val (.int p0), .val (.long (4294977024 : Int64)), .second] [(.int p0)])) (fun _ k => XS.iloadN X0.here hx rfl (hb hby d3_8) rfl k) ?_
    refine own_go (U' := s₁.setTop (mkF m 11 #[.val (.int p0), .val (.long (4294977024 : Int64)), .second] [(.int (64 : Int32)), (.int p0)])) (fun _ k => XS.bipush X0.here hx rfl (hb hby d3_9) k) ?_
    by_cases hc11_6 : p0 < (64 : Int32)
    · refine own_go (U' := s₁.setTop (mkF m 16 #[.val (.int p0), .val (.long (4294977024 : Int64)), .second] [])) (fun _ k => XS.icmpYes X0.here hx rfl (pc0 := 11) (pc' := 16) rfl (hb hby d3_11) rfl (tlt hc11_6).1 (by decide) (by decide) k) ?_
      refine own_go (U' := s₁.setTop (mkF m 17 #[.val (.int p0), .val (.long (4294977024 : Int64)), .second] [(.long (4294977024 : Int64))])) (fun _ k => XS.lloadN X0.here hx rfl (hb hby d3_16) rfl k) ?_
      refine own_go (U' := s₁.setTop (mkF m 18 #[.val (.int p0), .val (.long (4294977024 : Int64)), .second] [(.int p0), (.long (4294977024 : Int64))])) (fun _ k => XS.iloadN X0.here hx rfl (hb hby d3_17) rfl k) ?_
      refine own_go (U' := s₁.setTop (mkF m 19 #[.val (.int p0), .val (.long (4294977024 : Int64)), .second] [(.long (((4294977024 : Int64).toUInt64 >>> (p0 &&& 0x3f).toInt64.toUInt64).toInt64))])) (fun _ k => XS.lushr X0.here hx rfl (hb hby d3_18) rfl k) ?_
      refine own_go (U' := s₁.setTop (mkF m 20 #[.val (.int p0), .val (.long (4294977024 : Int64)), .second] [(.long (1 : Int64)), (.long (((4294977024 : Int64).toUInt64 >>> (p0 &&& 0x3f).toInt64.toUInt64).toInt64))])) (fun _ k => XS.lconst X0.here hx rfl (hb hby d3_19) k) ?_
      refine own_go (U' := s₁.setTop (mkF m 21 #[.val (.int p0), .val (.long (4294977024 : Int64)), .second] [(.long ((((4294977024 : Int64).toUInt64 >>> (p0 &&& 0x3f).toInt64.toUInt64).toInt64) &&& (1 : Int64)))])) (fun _ k => XS.land X0.here hx rfl (hb hby d3_20) rfl k) ?_
      refine own_go (U' := s₁.setTop (mkF m 22 #[.val (.int p0), .val (.long (4294977024 : Int64)), .second] [(.long (0 : Int64)), (.long ((((4294977024 : Int64).toUInt64 >>> (p0 &&& 0x3f).toInt64.toUInt64).toInt64) &&& (1 : Int64)))])) (fun _ k => XS.lconst X0.here hx rfl (hb hby d3_21) k) ?_
      refine own_go (U' := s₁.setTop (mkF m 23 #[.val (.int p0), .val (.long (4294977024 : Int64)), .second] [(.int (lcmpW ((((4294977024 : Int64).toUInt64 >>> (p0 &&& 0x3f).toInt64.toUInt64).toInt64) &&& (1 : Int64)) (0 : Int64)))])) (fun _ k => XS.lcmp X0.here hx rfl (hb hby d3_22) rfl k) ?_
      by_cases hc23_7 : ((((4294977024 : Int64).toUInt64 >>> (p0 &&& 0x3f).toInt64.toUInt64).toInt64) &&& (1 : Int64)) = (0 : Int64)
      · refine own_go (U' := s₁.setTop (mkF m 30 #[.val (.int p0), .val (.long (4294977024 : Int64)), .second] [])) (fun _ k => XS.ifYes X0.here hx rfl (pc0 := 23) (pc' := 30) rfl (hb hby d3_23) rfl ((if0 _ _).trans (teq ((lw_eq _ _).mpr hc23_7)).1) (by decide) (by decide) k) ?_
        refine own_go (U' := s₁.setTop (mkF m 31 #[.val (.int p0), .val (.long (4294977024 : Int64)), .second] [(.int (0 : Int32))])) (fun _ k => XS.iconst X0.here hx rfl (hb hby d3_30) k) ?_
        refine own_ret X0 (v := (some (.int (0 : Int32)))) hlk (fun h => by rw [Bd.returns] at h; cases h) (by decide) (by decide) (fun fs hr => retN X0 hx (t := .boolean) Bd.returns (by simp) (hb hby d3_31) hr) ?_
        show (Q3 Z p0 h0 n0) _ s₁.heap _
        rw [e0]
        exact ⟨by first | (simp only [f_3, if_neg hc5_5, if_pos hc11_6, if_pos hc23_7]; done) | rfl | (simp [f_3, if_neg hc5_5, if_pos hc11_6, if_pos hc23_7]; done), N0, rfl⟩
      · refine own_go (U' := s₁.setTop (mkF m 26 #[.val (.int p0), .val (.long (4294977024 : Int64)), .second] [])) (fun _ k => XS.ifNo X0.here hx rfl (hb hby d3_23) rfl ((if0 _ _).trans (feq (mt (lw_eq _ _).mp hc23_7)).1) k) ?_
        refine own_go (U' := s₁.setTop (mkF m 27 #[.val (.int p0), .val (.long (4294977024 : Int64)), .second] [(.int (1 : Int32))])) (fun _ k => XS.iconst X0.here hx rfl (hb hby d3_26) k) ?_
        refine own_go (U' := s₁.setTop (mkF m 31 #[.val (.int p0), .val (.long (4294977024 : Int64)), .second] [(.int (1 : Int32))])) (fun _ k => XS.goto X0.here hx rfl (pc0 := 27) (pc' := 31) rfl (hb hby d3_27) (by decide) (by decide) k) ?_
        refine own_ret X0 (v := (some (.int (1 : Int32)))) hlk (fun h => by rw [Bd.returns] at h; cases h) (by decide) (by decide) (fun fs hr => retN X0 hx (t := .boolean) Bd.returns (by simp) (hb hby d3_31) hr) ?_
        show (Q3 Z p0 h0 n0) _ s₁.heap _
        rw [e0]
        exact ⟨by first | (simp only [f_3, if_neg hc5_5, if_pos hc11_6, if_neg hc23_7]; done) | rfl | (simp [f_3, if_neg hc5_5, if_pos hc11_6, if_neg hc23_7]; done), N0, rfl⟩
    · refine own_go (U' := s₁.setTop (mkF m 14 #[.val (.int p0), .val (.long (4294977024 : Int64)), .second] [])) (fun _ k => XS.icmpNo X0.here hx rfl (hb hby d3_11) rfl (flt hc11_6).1 k) ?_
      refine own_go (U' := s₁.setTop (mkF m 15 #[.val (.int p0), .val (.long (4294977024 : Int64)), .second] [(.int (0 : Int32))])) (fun _ k => XS.iconst X0.here hx rfl (hb hby d3_14) k) ?_
      refine own_ret X0 (v := (some (.int (0 : Int32)))) hlk (fun h => by rw [Bd.returns] at h; cases h) (by decide) (by decide) (fun fs hr => retN X0 hx (t := .boolean) Bd.returns (by simp) (hb hby d3_15) hr) ?_
      show (Q3 Z p0 h0 n0) _ s₁.heap _
      rw [e0]
      exact ⟨by first | (simp only [f_3, if_neg hc5_5, if_neg hc11_6]; done) | rfl | (simp [f_3, if_neg hc5_5, if_neg hc11_6]; done), N0, rfl⟩

theorem own_some {c : Cell} {z j : Int32} {vs : List Value} {d : Value} (S : c.slots.size = z.toNatClampNeg) (H : Has c vs d) (G : ∀ i, i < c.slots.size → fits .int (vs.getD i d) = true) (q : ¬ j < 0 ∧ j < z) : ∃ w : Int32, c.slots[j.toNatClampNeg]? = some (.int w) := by
  have h := inb_of S q
  have hlt : j.toNatClampNeg < c.slots.size := Nat.lt_of_not_le fun k => h (Or.inr k)
  obtain ⟨w, hw⟩ := fit_I (G _ hlt) (Or.inl rfl)
  exact ⟨w, by rw [H _ hlt, hw]⟩
theorem own_and15 (x : Int32) : ¬ (x &&& 15) < 0 ∧ (x &&& 15) < 16 := by
  have h := c_mask x 15 4 (by decide) (by decide)
  rw [Int32.lt_iff_toInt_lt, Int32.lt_iff_toInt_lt]
  have a : (0 : Int32).toInt = 0 := by decide
  have b : (16 : Int32).toInt = 16 := by decide
  rw [h, a, b]
  omega

theorem d1_0 : decode method_3_code 0 = .ok (.iload_n 1, 1) := by decide +kernel
theorem d1_1 : decode method_3_code 1 = .ok (.iconst 3, 1) := by decide +kernel
theorem d1_2 : decode method_3_code 2 = .ok (.iand, 1) := by decide +kernel
theorem d1_3 : decode method_3_code 3 = .ok (.istore_n 2, 1) := by decide +kernel
theorem d1_4 : decode method_3_code 4 = .ok (.iload_n 2, 1) := by decide +kernel
theorem d1_5 : decode method_3_code 5 = .ok (.ifCond .ne 5, 3) := by decide +kernel
theorem d1_8 : decode method_3_code 8 = .ok (.iload_n 0, 1) := by decide +kernel
theorem d1_9 : decode method_3_code 9 = .ok (.ireturn, 1) := by decide +kernel
theorem d1_10 : decode method_3_code 10 = .ok (.iload_n 2, 1) := by decide +kernel
theorem d1_11 : decode method_3_code 11 = .ok (.iconst 1, 1) := by decide +kernel
theorem d1_12 : decode method_3_code 12 = .ok (.if_icmp .ne 8, 3) := by decide +kernel
theorem d1_15 : decode method_3_code 15 = .ok (.iload_n 0, 1) := by decide +kernel
theorem d1_16 : decode method_3_code 16 = .ok (.bipush 63, 2) := by decide +kernel
theorem d1_18 : decode method_3_code 18 = .ok (.iand, 1) := by decide +kernel
theorem d1_19 : decode method_3_code 19 = .ok (.ireturn, 1) := by decide +kernel
theorem d1_20 : decode method_3_code 20 = .ok (.iload_n 2, 1) := by decide +kernel
theorem d1_21 : decode method_3_code 21 = .ok (.iconst 2, 1) := by decide +kernel
theorem d1_22 : decode method_3_code 22 = .ok (.if_icmp .ne 109, 3) := by decide +kernel
theorem d1_25 : decode method_3_code 25 = .ok (.bipush 16, 2) := by decide +kernel
theorem d1_27 : decode method_3_code 27 = .ok (.newarray .int, 2) := by decide +kernel
theorem d1_29 : decode method_3_code 29 = .ok (.dup, 1) := by decide +kernel
theorem d1_30 : decode method_3_code 30 = .ok (.iconst 0, 1) := by decide +kernel
theorem d1_31 : decode method_3_code 31 = .ok (.bipush 9, 2) := by decide +kernel
theorem d1_33 : decode method_3_code 33 = .ok (.iastore, 1) := by decide +kernel
theorem d1_34 : decode method_3_code 34 = .ok (.dup, 1) := by decide +kernel
theorem d1_35 : decode method_3_code 35 = .ok (.iconst 1, 1) := by decide +kernel
theorem d1_36 : decode method_3_code 36 = .ok (.bipush 10, 2) := by decide +kernel
theorem d1_38 : decode method_3_code 38 = .ok (.iastore, 1) := by decide +kernel
theorem d1_39 : decode method_3_code 39 = .ok (.dup, 1) := by decide +kernel
theorem d1_40 : decode method_3_code 40 = .ok (.iconst 2, 1) := by decide +kernel
theorem d1_41 : decode method_3_code 41 = .ok (.bipush 13, 2) := by decide +kernel
theorem d1_43 : decode method_3_code 43 = .ok (.iastore, 1) := by decide +kernel
theorem d1_44 : decode method_3_code 44 = .ok (.dup, 1) := by decide +kernel
theorem d1_45 : decode method_3_code 45 = .ok (.iconst 3, 1) := by decide +kernel
theorem d1_46 : decode method_3_code 46 = .ok (.bipush 32, 2) := by decide +kernel
theorem d1_48 : decode method_3_code 48 = .ok (.iastore, 1) := by decide +kernel
theorem d1_49 : decode method_3_code 49 = .ok (.dup, 1) := by decide +kernel
theorem d1_50 : decode method_3_code 50 = .ok (.iconst 4, 1) := by decide +kernel
theorem d1_51 : decode method_3_code 51 = .ok (.bipush 11, 2) := by decide +kernel
theorem d1_53 : decode method_3_code 53 = .ok (.iastore, 1) := by decide +kernel
theorem d1_54 : decode method_3_code 54 = .ok (.dup, 1) := by decide +kernel
theorem d1_55 : decode method_3_code 55 = .ok (.iconst 5, 1) := by decide +kernel
theorem d1_56 : decode method_3_code 56 = .ok (.bipush 12, 2) := by decide +kernel
theorem d1_58 : decode method_3_code 58 = .ok (.iastore, 1) := by decide +kernel
theorem d1_59 : decode method_3_code 59 = .ok (.dup, 1) := by decide +kernel
theorem d1_60 : decode method_3_code 60 = .ok (.bipush 6, 2) := by decide +kernel
theorem d1_62 : decode method_3_code 62 = .ok (.iconst 0, 1) := by decide +kernel
theorem d1_63 : decode method_3_code 63 = .ok (.iastore, 1) := by decide +kernel
theorem d1_64 : decode method_3_code 64 = .ok (.dup, 1) := by decide +kernel
theorem d1_65 : decode method_3_code 65 = .ok (.bipush 7, 2) := by decide +kernel
theorem d1_67 : decode method_3_code 67 = .ok (.bipush 8, 2) := by decide +kernel
theorem d1_69 : decode method_3_code 69 = .ok (.iastore, 1) := by decide +kernel
theorem d1_70 : decode method_3_code 70 = .ok (.dup, 1) := by decide +kernel
theorem d1_71 : decode method_3_code 71 = .ok (.bipush 8, 2) := by decide +kernel
theorem d1_73 : decode method_3_code 73 = .ok (.bipush 14, 2) := by decide +kernel
theorem d1_75 : decode method_3_code 75 = .ok (.iastore, 1) := by decide +kernel
theorem d1_76 : decode method_3_code 76 = .ok (.dup, 1) := by decide +kernel
theorem d1_77 : decode method_3_code 77 = .ok (.bipush 9, 2) := by decide +kernel
theorem d1_79 : decode method_3_code 79 = .ok (.bipush 31, 2) := by decide +kernel
theorem d1_81 : decode method_3_code 81 = .ok (.iastore, 1) := by decide +kernel
theorem d1_82 : decode method_3_code 82 = .ok (.dup, 1) := by decide +kernel
theorem d1_83 : decode method_3_code 83 = .ok (.bipush 10, 2) := by decide +kernel
theorem d1_85 : decode method_3_code 85 = .ok (.bipush 33, 2) := by decide +kernel
theorem d1_87 : decode method_3_code 87 = .ok (.iastore, 1) := by decide +kernel
theorem d1_88 : decode method_3_code 88 = .ok (.dup, 1) := by decide +kernel
theorem d1_89 : decode method_3_code 89 = .ok (.bipush 11, 2) := by decide +kernel
theorem d1_91 : decode method_3_code 91 = .ok (.sipush 133, 3) := by decide +kernel
theorem d1_94 : decode method_3_code 94 = .ok (.iastore, 1) := by decide +kernel
theorem d1_95 : decode method_3_code 95 = .ok (.dup, 1) := by decide +kernel
theorem d1_96 : decode method_3_code 96 = .ok (.bipush 12, 2) := by decide +kernel
theorem d1_98 : decode method_3_code 98 = .ok (.sipush 160, 3) := by decide +kernel
theorem d1_101 : decode method_3_code 101 = .ok (.iastore, 1) := by decide +kernel
theorem d1_102 : decode method_3_code 102 = .ok (.dup, 1) := by decide +kernel
theorem d1_103 : decode method_3_code 103 = .ok (.bipush 13, 2) := by decide +kernel
theorem d1_105 : decode method_3_code 105 = .ok (.sipush 8195, 3) := by decide +kernel
theorem d1_108 : decode method_3_code 108 = .ok (.iastore, 1) := by decide +kernel
theorem d1_109 : decode method_3_code 109 = .ok (.dup, 1) := by decide +kernel
theorem d1_110 : decode method_3_code 110 = .ok (.bipush 14, 2) := by decide +kernel
theorem d1_112 : decode method_3_code 112 = .ok (.sipush 12288, 3) := by decide +kernel
theorem d1_115 : decode method_3_code 115 = .ok (.iastore, 1) := by decide +kernel
theorem d1_116 : decode method_3_code 116 = .ok (.dup, 1) := by decide +kernel
theorem d1_117 : decode method_3_code 117 = .ok (.bipush 15, 2) := by decide +kernel
theorem d1_119 : decode method_3_code 119 = .ok (.sipush 5760, 3) := by decide +kernel
theorem d1_122 : decode method_3_code 122 = .ok (.iastore, 1) := by decide +kernel
theorem d1_123 : decode method_3_code 123 = .ok (.astore_n 3, 1) := by decide +kernel
theorem d1_124 : decode method_3_code 124 = .ok (.aload_n 3, 1) := by decide +kernel
theorem d1_125 : decode method_3_code 125 = .ok (.iload_n 0, 1) := by decide +kernel
theorem d1_126 : decode method_3_code 126 = .ok (.bipush 15, 2) := by decide +kernel
theorem d1_128 : decode method_3_code 128 = .ok (.iand, 1) := by decide +kernel
theorem d1_129 : decode method_3_code 129 = .ok (.iaload, 1) := by decide +kernel
theorem d1_130 : decode method_3_code 130 = .ok (.ireturn, 1) := by decide +kernel
theorem d1_131 : decode method_3_code 131 = .ok (.iload_n 0, 1) := by decide +kernel
theorem d1_132 : decode method_3_code 132 = .ok (.bipush 16, 2) := by decide +kernel
theorem d1_134 : decode method_3_code 134 = .ok (.ishl, 1) := by decide +kernel
theorem d1_135 : decode method_3_code 135 = .ok (.bipush 32, 2) := by decide +kernel
theorem d1_137 : decode method_3_code 137 = .ok (.ior, 1) := by decide +kernel
theorem d1_138 : decode method_3_code 138 = .ok (.ireturn, 1) := by decide +kernel
theorem own_ef1 (m : MethodId) (x0 : Int32) (x1 : Int32) : entryFrame m #[(.int x0), (.int x1)] 4 = mkF m 0 #[.val (.int x0), .val (.int x1), .unset, .unset] [] := by first | (simp [entryFrame, mkF, argsToLocals, Value.category]; done) | rfl
def Q1 (Z : State) (p0 : Int32) (p1 : Int32) (h0 : Heap) (n0 : Nat) (v : Option Value) (h : Heap) (L : List Loc) : Prop := (∃ c : Int32, v = some (.int c)) ∧ Fr n0 L ∧ Keep h0 h []
set_option maxRecDepth 65536 in
set_option maxHeartbeats 40000000 in
theorem rm1 (l : Launch) (Z : State) (a0 : Array Value) (hw : ∀ d ∈ tables_1, d.before a0 Z = true) (ws : List Jvm.Cond) (p0 : Int32) (p1 : Int32) (h0 : Heap) (n0 : Nat) (Z0 : n0 ≤ h0.size) :
    MetFree l (⟨"com/example/map50k/map50k/io/XmlWhitespaceIsPinLaw", "pick", "(II)I"⟩ : MethodName) (head1 (Jvm.Cond.code (⟨"com/example/map50k/map50k/io/XmlWhitespaceIsPinLaw", "pick", "(II)I"⟩ : MethodName) method_3_code 4 (some .int) :: ws) ({ frames := 0, cells := 1, slots := 16, locals := 0 } : Room)) (fun a U => a = #[(.int p0), (.int p1)] ∧ Z.Warmed39 U.vm ∧ U.heap = h0) (fun _ _ _ _ _ => True) (fun _ U o U' => ∃ v L, o = .returned v ∧ (Q1 Z p0 p1 h0 n0) v U'.heap L ∧ FrameEnd U o U' L ({ frames := 0, cells := 1, slots := 16, locals := 0 } : Room).cells ({ frames := 0, cells := 1, slots := 16, locals := 0 } : Room).slots) := by
  refine MetFree.of_bodySF (plainFor_of_name own_pn1) hisR ?_
  intro p e s m args below meth c s₁ Bd hml0 hP hK
  obtain ⟨rfl, hZ, hh⟩ := hP
  have hx := Bd.exec
  have hby := Bd.bytes
  have hml : c.maxLocals = 4 := hml0
  have hown : s.vm.findClass "com/example/map50k/map50k/io/XmlWhitespaceIsPinLaw" = some m.cls := findClass_of_methodNamed Bd.named
  have hnm := (name_of_methodNamed Bd.named Bd.method).1
  have hlk : meth.locks = false := BodyLoose.notSynchronized (by assumption)
  have X0 : Stand p l e ({ frames := 0, cells := 1, slots := 16, locals := 0 } : Room) s m #[(.int p0), (.int p1)] below meth c s₁ [] 0 0 := Stand.of_body Bd
  have e0 : s₁.heap = h0 := by rw [← hh, Bd.state]; rfl
  have N0 := Fr.nil n0
  show own_Done p e below s (Q1 Z p0 p1 h0 n0) ({ frames := 0, cells := 1, slots := 16, locals := 0 } : Room).cells ({ frames := 0, cells := 1, slots := 16, locals := 0 } : Room).slots (s₁.setTop (entryFrame m #[(.int p0), (.int p1)] 4))
  refine own_go (U' := s₁.setTop (mkF m 0 #[.val (.int p0), .val (.int p1), .unset, .unset] [])) (fun _ k => castTop (own_ef1 m p0 p1) k) ?_
  refine own_go (U' := s₁.setTop (mkF m 1 #[.val (.int p0), .val (.int p1), .unset, .unset] [(.int p1)])) (fun _ k => XS.iloadN X0.here hx rfl (hb hby d1_0) rfl k) ?_
  refine own_go (U' := s₁.setTop (mkF m 2 #[.val (.int p0), .val (.int p1), .unset, .unset] [(.int (3 : Int32)), (.int p1)])) (fun _ k => XS.iconst X0.here hx rfl (hb hby d1_1) k) ?_
  refine own_go (U' := s₁.setTop (mkF m 3 #[.val (.int p0), .val (.int p1), .unset, .unset] [(.int (p1 &&& (3 : Int32)))])) (fun _ k => XS.iand X0.here hx rfl (hb hby d1_2) rfl k) ?_
  refine own_go (U' := s₁.setTop (mkF m 4 #[.val (.int p0), .val (.int p1), .val (.int (p1 &&& (3 : Int32))), .unset] [])) (fun _ k => XS.istoreN X0.here hx rfl (hb hby d1_3) rfl (l' := #[.val (.int p0), .val (.int p1), .val (.int (p1 &&& (3 : Int32))), .unset]) rfl k) ?_
  refine own_go (U' := s₁.setTop (mkF m 5 #[.val (.int p0), .val (.int p1), .val (.int (p1 &&& (3 : Int32))), .unset] [(.int (p1 &&& (3 : Int32)))])) (fun _ k => XS.iloadN X0.here hx rfl (hb hby d1_4) rfl k) ?_
  by_cases hc5_8 : (p1 &&& (3 : Int32)) = (0 : Int32)
  · refine own_go (U' := s₁.setTop (mkF m 8 #[.val (.int p0), .val (.int p1), .val (.int (p1 &&& (3 : Int32))), .unset] [])) (fun _ k => XS.ifNo X0.here hx rfl (hb hby d1_5) rfl ((if0 _ _).trans (teq hc5_8).2) k) ?_
    refine own_go (U' := s₁.setTop (mkF m 9 #[.val (.int p0), .val (.int p1), .val (.int (p1 &&& (3 : Int32))), .unset] [(.int p0)])) (fun _ k => XS.iloadN X0.here hx rfl (hb hby d1_8) rfl k) ?_
    refine own_ret X0 (v := (some (.int p0))) hlk (fun h => by rw [Bd.returns] at h; cases h) (by decide) (by decide) (fun fs hr => own_retI X0 hx Bd.returns (hb hby d1_9) hr) ?_
    show (Q1 Z p0 p1 h0 n0) _ s₁.heap _
    rw [e0]
    exact ⟨⟨_, rfl⟩, N0, (Keep.refl h0 [])⟩
  · refine own_go (U' := s₁.setTop (mkF m 10 #[.val (.int p0), .val (.int p1), .val (.int (p1 &&& (3 : Int32))), .unset] [])) (fun _ k => XS.ifYes X0.here hx rfl (pc0 := 5) (pc' := 10) rfl (hb hby d1_5) rfl ((if0 _ _).trans (feq hc5_8).2) (by decide) (by decide) k) ?_
    refine own_go (U' := s₁.setTop (mkF m 11 #[.val (.int p0), .val (.int p1), .val (.int (p1 &&& (3 : Int32))), .unset] [(.int (p1 &&& (3 : Int32)))])) (fun _ k => XS.iloadN X0.here hx rfl (hb hby d1_10) rfl k) ?_
    refine own_go (U' := s₁.setTop (mkF m 12 #[.val (.int p0), .val (.int p1), .val (.int (p1 &&& (3 : Int32))), .unset] [(.int (1 : Int32)), (.int (p1 &&& (3 : Int32)))])) (fun _ k => XS.iconst X0.here hx rfl (hb hby d1_11) k) ?_
    by_cases hc12_9 : (p1 &&& (3 : Int32)) = (1 : Int32)
    · refine own_go (U' := s₁.setTop (mkF m 15 #[.val (.int p0), .val (.int p1), .val (.int (p1 &&& (3 : Int32))), .unset] [])) (fun _ k => XS.icmpNo X0.here hx rfl (hb hby d1_12) rfl (teq hc12_9).2 k) ?_
      refine own_go (U' := s₁.setTop (mkF m 16 #[.val (.int p0), .val (.int p1), .val (.int (p1 &&& (3 : Int32))), .unset] [(.int p0)])) (fun _ k => XS.iloadN X0.here hx rfl (hb hby d1_15) rfl k) ?_
      refine own_go (U' := s₁.setTop (mkF m 18 #[.val (.int p0), .val (.int p1), .val (.int (p1 &&& (3 : Int32))), .unset] [(.int (63 : Int32)), (.int p0)])) (fun _ k => XS.bipush X0.here hx rfl (hb hby d1_16) k) ?_
      refine own_go (U' := s₁.setTop (mkF m 19 #[.val (.int p0), .val (.int p1), .val (.int (p1 &&& (3 : Int32))), .unset] [(.int (p0 &&& (63 : Int32)))])) (fun _ k => XS.iand X0.here hx rfl (hb hby d1_18) rfl k) ?_
      refine own_ret X0 (v := (some (.int (p0 &&& (63 : Int32))))) hlk (fun h => by rw [Bd.returns] at h; cases h) (by decide) (by decide) (fun fs hr => own_retI X0 hx Bd.returns (hb hby d1_19) hr) ?_
      show (Q1 Z p0 p1 h0 n0) _ s₁.heap _
      rw [e0]
      exact ⟨⟨_, rfl⟩, N0, (Keep.refl h0 [])⟩
    · refine own_go (U' := s₁.setTop (mkF m 20 #[.val (.int p0), .val (.int p1), .val (.int (p1 &&& (3 : Int32))), .unset] [])) (fun _ k => XS.icmpYes X0.here hx rfl (pc0 := 12) (pc' := 20) rfl (hb hby d1_12) rfl (feq hc12_9).2 (by decide) (by decide) k) ?_
      refine own_go (U' := s₁.setTop (mkF m 21 #[.val (.int p0), .val (.int p1), .val (.int (p1 &&& (3 : Int32))), .unset] [(.int (p1 &&& (3 : Int32)))])) (fun _ k => XS.iloadN X0.here hx rfl (hb hby d1_20) rfl k) ?_
      refine own_go (U' := s₁.setTop (mkF m 22 #[.val (.int p0), .val (.int p1), .val (.int (p1 &&& (3 : Int32))), .unset] [(.int (2 : Int32)), (.int (p1 &&& (3 : Int32)))])) (fun _ k => XS.iconst X0.here hx rfl (hb hby d1_21) k) ?_
      by_cases hc22_10 : (p1 &&& (3 : Int32)) = (2 : Int32)
      · refine own_go (U' := s₁.setTop (mkF m 25 #[.val (.int p0), .val (.int p1), .val (.int (p1 &&& (3 : Int32))), .unset] [])) (fun _ k => XS.icmpNo X0.here hx rfl (hb hby d1_22) rfl (teq hc22_10).2 k) ?_
        refine own_go (U' := s₁.setTop (mkF m 27 #[.val (.int p0), .val (.int p1), .val (.int (p1 &&& (3 : Int32))), .unset] [(.int (16 : Int32))])) (fun _ k => XS.bipush X0.here hx rfl (hb hby d1_25) k) ?_
        obtain ⟨T11, h11, k11, X11, e11, E11, A11, st11⟩ := newP X0 hx hZ (hw _ (List.mem_of_getElem? (i := 12) rfl)) e0 (g := (mkF m 27 #[.val (.int p0), .val (.int p1), .val (.int (p1 &&& (3 : Int32))), .unset] [(.int (16 : Int32))])) rfl (hb hby d1_27) rfl (by decide) (cap := 16) (by decide) (by decide) (by decide) (by decide)
        obtain ⟨b11, g11⟩ : ∃ z, z = h0.size := ⟨_, rfl⟩
        have g_b11 : n0 ≤ b11 := Nat.le_trans Z0 (Nat.le_of_eq g11.symm)
        have sz_b11 : h0.size ≤ b11 := Nat.le_trans (Keep.refl h0 []).1 (Nat.le_of_eq g11.symm)
        rw [← g11] at A11 st11
        have Z11 : n0 ≤ h11.size := Nat.le_trans Z0 E11.1
        have K11 := Keep.ext (Keep.refl h0 []) E11
        have V_b11 : Arv Z h11 b11 k11 .int (16 : Int32) [(.int (0 : Int32)), (.int (0 : Int32)), (.int (0 : Int32)), (.int (0 : Int32)), (.int (0 : Int32)), (.int (0 : Int32)), (.int (0 : Int32)), (.int (0 : Int32)), (.int (0 : Int32)), (.int (0 : Int32)), (.int (0 : Int32)), (.int (0 : Int32)), (.int (0 : Int32)), (.int (0 : Int32)), (.int (0 : Int32)), (.int (0 : Int32))] (.int (0 : Int32)) := (Arv.new A11 (by decide)).pad (pad_rep [] (.int (0 : Int32)) 16)
        refine own_go (U' := T11.setTop (mkF m 29 #[.val (.int p0), .val (.int p1), .val (.int (p1 &&& (3 : Int32))), .unset] [(.ref b11)])) (fun _ k => st11 _ k) ?_
        refine own_go (U' := T11.setTop (mkF m 30 #[.val (.int p0), .val (.int p1), .val (.int (p1 &&& (3 : Int32))), .unset] [(.ref b11), (.ref b11)])) (fun _ k => XS.dup X11.here hx rfl (hb hby d1_29) rfl rfl k) ?_
        refine own_go (U' := T11.setTop (mkF m 31 #[.val (.int p0), .val (.int p1), .val (.int (p1 &&& (3 : Int32))), .unset] [(.int (0 : Int32)), (.ref b11), (.ref b11)])) (fun _ k => XS.iconst X11.here hx rfl (hb hby d1_30) k) ?_
        refine own_go (U' := T11.setTop (mkF m 33 #[.val (.int p0), .val (.int p1), .val (.int (p1 &&& (3 : Int32))), .unset] [(.int (9 : Int32)), (.int (0 : Int32)), (.ref b11), (.ref b11)])) (fun _ k => XS.bipush X11.here hx rfl (hb hby d1_31) k) ?_
        have V12 := V_b11
        obtain ⟨cl12, Ar12, q12, S12, Ng12, Hh12, G12⟩ := V12
        have hj12 : ¬ (0 : Int32) < 0 ∧ (0 : Int32) < (16 : Int32) := ⟨by decide, by decide⟩
        obtain ⟨T13, h13, X13, e13, W13, st13⟩ := stI X11 hx hZ e11 Ar12 (j := (0 : Int32)) (inb_of S12 hj12) (g := (mkF m 33 #[.val (.int p0), .val (.int p1), .val (.int (p1 &&& (3 : Int32))), .unset] [(.int (9 : Int32)), (.int (0 : Int32)), (.ref b11), (.ref b11)])) rfl rfl (hb hby d1_33)
        have w13 : Arv Z h13 b11 k11 .int (16 : Int32) [(.int (9 : Int32)), (.int (0 : Int32)), (.int (0 : Int32)), (.int (0 : Int32)), (.int (0 : Int32)), (.int (0 : Int32)), (.int (0 : Int32)), (.int (0 : Int32)), (.int (0 : Int32)), (.int (0 : Int32)), (.int (0 : Int32)), (.int (0 : Int32)), (.int (0 : Int32)), (.int (0 : Int32)), (.int (0 : Int32)), (.int (0 : Int32))] (.int (0 : Int32)) := Arv.set Ar12 q12 S12 Ng12 Hh12 G12 rfl W13 0 rfl (Nat.le_of_ble_eq_true rfl)
        have Z13 : n0 ≤ h13.size := Nat.le_trans Z11 (Keep.of_wr W13).1
        have K13 := Keep.wr K11 W13 (Or.inr sz_b11)
        have N13 := Fr.snoc X13 N0 g_b11
        refine own_go (U' := T13.setTop (mkF m 34 #[.val (.int p0), .val (.int p1), .val (.int (p1 &&& (3 : Int32))), .unset] [(.ref b11)])) (fun _ k => st13 _ k) ?_
        refine own_go (U' := T13.setTop (mkF m 35 #[.val (.int p0), .val (.int p1), .val (.int (p1 &&& (3 : Int32))), .unset] [(.ref b11), (.ref b11)])) (fun _ k => XS.dup X13.here hx rfl (hb hby d1_34) rfl rfl k) ?_
        refine own_go (U' := T13.setTop (mkF m 36 #[.val (.int p0), .val (.int p1), .val (.int (p1 &&& (3 : Int32))), .unset] [(.int (1 : Int32)), (.ref b11), (.ref b11)])) (fun _ k => XS.iconst X13.here hx rfl (hb hby d1_35) k) ?_
        refine own_go (U' := T13.setTop (mkF m 38 #[.val (.int p0), .val (.int p1), .val (.int (p1 &&& (3 : Int32))), .unset] [(.int (10 : Int32)), (.int (1 : Int32)), (.ref b11), (.ref b11)])) (fun _ k => XS.bipush X13.here hx rfl (hb hby d1_36) k) ?_
        have V14 := w13
        obtain ⟨cl14, Ar14, q14, S14, Ng14, Hh14, G14⟩ := V14
        have hj14 : ¬ (1 : Int32) < 0 ∧ (1 : Int32) < (16 : Int32) := ⟨by decide, by decide⟩
        obtain ⟨T15, h15, X15, e15, W15, st15⟩ := stI X13 hx hZ e13 Ar14 (j := (1 : Int32)) (inb_of S14 hj14) (g := (mkF m 38 #[.val (.int p0), .val (.int p1), .val (.int (p1 &&& (3 : Int32))), .unset] [(.int (10 : Int32)), (.int (1 : Int32)), (.ref b11), (.ref b11)])) rfl rfl (hb hby d1_38)
        have w15 : Arv Z h15 b11 k11 .int (16 : Int32) [(.int (9 : Int32)), (.int (10 : Int32)), (.int (0 : Int32)), (.int (0 : Int32)), (.int (0 : Int32)), (.int (0 : Int32)), (.int (0 : Int32)), (.int (0 : Int32)), (.int (0 : Int32)), (.int (0 : Int32)), (.int (0 : Int32)), (.int (0 : Int32)), (.int (0 : Int32)), (.int (0 : Int32)), (.int (0 : Int32)), (.int (0 : Int32))] (.int (0 : Int32)) := Arv.set Ar14 q14 S14 Ng14 Hh14 G14 rfl W15 1 rfl (Nat.le_of_ble_eq_true rfl)
        have Z15 : n0 ≤ h15.size := Nat.le_trans Z13 (Keep.of_wr W15).1
        have K15 := Keep.wr K13 W15 (Or.inr sz_b11)
        have N15 := Fr.snoc X15 N13 g_b11
        refine own_go (U' := T15.setTop (mkF m 39 #[.val (.int p0), .val (.int p1), .val (.int (p1 &&& (3 : Int32))), .unset] [(.ref b11)])) (fun _ k => st15 _ k) ?_
        refine own_go (U' := T15.setTop (mkF m 40 #[.val (.int p0), .val (.int p1), .val (.int (p1 &&& (3 : Int32))), .unset] [(.ref b11), (.ref b11)])) (fun _ k => XS.dup X15.here hx rfl (hb hby d1_39) rfl rfl k) ?_
        refine own_go (U' := T15.setTop (mkF m 41 #[.val (.int p0), .val (.int p1), .val (.int (p1 &&& (3 : Int32))), .unset] [(.int (2 : Int32)), (.ref b11), (.ref b11)])) (fun _ k => XS.iconst X15.here hx rfl (hb hby d1_40) k) ?_
        refine own_go (U' := T15.setTop (mkF m 43 #[.val (.int p0), .val (.int p1), .val (.int (p1 &&& (3 : Int32))), .unset] [(.int (13 : Int32)), (.int (2 : Int32)), (.ref b11), (.ref b11)])) (fun _ k => XS.bipush X15.here hx rfl (hb hby d1_41) k) ?_
        have V16 := w15
        obtain ⟨cl16, Ar16, q16, S16, Ng16, Hh16, G16⟩ := V16
        have hj16 : ¬ (2 : Int32) < 0 ∧ (2 : Int32) < (16 : Int32) := ⟨by decide, by decide⟩
        obtain ⟨T17, h17, X17, e17, W17, st17⟩ := stI X15 hx hZ e15 Ar16 (j := (2 : Int32)) (inb_of S16 hj16) (g := (mkF m 43 #[.val (.int p0), .val (.int p1), .val (.int (p1 &&& (3 : Int32))), .unset] [(.int (13 : Int32)), (.int (2 : Int32)), (.ref b11), (.ref b11)])) rfl rfl (hb hby d1_43)
        have w17 : Arv Z h17 b11 k11 .int (16 : Int32) [(.int (9 : Int32)), (.int (10 : Int32)), (.int (13 : Int32)), (.int (0 : Int32)), (.int (0 : Int32)), (.int (0 : Int32)), (.int (0 : Int32)), (.int (0 : Int32)), (.int (0 : Int32)), (.int (0 : Int32)), (.int (0 : Int32)), (.int (0 : Int32)), (.int (0 : Int32)), (.int (0 : Int32)), (.int (0 : Int32)), (.int (0 : Int32))] (.int (0 : Int32)) := Arv.set Ar16 q16 S16 Ng16 Hh16 G16 rfl W17 2 rfl (Nat.le_of_ble_eq_true rfl)
        have Z17 : n0 ≤ h17.size := Nat.le_trans Z15 (Keep.of_wr W17).1
        have K17 := Keep.wr K15 W17 (Or.inr sz_b11)
        have N17 := Fr.snoc X17 N15 g_b11
        refine own_go (U' := T17.setTop (mkF m 44 #[.val (.int p0), .val (.int p1), .val (.int (p1 &&& (3 : Int32))), .unset] [(.ref b11)])) (fun _ k => st17 _ k) ?_
        refine own_go (U' := T17.setTop (mkF m 45 #[.val (.int p0), .val (.int p1), .val (.int (p1 &&& (3 : Int32))), .unset] [(.ref b11), (.ref b11)])) (fun _ k => XS.dup X17.here hx rfl (hb hby d1_44) rfl rfl k) ?_
        refine own_go (U' := T17.setTop (mkF m 46 #[.val (.int p0), .val (.int p1), .val (.int (p1 &&& (3 : Int32))), .unset] [(.int (3 : Int32)), (.ref b11), (.ref b11)])) (fun _ k => XS.iconst X17.here hx rfl (hb hby d1_45) k) ?_
        refine own_go (U' := T17.setTop (mkF m 48 #[.val (.int p0), .val (.int p1), .val (.int (p1 &&& (3 : Int32))), .unset] [(.int (32 : Int32)), (.int (3 : Int32)), (.ref b11), (.ref b11)])) (fun _ k => XS.bipush X17.here hx rfl (hb hby d1_46) k) ?_
        have V18 := w17
        obtain ⟨cl18, Ar18, q18, S18, Ng18, Hh18, G18⟩ := V18
        have hj18 : ¬ (3 : Int32) < 0 ∧ (3 : Int32) < (16 : Int32) := ⟨by decide, by decide⟩
        obtain ⟨T19, h19, X19, e19, W19, st19⟩ := stI X17 hx hZ e17 Ar18 (j := (3 : Int32)) (inb_of S18 hj18) (g := (mkF m 48 #[.val (.int p0), .val (.int p1), .val (.int (p1 &&& (3 : Int32))), .unset] [(.int (32 : Int32)), (.int (3 : Int32)), (.ref b11), (.ref b11)])) rfl rfl (hb hby d1_48)
        have w19 : Arv Z h19 b11 k11 .int (16 : Int32) [(.int (9 : Int32)), (.int (10 : Int32)), (.int (13 : Int32)), (.int (32 : Int32)), (.int (0 : Int32)), (.int (0 : Int32)), (.int (0 : Int32)), (.int (0 : Int32)), (.int (0 : Int32)), (.int (0 : Int32)), (.int (0 : Int32)), (.int (0 : Int32)), (.int (0 : Int32)), (.int (0 : Int32)), (.int (0 : Int32)), (.int (0 : Int32))] (.int (0 : Int32)) := Arv.set Ar18 q18 S18 Ng18 Hh18 G18 rfl W19 3 rfl (Nat.le_of_ble_eq_true rfl)
        have Z19 : n0 ≤ h19.size := Nat.le_trans Z17 (Keep.of_wr W19).1
        have K19 := Keep.wr K17 W19 (Or.inr sz_b11)
        have N19 := Fr.snoc X19 N17 g_b11
        refine own_go (U' := T19.setTop (mkF m 49 #[.val (.int p0), .val (.int p1), .val (.int (p1 &&& (3 : Int32))), .unset] [(.ref b11)])) (fun _ k => st19 _ k) ?_
        refine own_go (U' := T19.setTop (mkF m 50 #[.val (.int p0), .val (.int p1), .val (.int (p1 &&& (3 : Int32))), .unset] [(.ref b11), (.ref b11)])) (fun _ k => XS.dup X19.here hx rfl (hb hby d1_49) rfl rfl k) ?_
        refine own_go (U' := T19.setTop (mkF m 51 #[.val (.int p0), .val (.int p1), .val (.int (p1 &&& (3 : Int32))), .unset] [(.int (4 : Int32)), (.ref b11), (.ref b11)])) (fun _ k => XS.iconst X19.here hx rfl (hb hby d1_50) k) ?_
        refine own_go (U' := T19.setTop (mkF m 53 #[.val (.int p0), .val (.int p1), .val (.int (p1 &&& (3 : Int32))), .unset] [(.int (11 : Int32)), (.int (4 : Int32)), (.ref b11), (.ref b11)])) (fun _ k => XS.bipush X19.here hx rfl (hb hby d1_51) k) ?_
        have V20 := w19
        obtain ⟨cl20, Ar20, q20, S20, Ng20, Hh20, G20⟩ := V20
        have hj20 : ¬ (4 : Int32) < 0 ∧ (4 : Int32) < (16 : Int32) := ⟨by decide, by decide⟩
        obtain ⟨T21, h21, X21, e21, W21, st21⟩ := stI X19 hx hZ e19 Ar20 (j := (4 : Int32)) (inb_of S20 hj20) (g := (mkF m 53 #[.val (.int p0), .val (.int p1), .val (.int (p1 &&& (3 : Int32))), .unset] [(.int (11 : Int32)), (.int (4 : Int32)), (.ref b11), (.ref b11)])) rfl rfl (hb hby d1_53)
        have w21 : Arv Z h21 b11 k11 .int (16 : Int32) [(.int (9 : Int32)), (.int (10 : Int32)), (.int (13 : Int32)), (.int (32 : Int32)), (.int (11 : Int32)), (.int (0 : Int32)), (.int (0 : Int32)), (.int (0 : Int32)), (.int (0 : Int32)), (.int (0 : Int32)), (.int (0 : Int32)), (.int (0 : Int32)), (.int (0 : Int32)), (.int (0 : Int32)), (.int (0 : Int32)), (.int (0 : Int32))] (.int (0 : Int32)) := Arv.set Ar20 q20 S20 Ng20 Hh20 G20 rfl W21 4 rfl (Nat.le_of_ble_eq_true rfl)
        have Z21 : n0 ≤ h21.size := Nat.le_trans Z19 (Keep.of_wr W21).1
        have K21 := Keep.wr K19 W21 (Or.inr sz_b11)
        have N21 := Fr.snoc X21 N19 g_b11
        refine own_go (U' := T21.setTop (mkF m 54 #[.val (.int p0), .val (.int p1), .val (.int (p1 &&& (3 : Int32))), .unset] [(.ref b11)])) (fun _ k => st21 _ k) ?_
        refine own_go (U' := T21.setTop (mkF m 55 #[.val (.int p0), .val (.int p1), .val (.int (p1 &&& (3 : Int32))), .unset] [(.ref b11), (.ref b11)])) (fun _ k => XS.dup X21.here hx rfl (hb hby d1_54) rfl rfl k) ?_
        refine own_go (U' := T21.setTop (mkF m 56 #[.val (.int p0), .val (.int p1), .val (.int (p1 &&& (3 : Int32))), .unset] [(.int (5 : Int32)), (.ref b11), (.ref b11)])) (fun _ k => XS.iconst X21.here hx rfl (hb hby d1_55) k) ?_
        refine own_go (U' := T21.setTop (mkF m 58 #[.val (.int p0), .val (.int p1), .val (.int (p1 &&& (3 : Int32))), .unset] [(.int (12 : Int32)), (.int (5 : Int32)), (.ref b11), (.ref b11)])) (fun _ k => XS.bipush X21.here hx rfl (hb hby d1_56) k) ?_
        have V22 := w21
        obtain ⟨cl22, Ar22, q22, S22, Ng22, Hh22, G22⟩ := V22
        have hj22 : ¬ (5 : Int32) < 0 ∧ (5 : Int32) < (16 : Int32) := ⟨by decide, by decide⟩
        obtain ⟨T23, h23, X23, e23, W23, st23⟩ := stI X21 hx hZ e21 Ar22 (j := (5 : Int32)) (inb_of S22 hj22) (g := (mkF m 58 #[.val (.int p0), .val (.int p1), .val (.int (p1 &&& (3 : Int32))), .unset] [(.int (12 : Int32)), (.int (5 : Int32)), (.ref b11), (.ref b11)])) rfl rfl (hb hby d1_58)
        have w23 : Arv Z h23 b11 k11 .int (16 : Int32) [(.int (9 : Int32)), (.int (10 : Int32)), (.int (13 : Int32)), (.int (32 : Int32)), (.int (11 : Int32)), (.int (12 : Int32)), (.int (0 : Int32)), (.int (0 : Int32)), (.int (0 : Int32)), (.int (0 : Int32)), (.int (0 : Int32)), (.int (0 : Int32)), (.int (0 : Int32)), (.int (0 : Int32)), (.int (0 : Int32)), (.int (0 : Int32))] (.int (0 : Int32)) := Arv.set Ar22 q22 S22 Ng22 Hh22 G22 rfl W23 5 rfl (Nat.le_of_ble_eq_true rfl)
        have Z23 : n0 ≤ h23.size := Nat.le_trans Z21 (Keep.of_wr W23).1
        have K23 := Keep.wr K21 W23 (Or.inr sz_b11)
        have N23 := Fr.snoc X23 N21 g_b11
        refine own_go (U' := T23.setTop (mkF m 59 #[.val (.int p0), .val (.int p1), .val (.int (p1 &&& (3 : Int32))), .unset] [(.ref b11)])) (fun _ k => st23 _ k) ?_
        refine own_go (U' := T23.setTop (mkF m 60 #[.val (.int p0), .val (.int p1), .val (.int (p1 &&& (3 : Int32))), .unset] [(.ref b11), (.ref b11)])) (fun _ k => XS.dup X23.here hx rfl (hb hby d1_59) rfl rfl k) ?_
        refine own_go (U' := T23.setTop (mkF m 62 #[.val (.int p0), .val (.int p1), .val (.int (p1 &&& (3 : Int32))), .unset] [(.int (6 : Int32)), (.ref b11), (.ref b11)])) (fun _ k => XS.bipush X23.here hx rfl (hb hby d1_60) k) ?_
        refine own_go (U' := T23.setTop (mkF m 63 #[.val (.int p0), .val (.int p1), .val (.int (p1 &&& (3 : Int32))), .unset] [(.int (0 : Int32)), (.int (6 : Int32)), (.ref b11), (.ref b11)])) (fun _ k => XS.iconst X23.here hx rfl (hb hby d1_62) k) ?_
        have V24 := w23
        obtain ⟨cl24, Ar24, q24, S24, Ng24, Hh24, G24⟩ := V24
        have hj24 : ¬ (6 : Int32) < 0 ∧ (6 : Int32) < (16 : Int32) := ⟨by decide, by decide⟩
        obtain ⟨T25, h25, X25, e25, W25, st25⟩ := stI X23 hx hZ e23 Ar24 (j := (6 : Int32)) (inb_of S24 hj24) (g := (mkF m 63 #[.val (.int p0), .val (.int p1), .val (.int (p1 &&& (3 : Int32))), .unset] [(.int (0 : Int32)), (.int (6 : Int32)), (.ref b11), (.ref b11)])) rfl rfl (hb hby d1_63)
        have w25 : Arv Z h25 b11 k11 .int (16 : Int32) [(.int (9 : Int32)), (.int (10 : Int32)), (.int (13 : Int32)), (.int (32 : Int32)), (.int (11 : Int32)), (.int (12 : Int32)), (.int (0 : Int32)), (.int (0 : Int32)), (.int (0 : Int32)), (.int (0 : Int32)), (.int (0 : Int32)), (.int (0 : Int32)), (.int (0 : Int32)), (.int (0 : Int32)), (.int (0 : Int32)), (.int (0 : Int32))] (.int (0 : Int32)) := Arv.set Ar24 q24 S24 Ng24 Hh24 G24 rfl W25 6 rfl (Nat.le_of_ble_eq_true rfl)
        have Z25 : n0 ≤ h25.size := Nat.le_trans Z23 (Keep.of_wr W25).1
        have K25 := Keep.wr K23 W25 (Or.inr sz_b11)
        have N25 := Fr.snoc X25 N23 g_b11
        refine own_go (U' := T25.setTop (mkF m 64 #[.val (.int p0), .val (.int p1), .val (.int (p1 &&& (3 : Int32))), .unset] [(.ref b11)])) (fun _ k => st25 _ k) ?_
        refine own_go (U' := T25.setTop (mkF m 65 #[.val (.int p0), .val (.int p1), .val (.int (p1 &&& (3 : Int32))), .unset] [(.ref b11), (.ref b11)])) (fun _ k => XS.dup X25.here hx rfl (hb hby d1_64) rfl rfl k) ?_
        refine own_go (U' := T25.setTop (mkF m 67 #[.val (.int p0), .val (.int p1), .val (.int (p1 &&& (3 : Int32))), .unset] [(.int (7 : Int32)), (.ref b11), (.ref b11)])) (fun _ k => XS.bipush X25.here hx rfl (hb hby d1_65) k) ?_
        refine own_go (U' := T25.setTop (mkF m 69 #[.val (.int p0), .val (.int p1), .val (.int (p1 &&& (3 : Int32))), .unset] [(.int (8 : Int32)), (.int (7 : Int32)), (.ref b11), (.ref b11)])) (fun _ k => XS.bipush X25.here hx rfl (hb hby d1_67) k) ?_
        have V26 := w25
        obtain ⟨cl26, Ar26, q26, S26, Ng26, Hh26, G26⟩ := V26
        have hj26 : ¬ (7 : Int32) < 0 ∧ (7 : Int32) < (16 : Int32) := ⟨by decide, by decide⟩
        obtain ⟨T27, h27, X27, e27, W27, st27⟩ := stI X25 hx hZ e25 Ar26 (j := (7 : Int32)) (inb_of S26 hj26) (g := (mkF m 69 #[.val (.int p0), .val (.int p1), .val (.int (p1 &&& (3 : Int32))), .unset] [(.int (8 : Int32)), (.int (7 : Int32)), (.ref b11), (.ref b11)])) rfl rfl (hb hby d1_69)
        have w27 : Arv Z h27 b11 k11 .int (16 : Int32) [(.int (9 : Int32)), (.int (10 : Int32)), (.int (13 : Int32)), (.int (32 : Int32)), (.int (11 : Int32)), (.int (12 : Int32)), (.int (0 : Int32)), (.int (8 : Int32)), (.int (0 : Int32)), (.int (0 : Int32)), (.int (0 : Int32)), (.int (0 : Int32)), (.int (0 : Int32)), (.int (0 : Int32)), (.int (0 : Int32)), (.int (0 : Int32))] (.int (0 : Int32)) := Arv.set Ar26 q26 S26 Ng26 Hh26 G26 rfl W27 7 rfl (Nat.le_of_ble_eq_true rfl)
        have Z27 : n0 ≤ h27.size := Nat.le_trans Z25 (Keep.of_wr W27).1
        have K27 := Keep.wr K25 W27 (Or.inr sz_b11)
        have N27 := Fr.snoc X27 N25 g_b11
        refine own_go (U' := T27.setTop (mkF m 70 #[.val (.int p0), .val (.int p1), .val (.int (p1 &&& (3 : Int32))), .unset] [(.ref b11)])) (fun _ k => st27 _ k) ?_
        refine own_go (U' := T27.setTop (mkF m 71 #[.val (.int p0), .val (.int p1), .val (.int (p1 &&& (3 : Int32))), .unset] [(.ref b11), (.ref b11)])) (fun _ k => XS.dup X27.here hx rfl (hb hby d1_70) rfl rfl k) ?_
        refine own_go (U' := T27.setTop (mkF m 73 #[.val (.int p0), .val (.int p1), .val (.int (p1 &&& (3 : Int32))), .unset] [(.int (8 : Int32)), (.ref b11), (.ref b11)])) (fun _ k => XS.bipush X27.here hx rfl (hb hby d1_71) k) ?_
        refine own_go (U' := T27.setTop (mkF m 75 #[.val (.int p0), .val (.int p1), .val (.int (p1 &&& (3 : Int32))), .unset] [(.int (14 : Int32)), (.int (8 : Int32)), (.ref b11), (.ref b11)])) (fun _ k => XS.bipush X27.here hx rfl (hb hby d1_73) k) ?_
        have V28 := w27
        obtain ⟨cl28, Ar28, q28, S28, Ng28, Hh28, G28⟩ := V28
        have hj28 : ¬ (8 : Int32) < 0 ∧ (8 : Int32) < (16 : Int32) := ⟨by decide, by decide⟩
        obtain ⟨T29, h29, X29, e29, W29, st29⟩ := stI X27 hx hZ e27 Ar28 (j := (8 : Int32)) (inb_of S28 hj28) (g := (mkF m 75 #[.val (.int p0), .val (.int p1), .val (.int (p1 &&& (3 : Int32))), .unset] [(.int (14 : Int32)), (.int (8 : Int32)), (.ref b11), (.ref b11)])) rfl rfl (hb hby d1_75)
        have w29 : Arv Z h29 b11 k11 .int (16 : Int32) [(.int (9 : Int32)), (.int (10 : Int32)), (.int (13 : Int32)), (.int (32 : Int32)), (.int (11 : Int32)), (.int (12 : Int32)), (.int (0 : Int32)), (.int (8 : Int32)), (.int (14 : Int32)), (.int (0 : Int32)), (.int (0 : Int32)), (.int (0 : Int32)), (.int (0 : Int32)), (.int (0 : Int32)), (.int (0 : Int32)), (.int (0 : Int32))] (.int (0 : Int32)) := Arv.set Ar28 q28 S28 Ng28 Hh28 G28 rfl W29 8 rfl (Nat.le_of_ble_eq_true rfl)
        have Z29 : n0 ≤ h29.size := Nat.le_trans Z27 (Keep.of_wr W29).1
        have K29 := Keep.wr K27 W29 (Or.inr sz_b11)
        have N29 := Fr.snoc X29 N27 g_b11
        refine own_go (U' := T29.setTop (mkF m 76 #[.val (.int p0), .val (.int p1), .val (.int (p1 &&& (3 : Int32))), .unset] [(.ref b11)])) (fun _ k => st29 _ k) ?_
        refine own_go (U' := T29.setTop (mkF m 77 #[.val (.int p0), .val (.int p1), .val (.int (p1 &&& (3 : Int32))), .unset] [(.ref b11), (.ref b11)])) (fun _ k => XS.dup X29.here hx rfl (hb hby d1_76) rfl rfl k) ?_
        refine own_go (U' := T29.setTop (mkF m 79 #[.val (.int p0), .val (.int p1), .val (.int (p1 &&& (3 : Int32))), .unset] [(.int (9 : Int32)), (.ref b11), (.ref b11)])) (fun _ k => XS.bipush X29.here hx rfl (hb hby d1_77) k) ?_
        refine own_go (U' := T29.setTop (mkF m 81 #[.val (.int p0), .val (.int p1), .val (.int (p1 &&& (3 : Int32))), .unset] [(.int (31 : Int32)), (.int (9 : Int32)), (.ref b11), (.ref b11)])) (fun _ k => XS.bipush X29.here hx rfl (hb hby d1_79) k) ?_
        have V30 := w29
        obtain ⟨cl30, Ar30, q30, S30, Ng30, Hh30, G30⟩ := V30
        have hj30 : ¬ (9 : Int32) < 0 ∧ (9 : Int32) < (16 : Int32) := ⟨by decide, by decide⟩
        obtain ⟨T31, h31, X31, e31, W31, st31⟩ := stI X29 hx hZ e29 Ar30 (j := (9 : Int32)) (inb_of S30 hj30) (g := (mkF m 81 #[.val (.int p0), .val (.int p1), .val (.int (p1 &&& (3 : Int32))), .unset] [(.int (31 : Int32)), (.int (9 : Int32)), (.ref b11), (.ref b11)])) rfl rfl (hb hby d1_81)
        have w31 : Arv Z h31 b11 k11 .int (16 : Int32) [(.int (9 : Int32)), (.int (10 : Int32)), (.int (13 : Int32)), (.int (32 : Int32)), (.int (11 : Int32)), (.int (12 : Int32)), (.int (0 : Int32)), (.int (8 : Int32)), (.int (14 : Int32)), (.int (31 : Int32)), (.int (0 : Int32)), (.int (0 : Int32)), (.int (0 : Int32)), (.int (0 : Int32)), (.int (0 : Int32)), (.int (0 : Int32))] (.int (0 : Int32)) := Arv.set Ar30 q30 S30 Ng30 Hh30 G30 rfl W31 9 rfl (Nat.le_of_ble_eq_true rfl)
        have Z31 : n0 ≤ h31.size := Nat.le_trans Z29 (Keep.of_wr W31).1
        have K31 := Keep.wr K29 W31 (Or.inr sz_b11)
        have N31 := Fr.snoc X31 N29 g_b11
        refine own_go (U' := T31.setTop (mkF m 82 #[.val (.int p0), .val (.int p1), .val (.int (p1 &&& (3 : Int32))), .unset] [(.ref b11)])) (fun _ k => st31 _ k) ?_
        refine own_go (U' := T31.setTop (mkF m 83 #[.val (.int p0), .val (.int p1), .val (.int (p1 &&& (3 : Int32))), .unset] [(.ref b11), (.ref b11)])) (fun _ k => XS.dup X31.here hx rfl (hb hby d1_82) rfl rfl k) ?_
        refine own_go (U' := T31.setTop (mkF m 85 #[.val (.int p0), .val (.int p1), .val (.int (p1 &&& (3 : Int32))), .unset] [(.int (10 : Int32)), (.ref b11), (.ref b11)])) (fun _ k => XS.bipush X31.here hx rfl (hb hby d1_83) k) ?_
        refine own_go (U' := T31.setTop (mkF m 87 #[.val (.int p0), .val (.int p1), .val (.int (p1 &&& (3 : Int32))), .unset] [(.int (33 : Int32)), (.int (10 : Int32)), (.ref b11), (.ref b11)])) (fun _ k => XS.bipush X31.here hx rfl (hb hby d1_85) k) ?_
        have V32 := w31
        obtain ⟨cl32, Ar32, q32, S32, Ng32, Hh32, G32⟩ := V32
        have hj32 : ¬ (10 : Int32) < 0 ∧ (10 : Int32) < (16 : Int32) := ⟨by decide, by decide⟩
        obtain ⟨T33, h33, X33, e33, W33, st33⟩ := stI X31 hx hZ e31 Ar32 (j := (10 : Int32)) (inb_of S32 hj32) (g := (mkF m 87 #[.val (.int p0), .val (.int p1), .val (.int (p1 &&& (3 : Int32))), .unset] [(.int (33 : Int32)), (.int (10 : Int32)), (.ref b11), (.ref b11)])) rfl rfl (hb hby d1_87)
        have w33 : Arv Z h33 b11 k11 .int (16 : Int32) [(.int (9 : Int32)), (.int (10 : Int32)), (.int (13 : Int32)), (.int (32 : Int32)), (.int (11 : Int32)), (.int (12 : Int32)), (.int (0 : Int32)), (.int (8 : Int32)), (.int (14 : Int32)), (.int (31 : Int32)), (.int (33 : Int32)), (.int (0 : Int32)), (.int (0 : Int32)), (.int (0 : Int32)), (.int (0 : Int32)), (.int (0 : Int32))] (.int (0 : Int32)) := Arv.set Ar32 q32 S32 Ng32 Hh32 G32 rfl W33 10 rfl (Nat.le_of_ble_eq_true rfl)
        have Z33 : n0 ≤ h33.size := Nat.le_trans Z31 (Keep.of_wr W33).1
        have K33 := Keep.wr K31 W33 (Or.inr sz_b11)
        have N33 := Fr.snoc X33 N31 g_b11
        refine own_go (U' := T33.setTop (mkF m 88 #[.val (.int p0), .val (.int p1), .val (.int (p1 &&& (3 : Int32))), .unset] [(.ref b11)])) (fun _ k => st33 _ k) ?_
        refine own_go (U' := T33.setTop (mkF m 89 #[.val (.int p0), .val (.int p1), .val (.int (p1 &&& (3 : Int32))), .unset] [(.ref b11), (.ref b11)])) (fun _ k => XS.dup X33.here hx rfl (hb hby d1_88) rfl rfl k) ?_
        refine own_go (U' := T33.setTop (mkF m 91 #[.val (.int p0), .val (.int p1), .val (.int (p1 &&& (3 : Int32))), .unset] [(.int (11 : Int32)), (.ref b11), (.ref b11)])) (fun _ k => XS.bipush X33.here hx rfl (hb hby d1_89) k) ?_
        refine own_go (U' := T33.setTop (mkF m 94 #[.val (.int p0), .val (.int p1), .val (.int (p1 &&& (3 : Int32))), .unset] [(.int (133 : Int32)), (.int (11 : Int32)), (.ref b11), (.ref b11)])) (fun _ k => XS.sipush X33.here hx rfl (hb hby d1_91) k) ?_
        have V34 := w33
        obtain ⟨cl34, Ar34, q34, S34, Ng34, Hh34, G34⟩ := V34
        have hj34 : ¬ (11 : Int32) < 0 ∧ (11 : Int32) < (16 : Int32) := ⟨by decide, by decide⟩
        obtain ⟨T35, h35, X35, e35, W35, st35⟩ := stI X33 hx hZ e33 Ar34 (j := (11 : Int32)) (inb_of S34 hj34) (g := (mkF m 94 #[.val (.int p0), .val (.int p1), .val (.int (p1 &&& (3 : Int32))), .unset] [(.int (133 : Int32)), (.int (11 : Int32)), (.ref b11), (.ref b11)])) rfl rfl (hb hby d1_94)
        have w35 : Arv Z h35 b11 k11 .int (16 : Int32) [(.int (9 : Int32)), (.int (10 : Int32)), (.int (13 : Int32)), (.int (32 : Int32)), (.int (11 : Int32)), (.int (12 : Int32)), (.int (0 : Int32)), (.int (8 : Int32)), (.int (14 : Int32)), (.int (31 : Int32)), (.int (33 : Int32)), (.int (133 : Int32)), (.int (0 : Int32)), (.int (0 : Int32)), (.int (0 : Int32)), (.int (0 : Int32))] (.int (0 : Int32)) := Arv.set Ar34 q34 S34 Ng34 Hh34 G34 rfl W35 11 rfl (Nat.le_of_ble_eq_true rfl)
        have Z35 : n0 ≤ h35.size := Nat.le_trans Z33 (Keep.of_wr W35).1
        have K35 := Keep.wr K33 W35 (Or.inr sz_b11)
        have N35 := Fr.snoc X35 N33 g_b11
        refine own_go (U' := T35.setTop (mkF m 95 #[.val (.int p0), .val (.int p1), .val (.int (p1 &&& (3 : Int32))), .unset] [(.ref b11)])) (fun _ k => st35 _ k) ?_
        refine own_go (U' := T35.setTop (mkF m 96 #[.val (.int p0), .val (.int p1), .val (.int (p1 &&& (3 : Int32))), .unset] [(.ref b11), (.ref b11)])) (fun _ k => XS.dup X35.here hx rfl (hb hby d1_95) rfl rfl k) ?_
        refine own_go (U' := T35.setTop (mkF m 98 #[.val (.int p0), .val (.int p1), .val (.int (p1 &&& (3 : Int32))), .unset] [(.int (12 : Int32)), (.ref b11), (.ref b11)])) (fun _ k => XS.bipush X35.here hx rfl (hb hby d1_96) k) ?_
        refine own_go (U' := T35.setTop (mkF m 101 #[.val (.int p0), .val (.int p1), .val (.int (p1 &&& (3 : Int32))), .unset] [(.int (160 : Int32)), (.int (12 : Int32)), (.ref b11), (.ref b11)])) (fun _ k => XS.sipush X35.here hx rfl (hb hby d1_98) k) ?_
        have V36 := w35
        obtain ⟨cl36, Ar36, q36, S36, Ng36, Hh36, G36⟩ := V36
        have hj36 : ¬ (12 : Int32) < 0 ∧ (12 : Int32) < (16 : Int32) := ⟨by decide, by decide⟩
        obtain ⟨T37, h37, X37, e37, W37, st37⟩ := stI X35 hx hZ e35 Ar36 (j := (12 : Int32)) (inb_of S36 hj36) (g := (mkF m 101 #[.val (.int p0), .val (.int p1), .val (.int (p1 &&& (3 : Int32))), .unset] [(.int (160 : Int32)), (.int (12 : Int32)), (.ref b11), (.ref b11)])) rfl rfl (hb hby d1_101)
        have w37 : Arv Z h37 b11 k11 .int (16 : Int32) [(.int (9 : Int32)), (.int (10 : Int32)), (.int (13 : Int32)), (.int (32 : Int32)), (.int (11 : Int32)), (.int (12 : Int32)), (.int (0 : Int32)), (.int (8 : Int32)), (.int (14 : Int32)), (.int (31 : Int32)), (.int (33 : Int32)), (.int (133 : Int32)), (.int (160 : Int32)), (.int (0 : Int32)), (.int (0 : Int32)), (.int (0 : Int32))] (.int (0 : Int32)) := Arv.set Ar36 q36 S36 Ng36 Hh36 G36 rfl W37 12 rfl (Nat.le_of_ble_eq_true rfl)
        have Z37 : n0 ≤ h37.size := Nat.le_trans Z35 (Keep.of_wr W37).1
        have K37 := Keep.wr K35 W37 (Or.inr sz_b11)
        have N37 := Fr.snoc X37 N35 g_b11
        refine own_go (U' := T37.setTop (mkF m 102 #[.val (.int p0), .val (.int p1), .val (.int (p1 &&& (3 : Int32))), .unset] [(.ref b11)])) (fun _ k => st37 _ k) ?_
        refine own_go (U' := T37.setTop (mkF m 103 #[.val (.int p0), .val (.int p1), .val (.int (p1 &&& (3 : Int32))), .unset] [(.ref b11), (.ref b11)])) (fun _ k => XS.dup X37.here hx rfl (hb hby d1_102) rfl rfl k) ?_
        refine own_go (U' := T37.setTop (mkF m 105 #[.val (.int p0), .val (.int p1), .val (.int (p1 &&& (3 : Int32))), .unset] [(.int (13 : Int32)), (.ref b11), (.ref b11)])) (fun _ k => XS.bipush X37.here hx rfl (hb hby d1_103) k) ?_
        refine own_go (U' := T37.setTop (mkF m 108 #[.val (.int p0), .val (.int p1), .val (.int (p1 &&& (3 : Int32))), .unset] [(.int (8195 : Int32)), (.int (13 : Int32)), (.ref b11), (.ref b11)])) (fun _ k => XS.sipush X37.here hx rfl (hb hby d1_105) k) ?_
        have V38 := w37
        obtain ⟨cl38, Ar38, q38, S38, Ng38, Hh38, G38⟩ := V38
        have hj38 : ¬ (13 : Int32) < 0 ∧ (13 : Int32) < (16 : Int32) := ⟨by decide, by decide⟩
        obtain ⟨T39, h39, X39, e39, W39, st39⟩ := stI X37 hx hZ e37 Ar38 (j := (13 : Int32)) (inb_of S38 hj38) (g := (mkF m 108 #[.val (.int p0), .val (.int p1), .val (.int (p1 &&& (3 : Int32))), .unset] [(.int (8195 : Int32)), (.int (13 : Int32)), (.ref b11), (.ref b11)])) rfl rfl (hb hby d1_108)
        have w39 : Arv Z h39 b11 k11 .int (16 : Int32) [(.int (9 : Int32)), (.int (10 : Int32)), (.int (13 : Int32)), (.int (32 : Int32)), (.int (11 : Int32)), (.int (12 : Int32)), (.int (0 : Int32)), (.int (8 : Int32)), (.int (14 : Int32)), (.int (31 : Int32)), (.int (33 : Int32)), (.int (133 : Int32)), (.int (160 : Int32)), (.int (8195 : Int32)), (.int (0 : Int32)), (.int (0 : Int32))] (.int (0 : Int32)) := Arv.set Ar38 q38 S38 Ng38 Hh38 G38 rfl W39 13 rfl (Nat.le_of_ble_eq_true rfl)
        have Z39 : n0 ≤ h39.size := Nat.le_trans Z37 (Keep.of_wr W39).1
        have K39 := Keep.wr K37 W39 (Or.inr sz_b11)
        have N39 := Fr.snoc X39 N37 g_b11
        refine own_go (U' := T39.setTop (mkF m 109 #[.val (.int p0), .val (.int p1), .val (.int (p1 &&& (3 : Int32))), .unset] [(.ref b11)])) (fun _ k => st39 _ k) ?_
        refine own_go (U' := T39.setTop (mkF m 110 #[.val (.int p0), .val (.int p1), .val (.int (p1 &&& (3 : Int32))), .unset] [(.ref b11), (.ref b11)])) (fun _ k => XS.dup X39.here hx rfl (hb hby d1_109) rfl rfl k) ?_
        refine own_go (U' := T39.setTop (mkF m 112 #[.val (.int p0), .val (.int p1), .val (.int (p1 &&& (3 : Int32))), .unset] [(.int (14 : Int32)), (.ref b11), (.ref b11)])) (fun _ k => XS.bipush X39.here hx rfl (hb hby d1_110) k) ?_
        refine own_go (U' := T39.setTop (mkF m 115 #[.val (.int p0), .val (.int p1), .val (.int (p1 &&& (3 : Int32))), .unset] [(.int (12288 : Int32)), (.int (14 : Int32)), (.ref b11), (.ref b11)])) (fun _ k => XS.sipush X39.here hx rfl (hb hby d1_112) k) ?_
        have V40 := w39
        obtain ⟨cl40, Ar40, q40, S40, Ng40, Hh40, G40⟩ := V40
        have hj40 : ¬ (14 : Int32) < 0 ∧ (14 : Int32) < (16 : Int32) := ⟨by decide, by decide⟩
        obtain ⟨T41, h41, X41, e41, W41, st41⟩ := stI X39 hx hZ e39 Ar40 (j := (14 : Int32)) (inb_of S40 hj40) (g := (mkF m 115 #[.val (.int p0), .val (.int p1), .val (.int (p1 &&& (3 : Int32))), .unset] [(.int (12288 : Int32)), (.int (14 : Int32)), (.ref b11), (.ref b11)])) rfl rfl (hb hby d1_115)
        have w41 : Arv Z h41 b11 k11 .int (16 : Int32) [(.int (9 : Int32)), (.int (10 : Int32)), (.int (13 : Int32)), (.int (32 : Int32)), (.int (11 : Int32)), (.int (12 : Int32)), (.int (0 : Int32)), (.int (8 : Int32)), (.int (14 : Int32)), (.int (31 : Int32)), (.int (33 : Int32)), (.int (133 : Int32)), (.int (160 : Int32)), (.int (8195 : Int32)), (.int (12288 : Int32)), (.int (0 : Int32))] (.int (0 : Int32)) := Arv.set Ar40 q40 S40 Ng40 Hh40 G40 rfl W41 14 rfl (Nat.le_of_ble_eq_true rfl)
        have Z41 : n0 ≤ h41.size := Nat.le_trans Z39 (Keep.of_wr W41).1
        have K41 := Keep.wr K39 W41 (Or.inr sz_b11)
        have N41 := Fr.snoc X41 N39 g_b11
        refine own_go (U' := T41.setTop (mkF m 116 #[.val (.int p0), .val (.int p1), .val (.int (p1 &&& (3 : Int32))), .unset] [(.ref b11)])) (fun _ k => st41 _ k) ?_
        refine own_go (U' := T41.setTop (mkF m 117 #[.val (.int p0), .val (.int p1), .val (.int (p1 &&& (3 : Int32))), .unset] [(.ref b11), (.ref b11)])) (fun _ k => XS.dup X41.here hx rfl (hb hby d1_116) rfl rfl k) ?_
        refine own_go (U' := T41.setTop (mkF m 119 #[.val (.int p0), .val (.int p1), .val (.int (p1 &&& (3 : Int32))), .unset] [(.int (15 : Int32)), (.ref b11), (.ref b11)])) (fun _ k => XS.bipush X41.here hx rfl (hb hby d1_117) k) ?_
        refine own_go (U' := T41.setTop (mkF m 122 #[.val (.int p0), .val (.int p1), .val (.int (p1 &&& (3 : Int32))), .unset] [(.int (5760 : Int32)), (.int (15 : Int32)), (.ref b11), (.ref b11)])) (fun _ k => XS.sipush X41.here hx rfl (hb hby d1_119) k) ?_
        have V42 := w41
        obtain ⟨cl42, Ar42, q42, S42, Ng42, Hh42, G42⟩ := V42
        have hj42 : ¬ (15 : Int32) < 0 ∧ (15 : Int32) < (16 : Int32) := ⟨by decide, by decide⟩
        obtain ⟨T43, h43, X43, e43, W43, st43⟩ := stI X41 hx hZ e41 Ar42 (j := (15 : Int32)) (inb_of S42 hj42) (g := (mkF m 122 #[.val (.int p0), .val (.int p1), .val (.int (p1 &&& (3 : Int32))), .unset] [(.int (5760 : Int32)), (.int (15 : Int32)), (.ref b11), (.ref b11)])) rfl rfl (hb hby d1_122)
        have w43 : Arv Z h43 b11 k11 .int (16 : Int32) [(.int (9 : Int32)), (.int (10 : Int32)), (.int (13 : Int32)), (.int (32 : Int32)), (.int (11 : Int32)), (.int (12 : Int32)), (.int (0 : Int32)), (.int (8 : Int32)), (.int (14 : Int32)), (.int (31 : Int32)), (.int (33 : Int32)), (.int (133 : Int32)), (.int (160 : Int32)), (.int (8195 : Int32)), (.int (12288 : Int32)), (.int (5760 : Int32))] (.int (0 : Int32)) := Arv.set Ar42 q42 S42 Ng42 Hh42 G42 rfl W43 15 rfl (Nat.le_of_ble_eq_true rfl)
        have Z43 : n0 ≤ h43.size := Nat.le_trans Z41 (Keep.of_wr W43).1
        have K43 := Keep.wr K41 W43 (Or.inr sz_b11)
        have N43 := Fr.snoc X43 N41 g_b11
        refine own_go (U' := T43.setTop (mkF m 123 #[.val (.int p0), .val (.int p1), .val (.int (p1 &&& (3 : Int32))), .unset] [(.ref b11)])) (fun _ k => st43 _ k) ?_
        refine own_go (U' := T43.setTop (mkF m 124 #[.val (.int p0), .val (.int p1), .val (.int (p1 &&& (3 : Int32))), .val (.ref b11)] [])) (fun _ k => XS.astoreN X43.here hx rfl (hb hby d1_123) rfl rfl (l' := #[.val (.int p0), .val (.int p1), .val (.int (p1 &&& (3 : Int32))), .val (.ref b11)]) rfl k) ?_
        refine own_go (U' := T43.setTop (mkF m 125 #[.val (.int p0), .val (.int p1), .val (.int (p1 &&& (3 : Int32))), .val (.ref b11)] [(.ref b11)])) (fun _ k => XS.aloadN X43.here hx rfl (hb hby d1_124) rfl rfl k) ?_
        refine own_go (U' := T43.setTop (mkF m 126 #[.val (.int p0), .val (.int p1), .val (.int (p1 &&& (3 : Int32))), .val (.ref b11)] [(.int p0), (.ref b11)])) (fun _ k => XS.iloadN X43.here hx rfl (hb hby d1_125) rfl k) ?_
        refine own_go (U' := T43.setTop (mkF m 128 #[.val (.int p0), .val (.int p1), .val (.int (p1 &&& (3 : Int32))), .val (.ref b11)] [(.int (15 : Int32)), (.int p0), (.ref b11)])) (fun _ k => XS.bipush X43.here hx rfl (hb hby d1_126) k) ?_
        refine own_go (U' := T43.setTop (mkF m 129 #[.val (.int p0), .val (.int p1), .val (.int (p1 &&& (3 : Int32))), .val (.ref b11)] [(.int (p0 &&& (15 : Int32))), (.ref b11)])) (fun _ k => XS.iand X43.here hx rfl (hb hby d1_128) rfl k) ?_
        have V44 := w43
        obtain ⟨cl44, Ar44, q44, S44, Ng44, Hh44, G44⟩ := V44
        have hj44 : ¬ (p0 &&& (15 : Int32)) < 0 ∧ (p0 &&& (15 : Int32)) < (16 : Int32) := own_and15 _
        obtain ⟨w45, hat44⟩ := own_some S44 Hh44 G44 hj44
        refine own_go (U' := T43.setTop (mkF m 130 #[.val (.int p0), .val (.int p1), .val (.int (p1 &&& (3 : Int32))), .val (.ref b11)] [(.int w45)])) (fun _ k => X43.iaload hx (j := (p0 &&& (15 : Int32))) (v := (.int w45)) (by rw [e43]; exact Ar44.1) (State.isArrayOf_alike hZ.alike Ar44.2.1) Ar44.2.2 (inb_of S44 hj44) hat44 (g := (mkF m 129 #[.val (.int p0), .val (.int p1), .val (.int (p1 &&& (3 : Int32))), .val (.ref b11)] [(.int (p0 &&& (15 : Int32))), (.ref b11)])) rfl rfl (hb hby d1_129) _ k) ?_
        refine own_ret X43 (v := (some (.int w45))) hlk (fun h => by rw [Bd.returns] at h; cases h) (by decide) (by decide) (fun fs hr => own_retI X43 hx Bd.returns (hb hby d1_130) hr) ?_
        show (Q1 Z p0 p1 h0 n0) _ T43.heap _
        rw [e43]
        exact ⟨⟨_, rfl⟩, N43, K43⟩
      · refine own_go (U' := s₁.setTop (mkF m 131 #[.val (.int p0), .val (.int p1), .val (.int (p1 &&& (3 : Int32))), .unset] [])) (fun _ k => XS.icmpYes X0.here hx rfl (pc0 := 22) (pc' := 131) rfl (hb hby d1_22) rfl (feq hc22_10).2 (by decide) (by decide) k) ?_
        refine own_go (U' := s₁.setTop (mkF m 132 #[.val (.int p0), .val (.int p1), .val (.int (p1 &&& (3 : Int32))), .unset] [(.int p0)])) (fun _ k => XS.iloadN X0.here hx rfl (hb hby d1_131) rfl k) ?_
        refine own_go (U' := s₁.setTop (mkF m 134 #[.val (.int p0), .val (.int p1), .val (.int (p1 &&& (3 : Int32))), .unset] [(.int (16 : Int32)), (.int p0)])) (fun _ k => XS.bipush X0.here hx rfl (hb hby d1_132) k) ?_
        refine own_go (U' := s₁.setTop (mkF m 135 #[.val (.int p0), .val (.int p1), .val (.int (p1 &&& (3 : Int32))), .unset] [(.int (p0 <<< ((16 : Int32) &&& 31)))])) (fun _ k => XS.ishl X0.here hx rfl (hb hby d1_134) rfl k) ?_
        refine own_go (U' := s₁.setTop (mkF m 137 #[.val (.int p0), .val (.int p1), .val (.int (p1 &&& (3 : Int32))), .unset] [(.int (32 : Int32)), (.int (p0 <<< ((16 : Int32) &&& 31)))])) (fun _ k => XS.bipush X0.here hx rfl (hb hby d1_135) k) ?_
        refine own_go (U' := s₁.setTop (mkF m 138 #[.val (.int p0), .val (.int p1), .val (.int (p1 &&& (3 : Int32))), .unset] [(.int ((p0 <<< ((16 : Int32) &&& 31)) ||| (32 : Int32)))])) (fun _ k => XS.ior X0.here hx rfl (hb hby d1_137) rfl k) ?_
        refine own_ret X0 (v := (some (.int ((p0 <<< ((16 : Int32) &&& 31)) ||| (32 : Int32))))) hlk (fun h => by rw [Bd.returns] at h; cases h) (by decide) (by decide) (fun fs hr => own_retI X0 hx Bd.returns (hb hby d1_138) hr) ?_
        show (Q1 Z p0 p1 h0 n0) _ s₁.heap _
        rw [e0]
        exact ⟨⟨_, rfl⟩, N0, (Keep.refl h0 [])⟩

theorem own_same (c : Int32) : f_2 c = f_3 c := by
  have key : ∀ i : Fin 64, f_2 (Int32.ofInt i.1) = f_3 (Int32.ofInt i.1) := by decide +kernel
  by_cases h : c < 0
  · unfold f_2 f_3
    rw [if_pos h, if_neg (by intro q; subst q; revert h; decide), if_neg (by intro q; subst q; revert h; decide), if_neg (by intro q; subst q; revert h; decide), if_neg (by intro q; subst q; revert h; decide)]
  · by_cases h2 : c < 64
    · have a : (0 : Int32).toInt = 0 := by decide
      have b : (64 : Int32).toInt = 64 := by decide
      rw [Int32.lt_iff_toInt_lt, a] at h
      rw [Int32.lt_iff_toInt_lt, b] at h2
      have e : c = Int32.ofInt ((⟨c.toInt.toNat, by omega⟩ : Fin 64).1 : Nat) := by
        show c = Int32.ofInt (c.toInt.toNat : Int)
        rw [Int.toNat_of_nonneg (by omega), Int32.ofInt_toInt]
      rw [e]
      exact key _
    · unfold f_2 f_3
      rw [if_neg h, if_neg h2, if_neg (by intro q; subst q; revert h2; decide), if_neg (by intro q; subst q; revert h2; decide), if_neg (by intro q; subst q; revert h2; decide), if_neg (by intro q; subst q; revert h2; decide)]

theorem own_pd0 : parseMethodDescriptor "(II)I" = some ⟨[.int, .int], some .int⟩ := by decide +kernel
theorem own_pd1 : parseMethodDescriptor "(I)Z" = some ⟨[.int], some .boolean⟩ := by decide +kernel
theorem own_ef0 (m : MethodId) (x0 : Int32) (x1 : Int32) : entryFrame m #[(.int x0), (.int x1)] maxLocals = mkF m 0 #[.val (.int x0), .val (.int x1), .unset] [] := by first | (simp [entryFrame, mkF, argsToLocals, Value.category, maxLocals]; done) | rfl
def Q0 (Z : State) (p0 : Int32) (p1 : Int32) (h0 : Heap) (n0 : Nat) (v : Option Value) (h : Heap) (L : List Loc) : Prop := v = some (.int 1) ∧ Fr n0 L
set_option maxRecDepth 65536 in
set_option maxHeartbeats 40000000 in
theorem rm0 (l : Launch) (Z : State) (a0 : Array Value) (hw : ∀ d ∈ tables_1, d.before a0 Z = true) (ws : List Jvm.Cond) (p0 : Int32) (p1 : Int32) (h0 : Heap) (n0 : Nat) (Z0 : n0 ≤ h0.size) :
    MetFree l x (head1 (Jvm.Cond.code x code maxLocals ret :: ws) room_1) (fun a U => a = #[(.int p0), (.int p1)] ∧ Z.Warmed39 U.vm ∧ U.heap = h0) (fun _ _ _ _ _ => True) (fun _ U o U' => ∃ v L, o = .returned v ∧ (Q0 Z p0 p1 h0 n0) v U'.heap L ∧ FrameEnd U o U' L room_1.cells room_1.slots) := by
  refine MetFree.of_bodySF (plainFor_of_name own_pn1) hisR ?_
  intro p e s m args below meth c s₁ Bd hml0 hP hK
  obtain ⟨rfl, hZ, hh⟩ := hP
  have hx := Bd.exec
  have hby := Bd.bytes
  have hml : c.maxLocals = 3 := hml0
  have hown : s.vm.findClass "com/example/map50k/map50k/io/XmlWhitespaceIsPinLaw" = some m.cls := findClass_of_methodNamed Bd.named
  have hnm := (name_of_methodNamed Bd.named Bd.method).1
  have hlk : meth.locks = false := BodyLoose.notSynchronized (by assumption)
  have X0 : Stand p l e room_1 s m #[(.int p0), (.int p1)] below meth c s₁ [] 0 0 := Stand.of_body Bd
  have e0 : s₁.heap = h0 := by rw [← hh, Bd.state]; rfl
  have N0 := Fr.nil n0
  show own_Done p e below s (Q0 Z p0 p1 h0 n0) room_1.cells room_1.slots (s₁.setTop (entryFrame m #[(.int p0), (.int p1)] maxLocals))
  refine own_go (U' := s₁.setTop (mkF m 0 #[.val (.int p0), .val (.int p1), .unset] [])) (fun _ k => castTop (own_ef0 m p0 p1) k) ?_
  refine own_go (U' := s₁.setTop (mkF m 1 #[.val (.int p0), .val (.int p1), .unset] [(.int p0)])) (fun _ k => XS.iloadN X0.here hx rfl (hb hby at_0) rfl k) ?_
  refine own_go (U' := s₁.setTop (mkF m 2 #[.val (.int p0), .val (.int p1), .unset] [(.int p1), (.int p0)])) (fun _ k => XS.iloadN X0.here hx rfl (hb hby at_1) rfl k) ?_
  obtain ⟨_, _, ⟨T46, L46, k46, n46⟩, -, X46, ⟨Lc46, hQ46, l46, y46, z46⟩, st46⟩ := Jvm.LawKit.callS X0 hx (y := (⟨"com/example/map50k/map50k/io/XmlWhitespaceIsPinLaw", "pick", "(II)I"⟩ : MethodName)) hown (mvT hZ (hw _ (List.mem_of_getElem? (i := 0) rfl))) (mvT hZ (hw _ (List.mem_of_getElem? (i := 1) rfl))) (mvT hZ (hw _ (List.mem_of_getElem? (i := 2) rfl))) (mvT hZ (hw _ (List.mem_of_getElem? (i := 3) rfl))) (by decide) (backOf (W := 0) (rm1 l Z a0 hw [] p0 p1 h0 n0 Z0 ) hZ (hw _ (List.mem_of_getElem? (i := 3) rfl)) (hw _ (List.mem_of_getElem? (i := 2) rfl)) (by decide) (by decide)) (g := (mkF m 2 #[.val (.int p0), .val (.int p1), .unset] [(.int p1), (.int p0)])) rfl (by rw [hml]; rfl) (argsL := [(.int p0), (.int p1)]) (rest := []) (lenOf own_pd0 rfl) rfl (by show 2 * 0 + _ ≤ _; exact Nat.le_of_eq rfl) (hb hby at_2) (fun _ _ => ⟨rfl, e0, (by decide : 0 + 1 ≤ _), (by decide : 0 + 16 ≤ _)⟩)
  dsimp only [Pt.U, Pt.locs, Pt.cells, Pt.slots] at X46 l46 y46 z46 st46 hQ46
  subst l46 y46 z46
  obtain ⟨⟨c46, rfl⟩, N46q, K46q⟩ := hQ46
  have N46 := Fr.app N0 N46q
  have Z46 : n0 ≤ T46.heap.size := Nat.le_trans Z0 K46q.1
  have K46 := Keep.trans (Keep.refl h0 []) K46q all0
  refine own_go (U' := T46.setTop (mkF m 5 #[.val (.int p0), .val (.int p1), .unset] [(.int c46)])) (fun _ k => st46 _ k) ?_
  refine own_go (U' := T46.setTop (mkF m 6 #[.val (.int p0), .val (.int p1), .val (.int c46)] [])) (fun _ k => XS.istoreN X46.here hx rfl (hb hby at_5) rfl (l' := #[.val (.int p0), .val (.int p1), .val (.int c46)]) rfl k) ?_
  refine own_go (U' := T46.setTop (mkF m 7 #[.val (.int p0), .val (.int p1), .val (.int c46)] [(.int c46)])) (fun _ k => XS.iloadN X46.here hx rfl (hb hby at_6) rfl k) ?_
  obtain ⟨_, _, ⟨T47, L47, k47, n47⟩, -, X47, ⟨Lc47, hQ47, l47, y47, z47⟩, st47⟩ := Jvm.LawKit.callS X46 hx (y := (⟨"com/example/map50k/map50k/io/XmlWhitespace", "is", "(I)Z"⟩ : MethodName)) hown (mvT hZ (hw _ (List.mem_of_getElem? (i := 4) rfl))) (mvT hZ (hw _ (List.mem_of_getElem? (i := 5) rfl))) (mvT hZ (hw _ (List.mem_of_getElem? (i := 6) rfl))) (mvT hZ (hw _ (List.mem_of_getElem? (i := 7) rfl))) (by decide) (backOf (W := 0) (rm2 l Z a0 hw [] c46 T46.heap n0 Z46 ) hZ (hw _ (List.mem_of_getElem? (i := 7) rfl)) (hw _ (List.mem_of_getElem? (i := 6) rfl)) (by decide) (by decide)) (g := (mkF m 7 #[.val (.int p0), .val (.int p1), .val (.int c46)] [(.int c46)])) rfl (by rw [hml]; rfl) (argsL := [(.int c46)]) (rest := []) (lenOf own_pd1 rfl) rfl (by show 2 * 0 + _ ≤ _; exact Nat.le_of_eq rfl) (hb hby at_7) (fun _ _ => ⟨rfl, rfl, (by decide : 1 + 0 ≤ _), (by decide : 16 + 0 ≤ _)⟩)
  dsimp only [Pt.U, Pt.locs, Pt.cells, Pt.slots] at X47 l47 y47 z47 st47 hQ47
  subst l47 y47 z47
  obtain ⟨rfl, N47q, e47⟩ := hQ47
  have N47 := Fr.app N46 N47q
  refine own_go (U' := T47.setTop (mkF m 10 #[.val (.int p0), .val (.int p1), .val (.int c46)] [(.int (f_2 c46))])) (fun _ k => st47 _ k) ?_
  refine own_go (U' := T47.setTop (mkF m 11 #[.val (.int p0), .val (.int p1), .val (.int c46)] [(.int c46), (.int (f_2 c46))])) (fun _ k => XS.iloadN X47.here hx rfl (hb hby at_10) rfl k) ?_
  obtain ⟨_, _, ⟨T48, L48, k48, n48⟩, -, X48, ⟨Lc48, hQ48, l48, y48, z48⟩, st48⟩ := Jvm.LawKit.callS X47 hx (y := (⟨"com/example/map50k/map50k/io/XmlWhitespaceIsPinLaw", "expected", "(I)Z"⟩ : MethodName)) hown (mvT hZ (hw _ (List.mem_of_getElem? (i := 8) rfl))) (mvT hZ (hw _ (List.mem_of_getElem? (i := 9) rfl))) (mvT hZ (hw _ (List.mem_of_getElem? (i := 2) rfl))) (mvT hZ (hw _ (List.mem_of_getElem? (i := 10) rfl))) (by decide) (backOf (W := 1) (rm3 l Z a0 hw [] c46 T46.heap n0 Z46 ) hZ (hw _ (List.mem_of_getElem? (i := 10) rfl)) (hw _ (List.mem_of_getElem? (i := 2) rfl)) (by decide) (by decide)) (g := (mkF m 11 #[.val (.int p0), .val (.int p1), .val (.int c46)] [(.int c46), (.int (f_2 c46))])) rfl (by rw [hml]; rfl) (argsL := [(.int c46)]) (rest := [(.int (f_2 c46))]) (lenOf own_pd1 rfl) rfl (by show 2 * 0 + _ ≤ _; exact Nat.le_of_eq rfl) (hb hby at_11) (fun _ _ => ⟨rfl, e47, (by decide : 1 + 0 ≤ _), (by decide : 16 + 0 ≤ _)⟩)
  dsimp only [Pt.U, Pt.locs, Pt.cells, Pt.slots] at X48 l48 y48 z48 st48 hQ48
  subst l48 y48 z48
  obtain ⟨rfl, N48q, e48⟩ := hQ48
  have N48 := Fr.app N47 N48q
  refine own_go (U' := T48.setTop (mkF m 14 #[.val (.int p0), .val (.int p1), .val (.int c46)] [(.int (f_3 c46)), (.int (f_2 c46))])) (fun _ k => st48 _ k) ?_
  have hc14_49 : (f_2 c46) = (f_3 c46) := own_same _
  refine own_go (U' := T48.setTop (mkF m 17 #[.val (.int p0), .val (.int p1), .val (.int c46)] [])) (fun _ k => XS.icmpNo X48.here hx rfl (hb hby at_14) rfl (teq hc14_49).2 k) ?_
  refine own_go (U' := T48.setTop (mkF m 18 #[.val (.int p0), .val (.int p1), .val (.int c46)] [(.int (1 : Int32))])) (fun _ k => XS.iconst X48.here hx rfl (hb hby at_17) k) ?_
  refine own_go (U' := T48.setTop (mkF m 22 #[.val (.int p0), .val (.int p1), .val (.int c46)] [(.int (1 : Int32))])) (fun _ k => XS.goto X48.here hx rfl (pc0 := 18) (pc' := 22) rfl (hb hby at_18) (by decide) (by decide) k) ?_
  refine own_ret X48 (v := (some (.int (1 : Int32)))) hlk (fun h => by rw [Bd.returns] at h; cases h) (by decide) (by decide) (fun fs hr => retN X48 hx (t := .boolean) Bd.returns (by simp) (hb hby at_22) hr) ?_
  show (Q0 Z p0 p1 h0 n0) _ T48.heap _
  rw [e48]
  exact ⟨rfl, N48⟩
set_option maxRecDepth 65536 in
set_option maxHeartbeats 40000000 in
theorem comes_1 {Post : Tables → Env → Array Value → State → Outcome → State → Prop} (hpost : ∀ tb e args s v u, (limb_1_1.after args s (.returned v) u = true ∧ limb_1_2.after args s (.returned v) u = true ∧ True) → FrameEnd s (.returned v) u (Jvm.fieldLocs frame_1_writes args s ++ Jvm.arrayLocs frame_1_arrays args s ++ Jvm.staticLocs frame_1_statics s) 16 128 → Post tb e args s (.returned v) u) :
    ArmFor flags0 classFile x code maxLocals ret World_1 tables_1 room_1 Calls_1 rest_1 Pre_1 Post := by
  intro l hfl _ _ p e ha hc hk s m args below hf hA hF happ hP
  obtain ⟨hcalls, hrest, hpre⟩ := hP
  obtain ⟨-, -, -, hnamed, -, -, -, hat⟩ := (Spec.applies_iff hf).mp happ
  obtain ⟨hg, hn⟩ := and_e (Cond.before_iff.mp (show (Jvm.Cond.and given_1 narrow_1).before args s = true from hpre))
  obtain ⟨hcnt, hg0⟩ := and_e hg
  obtain ⟨hv0, hg1⟩ := and_e hg0
  have hv1 := hg1
  obtain ⟨w0, w1, rfl⟩ : ∃ w0 w1 : Value, args = #[w0, w1] := by
    have hs : args.size = 2 := by simpa [Cond.value, given_1] using hcnt
    obtain ⟨L⟩ := args
    match L, hs with
    | [w0, w1], _ => exact ⟨w0, w1, rfl⟩
  have hw := fun d (hd : d ∈ tables_1) => atoms_spec (ws := Jvm.Cond.code x code maxLocals ret :: tables_1) hat d (List.mem_cons_of_mem _ hd)
  have hfit : Fit s := fun {y c} hc i hi => by
    obtain ⟨ha, rfl⟩ := Array.getElem?_eq_some_iff.mp hc
    have q := List.all_eq_true.mp ((Array.all_eq_true_iff_forall_mem.mp hF) _ (Array.getElem_mem ha)) i (List.mem_range.mpr hi)
    simpa [Array.getElem?_eq_getElem hi] using q
  obtain ⟨i0, ei0⟩ := is_v hv0
  obtain rfl : w0 = (.int i0) := Option.some.inj ei0
  obtain ⟨i1, ei1⟩ := is_v hv1
  obtain rfl : w1 = (.int i1) := Option.some.inj ei1
  obtain ⟨n, o, h1, h2, h3, _, L, rfl, ⟨rfl, N⟩, hq⟩ := rm0 l s _ hw tables_1 i0 i1 s.heap s.heap.size (Nat.le_refl _)  p e ha hc hk s m _ below hf ((Spec.applies_iff_loose hf).mp happ).1 ⟨rfl, State.Warmed39.refl s, rfl⟩ trivial
  refine ⟨n, _, h1, h2, h3, hpost _ _ _ _ _ _ ⟨Cond.after_iff.mpr rfl, Cond.after_iff.mpr (eq_i res_at (Term.int_eval (1)) rfl), trivial⟩ ⟨hq.1, hq.2.1, (hq.2.2.sift fun y hy => Or.inr (N y hy)).mono (by decide) (by decide)⟩⟩
theorem main_1_1 : Claimed_1_1 := comes_1 fun _ _ _ _ _ _ h hF => ⟨h.1, hF⟩
theorem main_1_2 : Claimed_1_2 := comes_1 fun _ _ _ _ _ _ h hF => ⟨h.2.1, hF⟩
end Jvm.Pilot.@@N@@
namespace Jvm.Pilot.@@N@@
open Jvm Jvm.ClassFile Sem Op Lib Jvm.Free Jvm.Stand Jvm.Pilot.@@N@@.Jvm.D
/-! MADE BY PROGRAM (witnessworld.py) out of the Statement's table words and the real class files: 9 classes; the members and pool entries that the words name. The judged class is class 1, her method 3. -/
namespace start1
open Jvm.ClassFile
def u (s : String) : CpInfo := .utf8 (stringToUtf16 s)
/-- a pool by its gaps: so many unusable entries, then the entry; so many at the end -/
def gap : Nat → List CpInfo → List CpInfo
  | 0, r => r
  | n + 1, r => .unusable :: gap n r
def poolList (es : List (Nat × CpInfo)) (last : Nat) : List CpInfo := es.foldr (fun e r => gap e.1 (e.2 :: r)) (gap last [])
def pool (es : List (Nat × CpInfo)) (last : Nat) : Array CpInfo := ⟨poolList es last⟩
def fileOf (pool : Array CpInfo) (this : Nat) (attrs : Array Attribute := #[]) (ms : Array MethodInfo := #[]) (fl : Nat := 33) (sup : Nat := 0) (ifs : Array Nat := #[]) (fds : Array FieldInfo := #[]) : ClassFile where
  minorVersion := 0
  majorVersion := 65
  constantPool := pool
  accessFlags := fl
  thisClass := this
  superClass := sup
  interfaces := ifs
  fields := fds
  methods := ms
  attributes := attrs
def plain (name : String) (sup : Option ClassId) : Class where
  name := name
  kind := .ordinary
  loader := none
  accessFlags := 33
  super := sup
  interfaces := #[]
  cf := none
  fields := #[]
  methods := #[]
  instanceTypes := #[]
  staticTypes := #[]
  resolved := #[]
  callSites := []
  init := .initialized
  statics := none
  mirror := none

def pool0 : Array CpInfo := pool [(5, u "<init>"), (0, u "()V"), (1, .class_ 10), (1, u "java/lang/Object")] 113

def k0m0 : Method := { name := "<init>", desc := "()V", sig := { parameters := [], returnType := none }, accessFlags := 1, code := none }
/-- java/lang/Object -/
def k0 : Class := { plain "java/lang/Object" none with
  accessFlags := 33
  interfaces := #[]
  cf := some (fileOf pool0 8 #[] #[{ accessFlags := 1, nameIndex := 5, descriptorIndex := 6, attributes := #[] }] 33 0 #[] #[])
  fields := #[]
  methods := #[k0m0]
  instanceTypes := #[]
  staticTypes := #[]
  resolved := Array.replicate 124 none
  statics := none }

def pool1 : Array CpInfo := pool [(2, .class_ 4), (1, u "java/lang/Object"), (0, u "<init>"), (0, u "()V"), (0, .long 4294977024), (1, .methodref 10 11), (0, .class_ 12), (0, .nameAndType 13 14), (0, u "com/example/map50k/map50k/io/XmlWhitespaceIsPinLaw"), (0, u "pick"), (0, u "(II)I"), (0, .methodref 16 17), (0, .class_ 18), (0, .nameAndType 19 20), (0, u "com/example/map50k/map50k/io/XmlWhitespace"), (0, u "is"), (0, u "(I)Z"), (0, .methodref 10 22), (0, .nameAndType 23 20), (0, u "expected"), (3, u "law"), (0, u "(II)Z")] 2

def k1m0 : Method := { name := "<init>", desc := "()V", sig := { parameters := [], returnType := none }, accessFlags := 2, code := none }
def k1c1 : Code := { maxStack := 4, maxLocals := 3, code := method_2_code, exceptionTable := #[], attributes := #[] }
def k1m1 : Method := { name := "expected", desc := "(I)Z", sig := { parameters := [.int], returnType := some .boolean }, accessFlags := 10, code := some k1c1 }
def k1c2 : Code := { maxStack := 4, maxLocals := 4, code := method_3_code, exceptionTable := #[], attributes := #[] }
def k1m2 : Method := { name := "pick", desc := "(II)I", sig := { parameters := [.int, .int], returnType := some .int }, accessFlags := 10, code := some k1c2 }
def k1c3 : Code := { maxStack := 2, maxLocals := 3, code := code, exceptionTable := #[], attributes := #[] }
def k1m3 : Method := { name := "law", desc := "(II)Z", sig := { parameters := [.int, .int], returnType := some .boolean }, accessFlags := 9, code := some k1c3 }
/-- com/example/map50k/map50k/io/XmlWhitespaceIsPinLaw -/
def k1 : Class := { plain "com/example/map50k/map50k/io/XmlWhitespaceIsPinLaw" (some 0) with
  accessFlags := 49
  interfaces := #[]
  cf := some (fileOf pool1 10 #[] #[{ accessFlags := 2, nameIndex := 5, descriptorIndex := 6, attributes := #[] }, { accessFlags := 10, nameIndex := 23, descriptorIndex := 20, attributes := #[] }, { accessFlags := 10, nameIndex := 13, descriptorIndex := 14, attributes := #[] }, { accessFlags := 9, nameIndex := 27, descriptorIndex := 28, attributes := #[] }] 49 2 #[] #[])
  fields := #[]
  methods := #[k1m0, k1m1, k1m2, k1m3]
  instanceTypes := #[]
  staticTypes := #[]
  resolved := Array.replicate 31 none
  statics := none }

def pool2 : Array CpInfo := pool [(2, .class_ 4), (1, u "java/lang/Object"), (0, u "<init>"), (0, u "()V"), (11, .class_ 20), (1, u "com/example/map50k/map50k/io/XmlWhitespace"), (0, u "is"), (0, u "(I)Z")] 17

def k2m0 : Method := { name := "<init>", desc := "()V", sig := { parameters := [], returnType := none }, accessFlags := 2, code := none }
def k2c1 : Code := { maxStack := 2, maxLocals := 1, code := prog_59_method_2_code, exceptionTable := #[], attributes := #[] }
def k2m1 : Method := { name := "is", desc := "(I)Z", sig := { parameters := [.int], returnType := some .boolean }, accessFlags := 8, code := some k2c1 }
/-- com/example/map50k/map50k/io/XmlWhitespace -/
def k2 : Class := { plain "com/example/map50k/map50k/io/XmlWhitespace" (some 0) with
  accessFlags := 48
  interfaces := #[]
  cf := some (fileOf pool2 18 #[] #[{ accessFlags := 2, nameIndex := 5, descriptorIndex := 6, attributes := #[] }, { accessFlags := 8, nameIndex := 21, descriptorIndex := 22, attributes := #[] }] 48 2 #[] #[])
  fields := #[]
  methods := #[k2m0, k2m1]
  instanceTypes := #[]
  staticTypes := #[]
  resolved := Array.replicate 40 none
  statics := none }

def pool3 : Array CpInfo := pool [(1, u "java/lang/Cloneable"), (0, .class_ 1), (0, u "java/lang/Object"), (0, .class_ 3)] 3

/-- java/lang/Cloneable -/
def k3 : Class := { plain "java/lang/Cloneable" (some 0) with
  accessFlags := 1537
  interfaces := #[]
  cf := some (fileOf pool3 2 #[] #[] 1537 4 #[] #[])
  fields := #[]
  methods := #[]
  instanceTypes := #[]
  staticTypes := #[]
  resolved := Array.replicate 8 none
  statics := none }

def pool4 : Array CpInfo := pool [(1, u "java/io/Serializable"), (0, .class_ 1), (0, u "java/lang/Object"), (0, .class_ 3)] 3

/-- java/io/Serializable -/
def k4 : Class := { plain "java/io/Serializable" (some 0) with
  accessFlags := 1537
  interfaces := #[]
  cf := some (fileOf pool4 2 #[] #[] 1537 4 #[] #[])
  fields := #[]
  methods := #[]
  instanceTypes := #[]
  staticTypes := #[]
  resolved := Array.replicate 8 none
  statics := none }

/-- the primitive byte -/
def k5 : Class := { plain "byte" none with kind := .primitive 'B', accessFlags := 0x411 }
/-- [B -/
def k6 : Class := { plain "[B" (some 0) with kind := .array 5 .byte, interfaces := #[3, 4], accessFlags := 1041 }

/-- the primitive int -/
def k7 : Class := { plain "int" none with kind := .primitive 'I', accessFlags := 0x411 }
/-- [I -/
def k8 : Class := { plain "[I" (some 0) with kind := .array 7 .int, interfaces := #[3, 4], accessFlags := 1041 }

def heap : Heap := #[]
def classes : Array Class := #[k0, k1, k2, k3, k4, k5, k6, k7, k8]
def interned : List (Array UInt16 × Addr) := []
def slotsUsed : Nat := 0
def theMethod : MethodId := ⟨1, 3⟩
def args0 : Array Value := #[.int 5, .int 2]
def aboutOver (below : List Frame) : State where
  vm := { classes := classes, interned := interned.toArray }
  heap := heap
  slotsUsed := slotsUsed
  threads := #[{ frames := .invoking theMethod args0 :: below }]
def below0 : List Frame := [.native { method := ⟨0, 0⟩, args := #[] }]
def about1 : State := aboutOver below0
def p0 : Program := .bare "" "" ""
def e0 : Env := launch0.env 0 0 0
theorem w_frames : about1.frames = Frame.invoking theMethod args0 :: below0 := rfl
set_option maxRecDepth 65536 in
theorem w_args : argsFit about1.vm theMethod args0 = true := by decide +kernel
set_option maxRecDepth 65536 in
theorem w_heap : heapFits about1 = true := by decide +kernel
set_option maxRecDepth 65536 in
theorem w_runnable : about1.curStatus? = some .runnable := by decide +kernel
set_option maxRecDepth 65536 in
theorem w_alone : about1.alone = true := by decide +kernel
set_option maxRecDepth 65536 in
theorem w_named : about1.methodNamed? x = some theMethod := by decide +kernel
set_option maxRecDepth 65536 in
theorem w_hears : about1.hears theMethod below0 = true := by decide +kernel
set_option maxRecDepth 65536 in
theorem w_ripe : about1.ripe theMethod args0 below0 = true := by decide +kernel
theorem w_running : about1.status = .running := rfl
set_option maxRecDepth 65536 in
theorem w_room : about1.hasRoom e0.platform room_1 = true :=
  launch0.hasRoom_least _ room_1 (by decide +kernel) (by decide +kernel) (by decide +kernel) (by decide +kernel) (by decide +kernel) (by decide +kernel)
theorem allAtoms_all (ts : List Jvm.Cond) (a : Array Jvm.Value) (st : Jvm.State) : (allAtoms ts).before a st = ts.all (fun c => c.before a st) := by
  induction ts with
  | nil => rfl
  | cons c t ih =>
    show (Jvm.Cond.and c (allAtoms t)).before a st = _
    rw [Jvm.Cond.before_and, ih, List.all_cons]
def words1 : List Jvm.Cond := Jvm.Cond.code x code maxLocals ret :: tables_1
/-- a 'code' word, met by the world's own term for the bytes: nothing is compared byte by byte -/
theorem code_word {y : MethodName} {bytes : ByteArray} {mx : Nat} {rt : Option FieldType} {a : Array Value} {s : State} {m : MethodId} {meth : Method} {c : Code} (h1 : s.methodNamed? y = some m) (h2 : s.vm.method? m = some meth) (h3 : meth.code = some c) (h4 : c.code = bytes)
    (h5 : (c.maxLocals == mx && c.exceptionTable.isEmpty && decide (c.maxStack ≤ mostOperands) && decide (meth.sig.returnType = rt) && !meth.locks && decide (parseMethodDescriptor y.desc = some meth.sig)) = true) : (Jvm.Cond.code y bytes mx rt).before a s = true := by
  simp only [Bool.and_eq_true, beq_iff_eq, Bool.not_eq_true', decide_eq_true_eq] at h5
  obtain ⟨⟨⟨⟨⟨g1, g2⟩, g3⟩, g4⟩, g5⟩, g6⟩ := h5
  simp [Cond.before, Cond.holds, Cond.value, h1, h2, h3, h4, g1, g2, g3, g4, g5, g6]
def isCode : Jvm.Cond → Bool
  | .code _ _ _ _ => true
  | _ => false
theorem all_split {L : List Jvm.Cond} {P : Jvm.Cond → Bool} (h1 : L.all (fun c => isCode c || P c) = true) (h2 : ∀ c ∈ L.filter isCode, P c = true) : L.all P = true := by
  refine List.all_eq_true.mpr fun c hc => ?_
  have h := List.all_eq_true.mp h1 c hc
  rcases Bool.eq_false_or_eq_true (isCode c) with hi | hi
  · exact h2 c (List.mem_filter.mpr ⟨hc, hi⟩)
  · simpa [hi] using h
set_option maxRecDepth 65536 in
theorem w_c0 : (Jvm.Cond.code x code maxLocals ret).before args0 about1 = true := code_word (m := ⟨1, 3⟩) (meth := k1m3) (c := k1c3) (by decide +kernel) rfl rfl rfl (by decide +kernel)
set_option maxRecDepth 65536 in
theorem w_c1 : (Jvm.Cond.code ({ cls := "com/example/map50k/map50k/io/XmlWhitespaceIsPinLaw", name := "pick", desc := "(II)I" } : Jvm.MethodName) method_3_code (4 : Nat) (Option.some Jvm.ClassFile.FieldType.int)).before args0 about1 = true := code_word (m := ⟨1, 2⟩) (meth := k1m2) (c := k1c2) (by decide +kernel) rfl rfl rfl (by decide +kernel)
set_option maxRecDepth 65536 in
theorem w_c2 : (Jvm.Cond.code ({ cls := "com/example/map50k/map50k/io/XmlWhitespace", name := "is", desc := "(I)Z" } : Jvm.MethodName) prog_59_method_2_code (1 : Nat) (Option.some Jvm.ClassFile.FieldType.boolean)).before args0 about1 = true := code_word (m := ⟨2, 1⟩) (meth := k2m1) (c := k2c1) (by decide +kernel) rfl rfl rfl (by decide +kernel)
set_option maxRecDepth 65536 in
theorem w_c3 : (Jvm.Cond.code ({ cls := "com/example/map50k/map50k/io/XmlWhitespaceIsPinLaw", name := "expected", desc := "(I)Z" } : Jvm.MethodName) method_2_code (3 : Nat) (Option.some Jvm.ClassFile.FieldType.boolean)).before args0 about1 = true := code_word (m := ⟨1, 1⟩) (meth := k1m1) (c := k1c1) (by decide +kernel) rfl rfl rfl (by decide +kernel)
def codes1 : List Jvm.Cond := [Jvm.Cond.code x code maxLocals ret, Jvm.Cond.code ({ cls := "com/example/map50k/map50k/io/XmlWhitespaceIsPinLaw", name := "pick", desc := "(II)I" } : Jvm.MethodName) method_3_code (4 : Nat) (Option.some Jvm.ClassFile.FieldType.int), Jvm.Cond.code ({ cls := "com/example/map50k/map50k/io/XmlWhitespace", name := "is", desc := "(I)Z" } : Jvm.MethodName) prog_59_method_2_code (1 : Nat) (Option.some Jvm.ClassFile.FieldType.boolean), Jvm.Cond.code ({ cls := "com/example/map50k/map50k/io/XmlWhitespaceIsPinLaw", name := "expected", desc := "(I)Z" } : Jvm.MethodName) method_2_code (3 : Nat) (Option.some Jvm.ClassFile.FieldType.boolean)]
set_option maxRecDepth 65536 in
theorem codes_eq : words1.filter isCode = codes1 := rfl
theorem w_codes : ∀ c ∈ words1.filter isCode, c.before args0 about1 = true := by
  rw [codes_eq]
  intro c hc
  simp only [codes1, List.mem_cons, List.not_mem_nil, or_false] at hc
  rcases hc with rfl | rfl | rfl | rfl
  · exact w_c0
  · exact w_c1
  · exact w_c2
  · exact w_c3
set_option maxRecDepth 65536 in
theorem w_t1 : words1.all (fun c => isCode c || c.before args0 about1) = true := by decide +kernel
theorem w_tables : (allAtoms (Jvm.Cond.code x code maxLocals ret :: tables_1)).before args0 about1 = true := by
  rw [allAtoms_all]
  show words1.all (fun c => c.before args0 about1) = true
  refine all_split ?_ w_codes
  rw [w_t1]
set_option maxRecDepth 65536 in
theorem w_case : (Jvm.Cond.and given_1 narrow_1).before args0 about1 = true := by decide +kernel
theorem w_applies : (headSpec (Jvm.Cond.code x code maxLocals ret :: tables_1) room_1).applies x e0.platform about1 = true :=
  (Spec.applies_iff w_frames).mpr ⟨w_running, w_runnable, w_alone, w_named, w_hears, w_ripe, w_room, w_tables⟩
theorem atStart : AtStart classFile x code maxLocals ret World_1 tables_1 room_1 Calls_1 rest_1 Pre_1 launch0 p0 e0 about1 theMethod args0 below0 :=
  ⟨lists_1, trivial, launch0.admits_env _ _ _, launch0.least_env, fairChoices_fair.cas, fairChoices_fair.clock, w_frames, w_args, w_heap, w_applies, trivial, trivial, w_case⟩
end start1
theorem witness_1 : WitnessClaimed_1 := ⟨start1.p0, start1.e0, start1.about1, start1.theMethod, start1.args0, start1.below0, start1.atStart⟩
end Jvm.Pilot.@@N@@
