import JvmDerived
import JvmDerived.Pilot.@@N@@Statement
import JvmDerived.Pilot.@@N@@Code
set_option linter.unusedVariables false
set_option linter.unusedSimpArgs false
namespace Jvm.Pilot.@@N@@
open Jvm Jvm.ClassFile Sem Op Lib Jvm.Free Jvm.Stand Jvm.LawKit Jvm.RoadKit Bundle Jvm.Pilot.@@N@@.Jvm.D

section Own
variable {p : Program} {l : Launch} {e : Env} {R : Room} {s : State} {m : MethodId} {args : Array Value} {below : List Frame} {meth : Method} {c : Code} {T : State} {locs : List Loc} {cells slots : Nat} {Qo : Option Value → Heap → List Loc → Prop} {C N : Nat}
/-- the run goes on from U to a return that answers Qo -/
def own_Done (p : Program) (e : Env) (below : List Frame) (s : State) (Qo : Option Value → Heap → List Loc → Prop) (C N : Nat) (U : State) : Prop :=
  ∃ s₂ o, Steps p.tables e below U s₂ ∧ s₂.status = .running ∧ Ended s₂ below o ∧ (∃ v L, o = .returned v ∧ Qo v s₂.heap L ∧ FrameEnd s o s₂ L C N)
theorem own_go {U U' : State} (h : ∀ t, Steps p.tables e below U' t → Steps p.tables e below U t) (d : own_Done p e below s Qo C N U') : own_Done p e below s Qo C N U := by
  obtain ⟨s₂, o, h1, h2⟩ := d
  exact ⟨s₂, o, h _ h1, h2⟩
theorem own_join {U U' : State} (h : own_Done p e below s Qo C N U' → own_Done p e below s Qo C N U) (d : own_Done p e below s Qo C N U') : own_Done p e below s Qo C N U := h d
theorem own_sta_keep {Z : State} {h h' : Heap} {C n d : String} {v : Value} (F : Sta Z h C n d v) (K : Keep h h' []) : Sta Z h' C n d v := by
  obtain ⟨cf, i, k, f, st, cell, h1, h2, h3, h4, h5, r⟩ := F
  exact ⟨cf, i, k, f, st, cell, h1, h2, h3, h4, K.2.1 st cell h5 (fun q => nomatch q), r⟩
theorem own_at {c : Cell} {z j : Int32} {vs : List Value} {d v : Value} {i : Nat} (S : c.slots.size = z.toNatClampNeg) (H : Has c vs d) (q : ¬ j < 0 ∧ j < z) (hj : j.toNatClampNeg = i) (hv : vs.getD i d = v) : c.slots[j.toNatClampNeg]? = some v := by
  have h := inb_of S q
  rw [H _ (Nat.lt_of_not_le fun k => h (Or.inr k)), hj, hv]
/-- an array of ints, bytes, chars .. by what its places hold -/
def own_Arf (Z : State) (h : Heap) (a : Addr) (k : ClassId) (ty : FieldType) (n : Int32) (f : Int32 → Int32) : Prop :=
  ∃ c : Cell, Arr Z h a c ty ∧ c.cls = k ∧ c.slots.size = n.toNatClampNeg ∧ ¬ n < 0 ∧ ∀ j : Int32, ¬ j < 0 → j < n → c.slots[j.toNatClampNeg]? = some (.int (f j))
section Arf
variable {Z : State} {h h' : Heap} {a b : Addr} {k : ClassId} {ty : FieldType} {n : Int32} {f : Int32 → Int32}
theorem own_Arf.lt (F : own_Arf Z h a k ty n f) : a < h.size := by obtain ⟨c, A, -⟩ := F; exact A.lt
theorem own_Arf.ext (F : own_Arf Z h a k ty n f) (E : Ext h h') : own_Arf Z h' a k ty n f := by obtain ⟨c, A, r⟩ := F; exact ⟨c, A.ext E, r⟩
theorem own_Arf.other {sl : Nat} {v : Value} (F : own_Arf Z h b k ty n f) (W : Wr h h' a sl v) (q : b ≠ a) : own_Arf Z h' b k ty n f := by obtain ⟨c, A, r⟩ := F; exact ⟨c, A.other W q, r⟩
theorem own_Arf.keep {ws : List Addr} (F : own_Arf Z h a k ty n f) (K : Keep h h' ws) (q : a ∉ ws) : own_Arf Z h' a k ty n f := by obtain ⟨c, A, r⟩ := F; exact ⟨c, ⟨K.2.1 a c A.1 q, A.2⟩, r⟩
theorem own_Arf.new (A : Arr Z h a (newA k ty n) ty) (q : ¬ n < 0) (hd : defaultValue ty = .int 0) : own_Arf Z h a k ty n (fun _ => (0 : Int32)) :=
  ⟨_, A, rfl, sz_new _ _ _, q, fun j h1 h2 => by
    have h3 := inb_of (sz_new k ty n) (z := n) (j := j) ⟨h1, h2⟩
    rw [sz_new] at h3
    rw [get_new h3, hd]⟩
theorem own_Arf.set {c : Cell} {j v : Int32} (A : Arr Z h a c ty) (q1 : c.cls = k) (S : c.slots.size = n.toNatClampNeg) (q3 : ¬ n < 0) (H : ∀ j : Int32, ¬ j < 0 → j < n → c.slots[j.toNatClampNeg]? = some (.int (f j))) (hj : ¬ j < 0 ∧ j < n) (W : Wr h h' a j.toNatClampNeg (.int v)) :
    own_Arf Z h' a k ty n (fun i => if i = j then v else f i) :=
  ⟨c.setSlot j.toNatClampNeg (.int v), A.same W, q1, by rw [sz_set]; exact S, q3, fun i h1 h2 => by
    by_cases e : i = j
    · rw [get_hit (inb_of S hj) e]; simp only [if_pos e]
    · rw [get_miss hj.1 h1 e, H i h1 h2]; simp only [if_neg e]⟩
end Arf
theorem own_ret (X : Stand p l e R s m args below meth c T locs cells slots) {v : Option Value} {g : JFrame} (hlk : meth.locks = false) (hv : meth.sig.returnType = none → v = none) (hC : cells ≤ C) (hN : slots ≤ N)
    (st : ∀ fs, (∀ (f : JFrame) (acts : List Action), f.method = m → f.locked = none → f.entered = [] → (doReturn e (T.setTop f) acts v).1 = T.setFrames fs) → Steps p.tables e below (T.setTop g) (T.setFrames fs)) (hQ : Qo v T.heap locs) : own_Done p e below s Qo C N (T.setTop g) := by
  obtain ⟨fs, hr, hrun, hended, hW, hsame⟩ := X.leave (v := v) hv hlk
  exact ⟨_, _, st fs hr, hrun, hended, _, _, rfl, hQ, ⟨_, rfl⟩, hW, hsame.mono hC hN⟩
theorem own_retI (X : Stand p l e R s m args below meth c T locs cells slots) (hx : p.tables.exec = Jvm.exec) {pc : Nat} {Ls : Array Slot} {z : Int32} {rest : List Value} (hret : meth.sig.returnType = some .int) (hd : decode c.code pc = .ok (.ireturn, 1)) {fs : List Frame}
    (hl : ∀ (f : JFrame) (acts : List Action), f.method = m → f.locked = none → f.entered = [] → (doReturn e (T.setTop f) acts (some (.int z))).1 = T.setFrames fs) : Steps p.tables e below (T.setTop (mkF m pc Ls (.int z :: rest))) (T.setFrames fs) := by
  exact retOut X hx hret rfl (Or.inl ⟨rfl, Or.inl rfl, z, rfl⟩) hd hl
theorem own_retJ (X : Stand p l e R s m args below meth c T locs cells slots) (hx : p.tables.exec = Jvm.exec) {pc : Nat} {Ls : Array Slot} {z : Int64} {rest : List Value} (hret : meth.sig.returnType = some .long) (hd : decode c.code pc = .ok (.lreturn, 1)) {fs : List Frame}
    (hl : ∀ (f : JFrame) (acts : List Action), f.method = m → f.locked = none → f.entered = [] → (doReturn e (T.setTop f) acts (some (.long z))).1 = T.setFrames fs) : Steps p.tables e below (T.setTop (mkF m pc Ls (.long z :: rest))) (T.setFrames fs) := by
  exact retOut X hx hret rfl (Or.inr (Or.inl ⟨rfl, rfl, z, rfl⟩)) hd hl
theorem own_retR (X : Stand p l e R s m args below meth c T locs cells slots) (hx : p.tables.exec = Jvm.exec) {pc : Nat} {Ls : Array Slot} {w : Value} {t : FieldType} {rest : List Value} (hret : meth.sig.returnType = some t) (ht : t.isReference = true) (hw : w.isRef = true) (hn : narrow t w = w) (hd : decode c.code pc = .ok (.areturn, 1)) {fs : List Frame}
    (hl : ∀ (f : JFrame) (acts : List Action), f.method = m → f.locked = none → f.entered = [] → (doReturn e (T.setTop f) acts (some w)).1 = T.setFrames fs) : Steps p.tables e below (T.setTop (mkF m pc Ls (w :: rest))) (T.setFrames fs) := by
  exact retOut X hx hret hn (Or.inr (Or.inr (Or.inr (Or.inr ⟨rfl, ht, hw⟩)))) hd hl
/-- the same where Strings may be interned meanwhile -/
def own_DoneW (p : Program) (e : Env) (below : List Frame) (s : State) (Z : State) (EL : List (String × Nat)) (Qo : Option Value → Heap → List Loc → Prop) (C N : Nat) (U : State) : Prop :=
  ∃ s₂ o, Steps p.tables e below U s₂ ∧ s₂.status = .running ∧ Ended s₂ below o ∧ (∃ v L, o = .returned v ∧ Qo v s₂.heap L ∧ CHr Z EL s.vm s.heap s₂.vm s₂.heap ∧ ReturnedEndW s o s₂ L C N)
theorem own_goW {Z : State} {EL : List (String × Nat)} {U U' : State} (h : ∀ t, Steps p.tables e below U' t → Steps p.tables e below U t) (d : own_DoneW p e below s Z EL Qo C N U') : own_DoneW p e below s Z EL Qo C N U := by
  obtain ⟨s₂, o, h1, h2⟩ := d
  exact ⟨s₂, o, h _ h1, h2⟩
theorem own_joinW {Z : State} {EL : List (String × Nat)} {U U' : State} (h : own_DoneW p e below s Z EL Qo C N U' → own_DoneW p e below s Z EL Qo C N U) (d : own_DoneW p e below s Z EL Qo C N U') : own_DoneW p e below s Z EL Qo C N U := h d
theorem own_retW {Z : State} {EL : List (String × Nat)} {vm₁ : Vm} (X : Stand p l e R (s.setVm vm₁) m args below meth c T locs cells slots) {n : Nat} (hS : s.Since vm₁ n) (hn : n ≤ T.heap.size) (hC : CHr Z EL s.vm s.heap T.vm T.heap) {v : Option Value} {g : JFrame} (hlk : meth.locks = false) (hv : meth.sig.returnType = none → v = none) (hCc : cells ≤ C) (hN : slots ≤ N)
    (st : ∀ fs, (∀ (f : JFrame) (acts : List Action), f.method = m → f.locked = none → f.entered = [] → (doReturn e (T.setTop f) acts v).1 = T.setFrames fs) → Steps p.tables e below (T.setTop g) (T.setFrames fs)) (hQ : Qo v T.heap locs) : own_DoneW p e below s Z EL Qo C N (T.setTop g) := by
  obtain ⟨fs, hr, hrun, hended, hE⟩ := X.leaveW hS hn (v := v) hv hlk
  exact ⟨_, _, st fs hr, hrun, hended, _, _, rfl, hQ, hC, hE.1, hE.2.1, hE.2.2.1, hE.2.2.2.mono hCc hN⟩
end Own


def own_pick (v0 v1 v2 v3 j : Int32) : Int32 := if j = 0 then v0 else if j = 1 then v1 else if j = 2 then v2 else v3
theorem own_in4 {j : Int32} (h : ¬ j < 0) (h2 : j < 4) : j = 0 ∨ j = 1 ∨ j = 2 ∨ j = 3 := by
  have k0 : (0 : Int32).toInt = 0 := by decide
  have k1 : (1 : Int32).toInt = 1 := by decide
  have k2 : (2 : Int32).toInt = 2 := by decide
  have k3 : (3 : Int32).toInt = 3 := by decide
  have k4 : (4 : Int32).toInt = 4 := by decide
  rw [Int32.lt_iff_toInt_lt, k0] at h
  rw [Int32.lt_iff_toInt_lt, k4] at h2
  simp only [← Int32.toInt_inj, k0, k1, k2, k3]
  omega
theorem own_at4 {c : Cell} {v0 v1 v2 v3 j : Int32} {d : Value} (S : c.slots.size = (4 : Int32).toNatClampNeg) (H : Has c [.int v0, .int v1, .int v2, .int v3] d) (q : ¬ j < 0 ∧ j < 4) : c.slots[j.toNatClampNeg]? = some (.int (own_pick v0 v1 v2 v3 j)) := by
  rcases own_in4 q.1 q.2 with rfl | rfl | rfl | rfl
  · exact own_at S H q (i := 0) rfl rfl
  · exact own_at S H q (i := 1) rfl rfl
  · exact own_at S H q (i := 2) rfl rfl
  · exact own_at S H q (i := 3) rfl rfl

theorem d1_0 : decode prog_43_method_23_code 0 = .ok (.iconst 0, 1) := by decide +kernel
theorem d1_1 : decode prog_43_method_23_code 1 = .ok (.istore_n 3, 1) := by decide +kernel
theorem d1_2 : decode prog_43_method_23_code 2 = .ok (.aload_n 1, 1) := by decide +kernel
theorem d1_3 : decode prog_43_method_23_code 3 = .ok (.astore 4, 2) := by decide +kernel
theorem d1_5 : decode prog_43_method_23_code 5 = .ok (.aload 4, 2) := by decide +kernel
theorem d1_7 : decode prog_43_method_23_code 7 = .ok (.arraylength, 1) := by decide +kernel
theorem d1_8 : decode prog_43_method_23_code 8 = .ok (.istore 5, 2) := by decide +kernel
theorem d1_10 : decode prog_43_method_23_code 10 = .ok (.iconst 0, 1) := by decide +kernel
theorem d1_11 : decode prog_43_method_23_code 11 = .ok (.istore 6, 2) := by decide +kernel
theorem d1_13 : decode prog_43_method_23_code 13 = .ok (.iload 6, 2) := by decide +kernel
theorem d1_15 : decode prog_43_method_23_code 15 = .ok (.iload 5, 2) := by decide +kernel
theorem d1_17 : decode prog_43_method_23_code 17 = .ok (.if_icmp .ge 29, 3) := by decide +kernel
theorem d1_20 : decode prog_43_method_23_code 20 = .ok (.aload 4, 2) := by decide +kernel
theorem d1_22 : decode prog_43_method_23_code 22 = .ok (.iload 6, 2) := by decide +kernel
theorem d1_24 : decode prog_43_method_23_code 24 = .ok (.baload, 1) := by decide +kernel
theorem d1_25 : decode prog_43_method_23_code 25 = .ok (.istore 7, 2) := by decide +kernel
theorem d1_27 : decode prog_43_method_23_code 27 = .ok (.iload_n 3, 1) := by decide +kernel
theorem d1_28 : decode prog_43_method_23_code 28 = .ok (.iload 7, 2) := by decide +kernel
theorem d1_30 : decode prog_43_method_23_code 30 = .ok (.ifCond .eq 7, 3) := by decide +kernel
theorem d1_37 : decode prog_43_method_23_code 37 = .ok (.iconst 0, 1) := by decide +kernel
theorem d1_33 : decode prog_43_method_23_code 33 = .ok (.iconst 1, 1) := by decide +kernel
theorem d1_34 : decode prog_43_method_23_code 34 = .ok (.goto 4, 3) := by decide +kernel
theorem d1_38 : decode prog_43_method_23_code 38 = .ok (.iadd, 1) := by decide +kernel
theorem d1_39 : decode prog_43_method_23_code 39 = .ok (.istore_n 3, 1) := by decide +kernel
theorem d1_40 : decode prog_43_method_23_code 40 = .ok (.iinc 6 1, 3) := by decide +kernel
theorem d1_43 : decode prog_43_method_23_code 43 = .ok (.goto (-30), 3) := by decide +kernel
theorem d1_46 : decode prog_43_method_23_code 46 = .ok (.iload_n 0, 1) := by decide +kernel
theorem d1_47 : decode prog_43_method_23_code 47 = .ok (.ifCond .le 18, 3) := by decide +kernel
theorem d1_50 : decode prog_43_method_23_code 50 = .ok (.iload_n 3, 1) := by decide +kernel
theorem d1_51 : decode prog_43_method_23_code 51 = .ok (.iconst 1, 1) := by decide +kernel
theorem d1_52 : decode prog_43_method_23_code 52 = .ok (.if_icmp .ne 13, 3) := by decide +kernel
theorem d1_55 : decode prog_43_method_23_code 55 = .ok (.aload_n 1, 1) := by decide +kernel
theorem d1_56 : decode prog_43_method_23_code 56 = .ok (.iload_n 2, 1) := by decide +kernel
theorem d1_57 : decode prog_43_method_23_code 57 = .ok (.baload, 1) := by decide +kernel
theorem d1_58 : decode prog_43_method_23_code 58 = .ok (.ifCond .eq 7, 3) := by decide +kernel
theorem d1_65 : decode prog_43_method_23_code 65 = .ok (.iconst 0, 1) := by decide +kernel
theorem d1_66 : decode prog_43_method_23_code 66 = .ok (.ireturn, 1) := by decide +kernel
theorem d1_61 : decode prog_43_method_23_code 61 = .ok (.iconst 1, 1) := by decide +kernel
theorem d1_62 : decode prog_43_method_23_code 62 = .ok (.goto 4, 3) := by decide +kernel
theorem own_pn0 : plainName "com/example/layout_to_evidence/layouttoevidence/TableRows" = true := by first | (simp [plainName, overriddenIn]; done) | decide +kernel
theorem own_ef1 (m : MethodId) (x0 : Int32) (x1 : Addr) (x2 : Int32) : entryFrame m #[(.int x0), (.ref x1), (.int x2)] 8 = mkF m 0 #[.val (.int x0), .val (.ref x1), .val (.int x2), .unset, .unset, .unset, .unset, .unset] [] := by first | (simp [entryFrame, mkF, argsToLocals, Value.category]; done) | rfl
def f_1 (p0 : Int32) (a1 : Addr) (p2 : Int32) (k1 : ClassId) (v0 : Int32) (v1 : Int32) (v2 : Int32) (v3 : Int32) : Int32 := (if (0 : Int32) < p0 then (if (((((0 : Int32) + (if v0 = (0 : Int32) then (0 : Int32) else (1 : Int32))) + (if v1 = (0 : Int32) then (0 : Int32) else (1 : Int32))) + (if v2 = (0 : Int32) then (0 : Int32) else (1 : Int32))) + (if v3 = (0 : Int32) then (0 : Int32) else (1 : Int32))) = (1 : Int32) then (if (own_pick v0 v1 v2 v3 p2) = (0 : Int32) then (0 : Int32) else (1 : Int32)) else (0 : Int32)) else (0 : Int32))
def Q1 (Z : State) (p0 : Int32) (a1 : Addr) (p2 : Int32) (k1 : ClassId) (v0 : Int32) (v1 : Int32) (v2 : Int32) (v3 : Int32) (h0 : Heap) (n0 : Nat) (v : Option Value) (h : Heap) (L : List Loc) : Prop := v = some (.int (f_1 p0 a1 p2 k1 v0 v1 v2 v3)) ∧ Fr n0 L ∧ h = h0
set_option maxRecDepth 65536 in
set_option maxHeartbeats 40000000 in
theorem rm1 (l : Launch) (Z : State) (a0 : Array Value) (hw : ∀ d ∈ tables_1, d.before a0 Z = true) (ws : List Jvm.Cond) (p0 : Int32) (a1 : Addr) (p2 : Int32) (k1 : ClassId) (v0 : Int32) (v1 : Int32) (v2 : Int32) (v3 : Int32) (h0 : Heap) (n0 : Nat) (Z0 : n0 ≤ h0.size) (V_a : Arv Z h0 a1 k1 .boolean (4 : Int32) [(.int v0), (.int v1), (.int v2), (.int v3)] (.int (0 : Int32))) (hi : ¬ (p2 < (0 : Int32))) (hi4 : p2 < (4 : Int32)) :
    MetFree l (⟨"com/example/layout_to_evidence/layouttoevidence/TableRows", "namesGroup", "(I[ZI)Z"⟩ : MethodName) (head1 (Jvm.Cond.code (⟨"com/example/layout_to_evidence/layouttoevidence/TableRows", "namesGroup", "(I[ZI)Z"⟩ : MethodName) prog_43_method_23_code 8 (some .boolean) :: ws) ({ frames := 0, cells := 0, slots := 0, locals := 0 } : Room)) (fun a U => a = #[(.int p0), (.ref a1), (.int p2)] ∧ Z.Warmed39 U.vm ∧ U.heap = h0) (fun _ _ _ _ _ => True) (fun _ U o U' => ∃ v L, o = .returned v ∧ (Q1 Z p0 a1 p2 k1 v0 v1 v2 v3 h0 n0) v U'.heap L ∧ FrameEnd U o U' L ({ frames := 0, cells := 0, slots := 0, locals := 0 } : Room).cells ({ frames := 0, cells := 0, slots := 0, locals := 0 } : Room).slots) := by
  refine MetFree.of_bodySF (plainFor_of_name own_pn0) hisR ?_
  intro p e s m args below meth c s₁ Bd hml0 hP hK
  obtain ⟨rfl, hZ, hh⟩ := hP
  have hx := Bd.exec
  have hby := Bd.bytes
  have hml : c.maxLocals = 8 := hml0
  have hown : s.vm.findClass "com/example/layout_to_evidence/layouttoevidence/TableRows" = some m.cls := findClass_of_methodNamed Bd.named
  have hnm := (name_of_methodNamed Bd.named Bd.method).1
  have hlk : meth.locks = false := BodyLoose.notSynchronized (by assumption)
  have X0 : Stand p l e ({ frames := 0, cells := 0, slots := 0, locals := 0 } : Room) s m #[(.int p0), (.ref a1), (.int p2)] below meth c s₁ [] 0 0 := Stand.of_body Bd
  have e0 : s₁.heap = h0 := by rw [← hh, Bd.state]; rfl
  have N0 := Fr.nil n0
  show own_Done p e below s (Q1 Z p0 a1 p2 k1 v0 v1 v2 v3 h0 n0) ({ frames := 0, cells := 0, slots := 0, locals := 0 } : Room).cells ({ frames := 0, cells := 0, slots := 0, locals := 0 } : Room).slots (s₁.setTop (entryFrame m #[(.int p0), (.ref a1), (.int p2)] 8))
  refine own_go (U' := s₁.setTop (mkF m 0 #[.val (.int p0), .val (.ref a1), .val (.int p2), .unset, .unset, .unset, .unset, .unset] [])) (fun _ k => castTop (own_ef1 m p0 a1 p2) k) ?_
  refine own_go (U' := s₁.setTop (mkF m 1 #[.val (.int p0), .val (.ref a1), .val (.int p2), .unset, .unset, .unset, .unset, .unset] [(.int (0 : Int32))])) (fun _ k => XS.iconst X0.here hx rfl (hb hby d1_0) k) ?_
  refine own_go (U' := s₁.setTop (mkF m 2 #[.val (.int p0), .val (.ref a1), .val (.int p2), .val (.int (0 : Int32)), .unset, .unset, .unset, .unset] [])) (fun _ k => XS.istoreN X0.here hx rfl (hb hby d1_1) rfl (l' := #[.val (.int p0), .val (.ref a1), .val (.int p2), .val (.int (0 : Int32)), .unset, .unset, .unset, .unset]) rfl k) ?_
  refine own_go (U' := s₁.setTop (mkF m 3 #[.val (.int p0), .val (.ref a1), .val (.int p2), .val (.int (0 : Int32)), .unset, .unset, .unset, .unset] [(.ref a1)])) (fun _ k => XS.aloadN X0.here hx rfl (hb hby d1_2) rfl rfl k) ?_
  refine own_go (U' := s₁.setTop (mkF m 5 #[.val (.int p0), .val (.ref a1), .val (.int p2), .val (.int (0 : Int32)), .val (.ref a1), .unset, .unset, .unset] [])) (fun _ k => XS.astore X0.here hx rfl (hb hby d1_3) rfl rfl (l' := #[.val (.int p0), .val (.ref a1), .val (.int p2), .val (.int (0 : Int32)), .val (.ref a1), .unset, .unset, .unset]) rfl k) ?_
  refine own_go (U' := s₁.setTop (mkF m 7 #[.val (.int p0), .val (.ref a1), .val (.int p2), .val (.int (0 : Int32)), .val (.ref a1), .unset, .unset, .unset] [(.ref a1)])) (fun _ k => XS.aload X0.here hx rfl (hb hby d1_5) rfl rfl k) ?_
  have V1 := V_a
  obtain ⟨cl1, Ar1, q1, S1, Ng1, Hh1, G1⟩ := V1
  have hl1 := len_of S1 Ng1
  refine own_go (U' := s₁.setTop (mkF m 8 #[.val (.int p0), .val (.ref a1), .val (.int p2), .val (.int (0 : Int32)), .val (.ref a1), .unset, .unset, .unset] [(.int (4 : Int32))])) (fun _ k => X0.arraylength hx (by rw [e0]; exact Ar1.1) (State.isArrayOf_alike hZ.alike Ar1.2.1) (g := (mkF m 7 #[.val (.int p0), .val (.ref a1), .val (.int p2), .val (.int (0 : Int32)), .val (.ref a1), .unset, .unset, .unset] [(.ref a1)])) rfl rfl (hb hby d1_7) _ (by rw [hl1]; exact k)) ?_
  refine own_go (U' := s₁.setTop (mkF m 10 #[.val (.int p0), .val (.ref a1), .val (.int p2), .val (.int (0 : Int32)), .val (.ref a1), .val (.int (4 : Int32)), .unset, .unset] [])) (fun _ k => XS.istore X0.here hx rfl (hb hby d1_8) rfl (l' := #[.val (.int p0), .val (.ref a1), .val (.int p2), .val (.int (0 : Int32)), .val (.ref a1), .val (.int (4 : Int32)), .unset, .unset]) rfl k) ?_
  refine own_go (U' := s₁.setTop (mkF m 11 #[.val (.int p0), .val (.ref a1), .val (.int p2), .val (.int (0 : Int32)), .val (.ref a1), .val (.int (4 : Int32)), .unset, .unset] [(.int (0 : Int32))])) (fun _ k => XS.iconst X0.here hx rfl (hb hby d1_10) k) ?_
  refine own_go (U' := s₁.setTop (mkF m 13 #[.val (.int p0), .val (.ref a1), .val (.int p2), .val (.int (0 : Int32)), .val (.ref a1), .val (.int (4 : Int32)), .val (.int (0 : Int32)), .unset] [])) (fun _ k => XS.istore X0.here hx rfl (hb hby d1_11) rfl (l' := #[.val (.int p0), .val (.ref a1), .val (.int p2), .val (.int (0 : Int32)), .val (.ref a1), .val (.int (4 : Int32)), .val (.int (0 : Int32)), .unset]) rfl k) ?_
  refine own_go (U' := s₁.setTop (mkF m 15 #[.val (.int p0), .val (.ref a1), .val (.int p2), .val (.int (0 : Int32)), .val (.ref a1), .val (.int (4 : Int32)), .val (.int (0 : Int32)), .unset] [(.int (0 : Int32))])) (fun _ k => XS.iload X0.here hx rfl (hb hby d1_13) rfl k) ?_
  refine own_go (U' := s₁.setTop (mkF m 17 #[.val (.int p0), .val (.ref a1), .val (.int p2), .val (.int (0 : Int32)), .val (.ref a1), .val (.int (4 : Int32)), .val (.int (0 : Int32)), .unset] [(.int (4 : Int32)), (.int (0 : Int32))])) (fun _ k => XS.iload X0.here hx rfl (hb hby d1_15) rfl k) ?_
  refine own_go (U' := s₁.setTop (mkF m 20 #[.val (.int p0), .val (.ref a1), .val (.int p2), .val (.int (0 : Int32)), .val (.ref a1), .val (.int (4 : Int32)), .val (.int (0 : Int32)), .unset] [])) (fun _ k => XS.icmpNo X0.here hx rfl (hb hby d1_17) rfl (tlt (by decide : ((0 : Int32) < (4 : Int32)))).2.1 k) ?_
  refine own_go (U' := s₁.setTop (mkF m 22 #[.val (.int p0), .val (.ref a1), .val (.int p2), .val (.int (0 : Int32)), .val (.ref a1), .val (.int (4 : Int32)), .val (.int (0 : Int32)), .unset] [(.ref a1)])) (fun _ k => XS.aload X0.here hx rfl (hb hby d1_20) rfl rfl k) ?_
  refine own_go (U' := s₁.setTop (mkF m 24 #[.val (.int p0), .val (.ref a1), .val (.int p2), .val (.int (0 : Int32)), .val (.ref a1), .val (.int (4 : Int32)), .val (.int (0 : Int32)), .unset] [(.int (0 : Int32)), (.ref a1)])) (fun _ k => XS.iload X0.here hx rfl (hb hby d1_22) rfl k) ?_
  have V2 := V_a
  obtain ⟨cl2, Ar2, q2, S2, Ng2, Hh2, G2⟩ := V2
  have hj2 : ¬ (0 : Int32) < 0 ∧ (0 : Int32) < (4 : Int32) := ⟨by decide, by decide⟩
  have hat2 := own_at S2 Hh2 hj2 (i := 0) (v := (.int v0)) rfl rfl
  refine own_go (U' := s₁.setTop (mkF m 25 #[.val (.int p0), .val (.ref a1), .val (.int p2), .val (.int (0 : Int32)), .val (.ref a1), .val (.int (4 : Int32)), .val (.int (0 : Int32)), .unset] [(.int v0)])) (fun _ k => X0.baloadBooleans hx (j := (0 : Int32)) (v := (.int v0)) (by rw [e0]; exact Ar2.1) (State.isArrayOf_alike hZ.alike Ar2.2.1) Ar2.2.2 (inb_of S2 hj2) hat2 (g := (mkF m 24 #[.val (.int p0), .val (.ref a1), .val (.int p2), .val (.int (0 : Int32)), .val (.ref a1), .val (.int (4 : Int32)), .val (.int (0 : Int32)), .unset] [(.int (0 : Int32)), (.ref a1)])) rfl rfl (hb hby d1_24) _ k) ?_
  refine own_go (U' := s₁.setTop (mkF m 27 #[.val (.int p0), .val (.ref a1), .val (.int p2), .val (.int (0 : Int32)), .val (.ref a1), .val (.int (4 : Int32)), .val (.int (0 : Int32)), .val (.int v0)] [])) (fun _ k => XS.istore X0.here hx rfl (hb hby d1_25) rfl (l' := #[.val (.int p0), .val (.ref a1), .val (.int p2), .val (.int (0 : Int32)), .val (.ref a1), .val (.int (4 : Int32)), .val (.int (0 : Int32)), .val (.int v0)]) rfl k) ?_
  refine own_go (U' := s₁.setTop (mkF m 28 #[.val (.int p0), .val (.ref a1), .val (.int p2), .val (.int (0 : Int32)), .val (.ref a1), .val (.int (4 : Int32)), .val (.int (0 : Int32)), .val (.int v0)] [(.int (0 : Int32))])) (fun _ k => XS.iloadN X0.here hx rfl (hb hby d1_27) rfl k) ?_
  refine own_go (U' := s₁.setTop (mkF m 30 #[.val (.int p0), .val (.ref a1), .val (.int p2), .val (.int (0 : Int32)), .val (.ref a1), .val (.int (4 : Int32)), .val (.int (0 : Int32)), .val (.int v0)] [(.int v0), (.int (0 : Int32))])) (fun _ k => XS.iload X0.here hx rfl (hb hby d1_28) rfl k) ?_
  obtain ⟨z30, hz30⟩ : ∃ z : Int32, z = (if v0 = (0 : Int32) then (0 : Int32) else (1 : Int32)) := ⟨_, rfl⟩
  refine own_join (U' := s₁.setTop (mkF m 38 #[.val (.int p0), .val (.ref a1), .val (.int p2), .val (.int (0 : Int32)), .val (.ref a1), .val (.int (4 : Int32)), .val (.int (0 : Int32)), .val (.int v0)] [(.int z30), (.int (0 : Int32))])) (fun J30_3 => ?_) ?_
  · by_cases hc30_4 : v0 = (0 : Int32)
    · refine own_go (U' := s₁.setTop (mkF m 37 #[.val (.int p0), .val (.ref a1), .val (.int p2), .val (.int (0 : Int32)), .val (.ref a1), .val (.int (4 : Int32)), .val (.int (0 : Int32)), .val (.int v0)] [(.int (0 : Int32))])) (fun _ k => XS.ifYes X0.here hx rfl (pc0 := 30) (pc' := 37) rfl (hb hby d1_30) rfl ((if0 _ _).trans (teq hc30_4).1) (by decide) (by decide) k) ?_
      refine own_go (U' := s₁.setTop (mkF m 38 #[.val (.int p0), .val (.ref a1), .val (.int p2), .val (.int (0 : Int32)), .val (.ref a1), .val (.int (4 : Int32)), .val (.int (0 : Int32)), .val (.int v0)] [(.int (0 : Int32)), (.int (0 : Int32))])) (fun _ k => XS.iconst X0.here hx rfl (hb hby d1_37) k) ?_
      simp only [if_pos hc30_4] at hz30
      subst hz30
      exact J30_3
    · refine own_go (U' := s₁.setTop (mkF m 33 #[.val (.int p0), .val (.ref a1), .val (.int p2), .val (.int (0 : Int32)), .val (.ref a1), .val (.int (4 : Int32)), .val (.int (0 : Int32)), .val (.int v0)] [(.int (0 : Int32))])) (fun _ k => XS.ifNo X0.here hx rfl (hb hby d1_30) rfl ((if0 _ _).trans (feq hc30_4).1) k) ?_
      refine own_go (U' := s₁.setTop (mkF m 34 #[.val (.int p0), .val (.ref a1), .val (.int p2), .val (.int (0 : Int32)), .val (.ref a1), .val (.int (4 : Int32)), .val (.int (0 : Int32)), .val (.int v0)] [(.int (1 : Int32)), (.int (0 : Int32))])) (fun _ k => XS.iconst X0.here hx rfl (hb hby d1_33) k) ?_
      refine own_go (U' := s₁.setTop (mkF m 38 #[.val (.int p0), .val (.ref a1), .val (.int p2), .val (.int (0 : Int32)), .val (.ref a1), .val (.int (4 : Int32)), .val (.int (0 : Int32)), .val (.int v0)] [(.int (1 : Int32)), (.int (0 : Int32))])) (fun _ k => XS.goto X0.here hx rfl (pc0 := 34) (pc' := 38) rfl (hb hby d1_34) (by decide) (by decide) k) ?_
      simp only [if_neg hc30_4] at hz30
      subst hz30
      exact J30_3
  · refine own_go (U' := s₁.setTop (mkF m 39 #[.val (.int p0), .val (.ref a1), .val (.int p2), .val (.int (0 : Int32)), .val (.ref a1), .val (.int (4 : Int32)), .val (.int (0 : Int32)), .val (.int v0)] [(.int ((0 : Int32) + z30))])) (fun _ k => XS.iadd X0.here hx rfl (hb hby d1_38) rfl k) ?_
    generalize hy39 : ((0 : Int32) + z30) = y39
    refine own_go (U' := s₁.setTop (mkF m 40 #[.val (.int p0), .val (.ref a1), .val (.int p2), .val (.int y39), .val (.ref a1), .val (.int (4 : Int32)), .val (.int (0 : Int32)), .val (.int v0)] [])) (fun _ k => XS.istoreN X0.here hx rfl (hb hby d1_39) rfl (l' := #[.val (.int p0), .val (.ref a1), .val (.int p2), .val (.int y39), .val (.ref a1), .val (.int (4 : Int32)), .val (.int (0 : Int32)), .val (.int v0)]) rfl k) ?_
    refine own_go (U' := s₁.setTop (mkF m 43 #[.val (.int p0), .val (.ref a1), .val (.int p2), .val (.int y39), .val (.ref a1), .val (.int (4 : Int32)), .val (.int (1 : Int32)), .val (.int v0)] [])) (fun _ k => XS.iinc X0.here hx rfl (hb hby d1_40) rfl (l' := #[.val (.int p0), .val (.ref a1), .val (.int p2), .val (.int y39), .val (.ref a1), .val (.int (4 : Int32)), .val (.int (1 : Int32)), .val (.int v0)]) rfl k) ?_
    refine own_go (U' := s₁.setTop (mkF m 13 #[.val (.int p0), .val (.ref a1), .val (.int p2), .val (.int y39), .val (.ref a1), .val (.int (4 : Int32)), .val (.int (1 : Int32)), .val (.int v0)] [])) (fun _ k => XS.goto X0.here hx rfl (pc0 := 43) (pc' := 13) rfl (hb hby d1_43) (by decide) (by decide) k) ?_
    refine own_go (U' := s₁.setTop (mkF m 15 #[.val (.int p0), .val (.ref a1), .val (.int p2), .val (.int y39), .val (.ref a1), .val (.int (4 : Int32)), .val (.int (1 : Int32)), .val (.int v0)] [(.int (1 : Int32))])) (fun _ k => XS.iload X0.here hx rfl (hb hby d1_13) rfl k) ?_
    refine own_go (U' := s₁.setTop (mkF m 17 #[.val (.int p0), .val (.ref a1), .val (.int p2), .val (.int y39), .val (.ref a1), .val (.int (4 : Int32)), .val (.int (1 : Int32)), .val (.int v0)] [(.int (4 : Int32)), (.int (1 : Int32))])) (fun _ k => XS.iload X0.here hx rfl (hb hby d1_15) rfl k) ?_
    refine own_go (U' := s₁.setTop (mkF m 20 #[.val (.int p0), .val (.ref a1), .val (.int p2), .val (.int y39), .val (.ref a1), .val (.int (4 : Int32)), .val (.int (1 : Int32)), .val (.int v0)] [])) (fun _ k => XS.icmpNo X0.here hx rfl (hb hby d1_17) rfl (tlt (by decide : ((1 : Int32) < (4 : Int32)))).2.1 k) ?_
    refine own_go (U' := s₁.setTop (mkF m 22 #[.val (.int p0), .val (.ref a1), .val (.int p2), .val (.int y39), .val (.ref a1), .val (.int (4 : Int32)), .val (.int (1 : Int32)), .val (.int v0)] [(.ref a1)])) (fun _ k => XS.aload X0.here hx rfl (hb hby d1_20) rfl rfl k) ?_
    refine own_go (U' := s₁.setTop (mkF m 24 #[.val (.int p0), .val (.ref a1), .val (.int p2), .val (.int y39), .val (.ref a1), .val (.int (4 : Int32)), .val (.int (1 : Int32)), .val (.int v0)] [(.int (1 : Int32)), (.ref a1)])) (fun _ k => XS.iload X0.here hx rfl (hb hby d1_22) rfl k) ?_
    have V5 := V_a
    obtain ⟨cl5, Ar5, q5, S5, Ng5, Hh5, G5⟩ := V5
    have hj5 : ¬ (1 : Int32) < 0 ∧ (1 : Int32) < (4 : Int32) := ⟨by decide, by decide⟩
    have hat5 := own_at S5 Hh5 hj5 (i := 1) (v := (.int v1)) rfl rfl
    refine own_go (U' := s₁.setTop (mkF m 25 #[.val (.int p0), .val (.ref a1), .val (.int p2), .val (.int y39), .val (.ref a1), .val (.int (4 : Int32)), .val (.int (1 : Int32)), .val (.int v0)] [(.int v1)])) (fun _ k => X0.baloadBooleans hx (j := (1 : Int32)) (v := (.int v1)) (by rw [e0]; exact Ar5.1) (State.isArrayOf_alike hZ.alike Ar5.2.1) Ar5.2.2 (inb_of S5 hj5) hat5 (g := (mkF m 24 #[.val (.int p0), .val (.ref a1), .val (.int p2), .val (.int y39), .val (.ref a1), .val (.int (4 : Int32)), .val (.int (1 : Int32)), .val (.int v0)] [(.int (1 : Int32)), (.ref a1)])) rfl rfl (hb hby d1_24) _ k) ?_
    refine own_go (U' := s₁.setTop (mkF m 27 #[.val (.int p0), .val (.ref a1), .val (.int p2), .val (.int y39), .val (.ref a1), .val (.int (4 : Int32)), .val (.int (1 : Int32)), .val (.int v1)] [])) (fun _ k => XS.istore X0.here hx rfl (hb hby d1_25) rfl (l' := #[.val (.int p0), .val (.ref a1), .val (.int p2), .val (.int y39), .val (.ref a1), .val (.int (4 : Int32)), .val (.int (1 : Int32)), .val (.int v1)]) rfl k) ?_
    refine own_go (U' := s₁.setTop (mkF m 28 #[.val (.int p0), .val (.ref a1), .val (.int p2), .val (.int y39), .val (.ref a1), .val (.int (4 : Int32)), .val (.int (1 : Int32)), .val (.int v1)] [(.int y39)])) (fun _ k => XS.iloadN X0.here hx rfl (hb hby d1_27) rfl k) ?_
    refine own_go (U' := s₁.setTop (mkF m 30 #[.val (.int p0), .val (.ref a1), .val (.int p2), .val (.int y39), .val (.ref a1), .val (.int (4 : Int32)), .val (.int (1 : Int32)), .val (.int v1)] [(.int v1), (.int y39)])) (fun _ k => XS.iload X0.here hx rfl (hb hby d1_28) rfl k) ?_
    obtain ⟨z30_6, hz30_6⟩ : ∃ z : Int32, z = (if v1 = (0 : Int32) then (0 : Int32) else (1 : Int32)) := ⟨_, rfl⟩
    refine own_join (U' := s₁.setTop (mkF m 38 #[.val (.int p0), .val (.ref a1), .val (.int p2), .val (.int y39), .val (.ref a1), .val (.int (4 : Int32)), .val (.int (1 : Int32)), .val (.int v1)] [(.int z30_6), (.int y39)])) (fun J30_7 => ?_) ?_
    · by_cases hc30_8 : v1 = (0 : Int32)
      · refine own_go (U' := s₁.setTop (mkF m 37 #[.val (.int p0), .val (.ref a1), .val (.int p2), .val (.int y39), .val (.ref a1), .val (.int (4 : Int32)), .val (.int (1 : Int32)), .val (.int v1)] [(.int y39)])) (fun _ k => XS.ifYes X0.here hx rfl (pc0 := 30) (pc' := 37) rfl (hb hby d1_30) rfl ((if0 _ _).trans (teq hc30_8).1) (by decide) (by decide) k) ?_
        refine own_go (U' := s₁.setTop (mkF m 38 #[.val (.int p0), .val (.ref a1), .val (.int p2), .val (.int y39), .val (.ref a1), .val (.int (4 : Int32)), .val (.int (1 : Int32)), .val (.int v1)] [(.int (0 : Int32)), (.int y39)])) (fun _ k => XS.iconst X0.here hx rfl (hb hby d1_37) k) ?_
        simp only [if_pos hc30_8] at hz30_6
        subst hz30_6
        exact J30_7
      · refine own_go (U' := s₁.setTop (mkF m 33 #[.val (.int p0), .val (.ref a1), .val (.int p2), .val (.int y39), .val (.ref a1), .val (.int (4 : Int32)), .val (.int (1 : Int32)), .val (.int v1)] [(.int y39)])) (fun _ k => XS.ifNo X0.here hx rfl (hb hby d1_30) rfl ((if0 _ _).trans (feq hc30_8).1) k) ?_
        refine own_go (U' := s₁.setTop (mkF m 34 #[.val (.int p0), .val (.ref a1), .val (.int p2), .val (.int y39), .val (.ref a1), .val (.int (4 : Int32)), .val (.int (1 : Int32)), .val (.int v1)] [(.int (1 : Int32)), (.int y39)])) (fun _ k => XS.iconst X0.here hx rfl (hb hby d1_33) k) ?_
        refine own_go (U' := s₁.setTop (mkF m 38 #[.val (.int p0), .val (.ref a1), .val (.int p2), .val (.int y39), .val (.ref a1), .val (.int (4 : Int32)), .val (.int (1 : Int32)), .val (.int v1)] [(.int (1 : Int32)), (.int y39)])) (fun _ k => XS.goto X0.here hx rfl (pc0 := 34) (pc' := 38) rfl (hb hby d1_34) (by decide) (by decide) k) ?_
        simp only [if_neg hc30_8] at hz30_6
        subst hz30_6
        exact J30_7
    · refine own_go (U' := s₁.setTop (mkF m 39 #[.val (.int p0), .val (.ref a1), .val (.int p2), .val (.int y39), .val (.ref a1), .val (.int (4 : Int32)), .val (.int (1 : Int32)), .val (.int v1)] [(.int (y39 + z30_6))])) (fun _ k => XS.iadd X0.here hx rfl (hb hby d1_38) rfl k) ?_
      generalize hy39_9 : (y39 + z30_6) = y39_9
      refine own_go (U' := s₁.setTop (mkF m 40 #[.val (.int p0), .val (.ref a1), .val (.int p2), .val (.int y39_9), .val (.ref a1), .val (.int (4 : Int32)), .val (.int (1 : Int32)), .val (.int v1)] [])) (fun _ k => XS.istoreN X0.here hx rfl (hb hby d1_39) rfl (l' := #[.val (.int p0), .val (.ref a1), .val (.int p2), .val (.int y39_9), .val (.ref a1), .val (.int (4 : Int32)), .val (.int (1 : Int32)), .val (.int v1)]) rfl k) ?_
      refine own_go (U' := s₁.setTop (mkF m 43 #[.val (.int p0), .val (.ref a1), .val (.int p2), .val (.int y39_9), .val (.ref a1), .val (.int (4 : Int32)), .val (.int (2 : Int32)), .val (.int v1)] [])) (fun _ k => XS.iinc X0.here hx rfl (hb hby d1_40) rfl (l' := #[.val (.int p0), .val (.ref a1), .val (.int p2), .val (.int y39_9), .val (.ref a1), .val (.int (4 : Int32)), .val (.int (2 : Int32)), .val (.int v1)]) rfl k) ?_
      refine own_go (U' := s₁.setTop (mkF m 13 #[.val (.int p0), .val (.ref a1), .val (.int p2), .val (.int y39_9), .val (.ref a1), .val (.int (4 : Int32)), .val (.int (2 : Int32)), .val (.int v1)] [])) (fun _ k => XS.goto X0.here hx rfl (pc0 := 43) (pc' := 13) rfl (hb hby d1_43) (by decide) (by decide) k) ?_
      refine own_go (U' := s₁.setTop (mkF m 15 #[.val (.int p0), .val (.ref a1), .val (.int p2), .val (.int y39_9), .val (.ref a1), .val (.int (4 : Int32)), .val (.int (2 : Int32)), .val (.int v1)] [(.int (2 : Int32))])) (fun _ k => XS.iload X0.here hx rfl (hb hby d1_13) rfl k) ?_
      refine own_go (U' := s₁.setTop (mkF m 17 #[.val (.int p0), .val (.ref a1), .val (.int p2), .val (.int y39_9), .val (.ref a1), .val (.int (4 : Int32)), .val (.int (2 : Int32)), .val (.int v1)] [(.int (4 : Int32)), (.int (2 : Int32))])) (fun _ k => XS.iload X0.here hx rfl (hb hby d1_15) rfl k) ?_
      refine own_go (U' := s₁.setTop (mkF m 20 #[.val (.int p0), .val (.ref a1), .val (.int p2), .val (.int y39_9), .val (.ref a1), .val (.int (4 : Int32)), .val (.int (2 : Int32)), .val (.int v1)] [])) (fun _ k => XS.icmpNo X0.here hx rfl (hb hby d1_17) rfl (tlt (by decide : ((2 : Int32) < (4 : Int32)))).2.1 k) ?_
      refine own_go (U' := s₁.setTop (mkF m 22 #[.val (.int p0), .val (.ref a1), .val (.int p2), .val (.int y39_9), .val (.ref a1), .val (.int (4 : Int32)), .val (.int (2 : Int32)), .val (.int v1)] [(.ref a1)])) (fun _ k => XS.aload X0.here hx rfl (hb hby d1_20) rfl rfl k) ?_
      refine own_go (U' := s₁.setTop (mkF m 24 #[.val (.int p0), .val (.ref a1), .val (.int p2), .val (.int y39_9), .val (.ref a1), .val (.int (4 : Int32)), .val (.int (2 : Int32)), .val (.int v1)] [(.int (2 : Int32)), (.ref a1)])) (fun _ k => XS.iload X0.here hx rfl (hb hby d1_22) rfl k) ?_
      have V10 := V_a
      obtain ⟨cl10, Ar10, q10, S10, Ng10, Hh10, G10⟩ := V10
      have hj10 : ¬ (2 : Int32) < 0 ∧ (2 : Int32) < (4 : Int32) := ⟨by decide, by decide⟩
      have hat10 := own_at S10 Hh10 hj10 (i := 2) (v := (.int v2)) rfl rfl
      refine own_go (U' := s₁.setTop (mkF m 25 #[.val (.int p0), .val (.ref a1), .val (.int p2), .val (.int y39_9), .val (.ref a1), .val (.int (4 : Int32)), .val (.int (2 : Int32)), .val (.int v1)] [(.int v2)])) (fun _ k => X0.baloadBooleans hx (j := (2 : Int32)) (v := (.int v2)) (by rw [e0]; exact Ar10.1) (State.isArrayOf_alike hZ.alike Ar10.2.1) Ar10.2.2 (inb_of S10 hj10) hat10 (g := (mkF m 24 #[.val (.int p0), .val (.ref a1), .val (.int p2), .val (.int y39_9), .val (.ref a1), .val (.int (4 : Int32)), .val (.int (2 : Int32)), .val (.int v1)] [(.int (2 : Int32)), (.ref a1)])) rfl rfl (hb hby d1_24) _ k) ?_
      refine own_go (U' := s₁.setTop (mkF m 27 #[.val (.int p0), .val (.ref a1), .val (.int p2), .val (.int y39_9), .val (.ref a1), .val (.int (4 : Int32)), .val (.int (2 : Int32)), .val (.int v2)] [])) (fun _ k => XS.istore X0.here hx rfl (hb hby d1_25) rfl (l' := #[.val (.int p0), .val (.ref a1), .val (.int p2), .val (.int y39_9), .val (.ref a1), .val (.int (4 : Int32)), .val (.int (2 : Int32)), .val (.int v2)]) rfl k) ?_
      refine own_go (U' := s₁.setTop (mkF m 28 #[.val (.int p0), .val (.ref a1), .val (.int p2), .val (.int y39_9), .val (.ref a1), .val (.int (4 : Int32)), .val (.int (2 : Int32)), .val (.int v2)] [(.int y39_9)])) (fun _ k => XS.iloadN X0.here hx rfl (hb hby d1_27) rfl k) ?_
      refine own_go (U' := s₁.setTop (mkF m 30 #[.val (.int p0), .val (.ref a1), .val (.int p2), .val (.int y39_9), .val (.ref a1), .val (.int (4 : Int32)), .val (.int (2 : Int32)), .val (.int v2)] [(.int v2), (.int y39_9)])) (fun _ k => XS.iload X0.here hx rfl (hb hby d1_28) rfl k) ?_
      obtain ⟨z30_11, hz30_11⟩ : ∃ z : Int32, z = (if v2 = (0 : Int32) then (0 : Int32) else (1 : Int32)) := ⟨_, rfl⟩
      refine own_join (U' := s₁.setTop (mkF m 38 #[.val (.int p0), .val (.ref a1), .val (.int p2), .val (.int y39_9), .val (.ref a1), .val (.int (4 : Int32)), .val (.int (2 : Int32)), .val (.int v2)] [(.int z30_11), (.int y39_9)])) (fun J30_12 => ?_) ?_
      · by_cases hc30_13 : v2 = (0 : Int32)
        · refine own_go (U' := s₁.setTop (mkF m 37 #[.val (.int p0), .val (.ref a1), .val (.int p2), .val (.int y39_9), .val (.ref a1), .val (.int (4 : Int32)), .val (.int (2 : Int32)), .val (.int v2)] [(.int y39_9)])) (fun _ k => XS.ifYes X0.here hx rfl (pc0 := 30) (pc' := 37) rfl (hb hby d1_30) rfl ((if0 _ _).trans (teq hc30_13).1) (by decide) (by decide) k) ?_
          refine own_go (U' := s₁.setTop (mkF m 38 #[.val (.int p0), .val (.ref a1), .val (.int p2), .val (.int y39_9), .val (.ref a1), .val (.int (4 : Int32)), .val (.int (2 : Int32)), .val (.int v2)] [(.int (0 : Int32)), (.int y39_9)])) (fun _ k => XS.iconst X0.here hx rfl (hb hby d1_37) k) ?_
          simp only [if_pos hc30_13] at hz30_11
          subst hz30_11
          exact J30_12
        · refine own_go (U' := s₁.setTop (mkF m 33 #[.val (.int p0), .val (.ref a1), .val (.int p2), .val (.int y39_9), .val (.ref a1), .val (.int (4 : Int32)), .val (.int (2 : Int32)), .val (.int v2)] [(.int y39_9)])) (fun _ k => XS.ifNo X0.here hx rfl (hb hby d1_30) rfl ((if0 _ _).trans (feq hc30_13).1) k) ?_
          refine own_go (U' := s₁.setTop (mkF m 34 #[.val (.int p0), .val (.ref a1), .val (.int p2), .val (.int y39_9), .val (.ref a1), .val (.int (4 : Int32)), .val (.int (2 : Int32)), .val (.int v2)] [(.int (1 : Int32)), (.int y39_9)])) (fun _ k => XS.iconst X0.here hx rfl (hb hby d1_33) k) ?_
          refine own_go (U' := s₁.setTop (mkF m 38 #[.val (.int p0), .val (.ref a1), .val (.int p2), .val (.int y39_9), .val (.ref a1), .val (.int (4 : Int32)), .val (.int (2 : Int32)), .val (.int v2)] [(.int (1 : Int32)), (.int y39_9)])) (fun _ k => XS.goto X0.here hx rfl (pc0 := 34) (pc' := 38) rfl (hb hby d1_34) (by decide) (by decide) k) ?_
          simp only [if_neg hc30_13] at hz30_11
          subst hz30_11
          exact J30_12
      · refine own_go (U' := s₁.setTop (mkF m 39 #[.val (.int p0), .val (.ref a1), .val (.int p2), .val (.int y39_9), .val (.ref a1), .val (.int (4 : Int32)), .val (.int (2 : Int32)), .val (.int v2)] [(.int (y39_9 + z30_11))])) (fun _ k => XS.iadd X0.here hx rfl (hb hby d1_38) rfl k) ?_
        generalize hy39_14 : (y39_9 + z30_11) = y39_14
        refine own_go (U' := s₁.setTop (mkF m 40 #[.val (.int p0), .val (.ref a1), .val (.int p2), .val (.int y39_14), .val (.ref a1), .val (.int (4 : Int32)), .val (.int (2 : Int32)), .val (.int v2)] [])) (fun _ k => XS.istoreN X0.here hx rfl (hb hby d1_39) rfl (l' := #[.val (.int p0), .val (.ref a1), .val (.int p2), .val (.int y39_14), .val (.ref a1), .val (.int (4 : Int32)), .val (.int (2 : Int32)), .val (.int v2)]) rfl k) ?_
        refine own_go (U' := s₁.setTop (mkF m 43 #[.val (.int p0), .val (.ref a1), .val (.int p2), .val (.int y39_14), .val (.ref a1), .val (.int (4 : Int32)), .val (.int (3 : Int32)), .val (.int v2)] [])) (fun _ k => XS.iinc X0.here hx rfl (hb hby d1_40) rfl (l' := #[.val (.int p0), .val (.ref a1), .val (.int p2), .val (.int y39_14), .val (.ref a1), .val (.int (4 : Int32)), .val (.int (3 : Int32)), .val (.int v2)]) rfl k) ?_
        refine own_go (U' := s₁.setTop (mkF m 13 #[.val (.int p0), .val (.ref a1), .val (.int p2), .val (.int y39_14), .val (.ref a1), .val (.int (4 : Int32)), .val (.int (3 : Int32)), .val (.int v2)] [])) (fun _ k => XS.goto X0.here hx rfl (pc0 := 43) (pc' := 13) rfl (hb hby d1_43) (by decide) (by decide) k) ?_
        refine own_go (U' := s₁.setTop (mkF m 15 #[.val (.int p0), .val (.ref a1), .val (.int p2), .val (.int y39_14), .val (.ref a1), .val (.int (4 : Int32)), .val (.int (3 : Int32)), .val (.int v2)] [(.int (3 : Int32))])) (fun _ k => XS.iload X0.here hx rfl (hb hby d1_13) rfl k) ?_
        refine own_go (U' := s₁.setTop (mkF m 17 #[.val (.int p0), .val (.ref a1), .val (.int p2), .val (.int y39_14), .val (.ref a1), .val (.int (4 : Int32)), .val (.int (3 : Int32)), .val (.int v2)] [(.int (4 : Int32)), (.int (3 : Int32))])) (fun _ k => XS.iload X0.here hx rfl (hb hby d1_15) rfl k) ?_
        refine own_go (U' := s₁.setTop (mkF m 20 #[.val (.int p0), .val (.ref a1), .val (.int p2), .val (.int y39_14), .val (.ref a1), .val (.int (4 : Int32)), .val (.int (3 : Int32)), .val (.int v2)] [])) (fun _ k => XS.icmpNo X0.here hx rfl (hb hby d1_17) rfl (tlt (by decide : ((3 : Int32) < (4 : Int32)))).2.1 k) ?_
        refine own_go (U' := s₁.setTop (mkF m 22 #[.val (.int p0), .val (.ref a1), .val (.int p2), .val (.int y39_14), .val (.ref a1), .val (.int (4 : Int32)), .val (.int (3 : Int32)), .val (.int v2)] [(.ref a1)])) (fun _ k => XS.aload X0.here hx rfl (hb hby d1_20) rfl rfl k) ?_
        refine own_go (U' := s₁.setTop (mkF m 24 #[.val (.int p0), .val (.ref a1), .val (.int p2), .val (.int y39_14), .val (.ref a1), .val (.int (4 : Int32)), .val (.int (3 : Int32)), .val (.int v2)] [(.int (3 : Int32)), (.ref a1)])) (fun _ k => XS.iload X0.here hx rfl (hb hby d1_22) rfl k) ?_
        have V15 := V_a
        obtain ⟨cl15, Ar15, q15, S15, Ng15, Hh15, G15⟩ := V15
        have hj15 : ¬ (3 : Int32) < 0 ∧ (3 : Int32) < (4 : Int32) := ⟨by decide, by decide⟩
        have hat15 := own_at S15 Hh15 hj15 (i := 3) (v := (.int v3)) rfl rfl
        refine own_go (U' := s₁.setTop (mkF m 25 #[.val (.int p0), .val (.ref a1), .val (.int p2), .val (.int y39_14), .val (.ref a1), .val (.int (4 : Int32)), .val (.int (3 : Int32)), .val (.int v2)] [(.int v3)])) (fun _ k => X0.baloadBooleans hx (j := (3 : Int32)) (v := (.int v3)) (by rw [e0]; exact Ar15.1) (State.isArrayOf_alike hZ.alike Ar15.2.1) Ar15.2.2 (inb_of S15 hj15) hat15 (g := (mkF m 24 #[.val (.int p0), .val (.ref a1), .val (.int p2), .val (.int y39_14), .val (.ref a1), .val (.int (4 : Int32)), .val (.int (3 : Int32)), .val (.int v2)] [(.int (3 : Int32)), (.ref a1)])) rfl rfl (hb hby d1_24) _ k) ?_
        refine own_go (U' := s₁.setTop (mkF m 27 #[.val (.int p0), .val (.ref a1), .val (.int p2), .val (.int y39_14), .val (.ref a1), .val (.int (4 : Int32)), .val (.int (3 : Int32)), .val (.int v3)] [])) (fun _ k => XS.istore X0.here hx rfl (hb hby d1_25) rfl (l' := #[.val (.int p0), .val (.ref a1), .val (.int p2), .val (.int y39_14), .val (.ref a1), .val (.int (4 : Int32)), .val (.int (3 : Int32)), .val (.int v3)]) rfl k) ?_
        refine own_go (U' := s₁.setTop (mkF m 28 #[.val (.int p0), .val (.ref a1), .val (.int p2), .val (.int y39_14), .val (.ref a1), .val (.int (4 : Int32)), .val (.int (3 : Int32)), .val (.int v3)] [(.int y39_14)])) (fun _ k => XS.iloadN X0.here hx rfl (hb hby d1_27) rfl k) ?_
        refine own_go (U' := s₁.setTop (mkF m 30 #[.val (.int p0), .val (.ref a1), .val (.int p2), .val (.int y39_14), .val (.ref a1), .val (.int (4 : Int32)), .val (.int (3 : Int32)), .val (.int v3)] [(.int v3), (.int y39_14)])) (fun _ k => XS.iload X0.here hx rfl (hb hby d1_28) rfl k) ?_
        obtain ⟨z30_16, hz30_16⟩ : ∃ z : Int32, z = (if v3 = (0 : Int32) then (0 : Int32) else (1 : Int32)) := ⟨_, rfl⟩
        refine own_join (U' := s₁.setTop (mkF m 38 #[.val (.int p0), .val (.ref a1), .val (.int p2), .val (.int y39_14), .val (.ref a1), .val (.int (4 : Int32)), .val (.int (3 : Int32)), .val (.int v3)] [(.int z30_16), (.int y39_14)])) (fun J30_17 => ?_) ?_
        · by_cases hc30_18 : v3 = (0 : Int32)
          · refine own_go (U' := s₁.setTop (mkF m 37 #[.val (.int p0), .val (.ref a1), .val (.int p2), .val (.int y39_14), .val (.ref a1), .val (.int (4 : Int32)), .val (.int (3 : Int32)), .val (.int v3)] [(.int y39_14)])) (fun _ k => XS.ifYes X0.here hx rfl (pc0 := 30) (pc' := 37) rfl (hb hby d1_30) rfl ((if0 _ _).trans (teq hc30_18).1) (by decide) (by decide) k) ?_
            refine own_go (U' := s₁.setTop (mkF m 38 #[.val (.int p0), .val (.ref a1), .val (.int p2), .val (.int y39_14), .val (.ref a1), .val (.int (4 : Int32)), .val (.int (3 : Int32)), .val (.int v3)] [(.int (0 : Int32)), (.int y39_14)])) (fun _ k => XS.iconst X0.here hx rfl (hb hby d1_37) k) ?_
            simp only [if_pos hc30_18] at hz30_16
            subst hz30_16
            exact J30_17
          · refine own_go (U' := s₁.setTop (mkF m 33 #[.val (.int p0), .val (.ref a1), .val (.int p2), .val (.int y39_14), .val (.ref a1), .val (.int (4 : Int32)), .val (.int (3 : Int32)), .val (.int v3)] [(.int y39_14)])) (fun _ k => XS.ifNo X0.here hx rfl (hb hby d1_30) rfl ((if0 _ _).trans (feq hc30_18).1) k) ?_
            refine own_go (U' := s₁.setTop (mkF m 34 #[.val (.int p0), .val (.ref a1), .val (.int p2), .val (.int y39_14), .val (.ref a1), .val (.int (4 : Int32)), .val (.int (3 : Int32)), .val (.int v3)] [(.int (1 : Int32)), (.int y39_14)])) (fun _ k => XS.iconst X0.here hx rfl (hb hby d1_33) k) ?_
            refine own_go (U' := s₁.setTop (mkF m 38 #[.val (.int p0), .val (.ref a1), .val (.int p2), .val (.int y39_14), .val (.ref a1), .val (.int (4 : Int32)), .val (.int (3 : Int32)), .val (.int v3)] [(.int (1 : Int32)), (.int y39_14)])) (fun _ k => XS.goto X0.here hx rfl (pc0 := 34) (pc' := 38) rfl (hb hby d1_34) (by decide) (by decide) k) ?_
            simp only [if_neg hc30_18] at hz30_16
            subst hz30_16
            exact J30_17
        · refine own_go (U' := s₁.setTop (mkF m 39 #[.val (.int p0), .val (.ref a1), .val (.int p2), .val (.int y39_14), .val (.ref a1), .val (.int (4 : Int32)), .val (.int (3 : Int32)), .val (.int v3)] [(.int (y39_14 + z30_16))])) (fun _ k => XS.iadd X0.here hx rfl (hb hby d1_38) rfl k) ?_
          generalize hy39_19 : (y39_14 + z30_16) = y39_19
          refine own_go (U' := s₁.setTop (mkF m 40 #[.val (.int p0), .val (.ref a1), .val (.int p2), .val (.int y39_19), .val (.ref a1), .val (.int (4 : Int32)), .val (.int (3 : Int32)), .val (.int v3)] [])) (fun _ k => XS.istoreN X0.here hx rfl (hb hby d1_39) rfl (l' := #[.val (.int p0), .val (.ref a1), .val (.int p2), .val (.int y39_19), .val (.ref a1), .val (.int (4 : Int32)), .val (.int (3 : Int32)), .val (.int v3)]) rfl k) ?_
          refine own_go (U' := s₁.setTop (mkF m 43 #[.val (.int p0), .val (.ref a1), .val (.int p2), .val (.int y39_19), .val (.ref a1), .val (.int (4 : Int32)), .val (.int (4 : Int32)), .val (.int v3)] [])) (fun _ k => XS.iinc X0.here hx rfl (hb hby d1_40) rfl (l' := #[.val (.int p0), .val (.ref a1), .val (.int p2), .val (.int y39_19), .val (.ref a1), .val (.int (4 : Int32)), .val (.int (4 : Int32)), .val (.int v3)]) rfl k) ?_
          refine own_go (U' := s₁.setTop (mkF m 13 #[.val (.int p0), .val (.ref a1), .val (.int p2), .val (.int y39_19), .val (.ref a1), .val (.int (4 : Int32)), .val (.int (4 : Int32)), .val (.int v3)] [])) (fun _ k => XS.goto X0.here hx rfl (pc0 := 43) (pc' := 13) rfl (hb hby d1_43) (by decide) (by decide) k) ?_
          refine own_go (U' := s₁.setTop (mkF m 15 #[.val (.int p0), .val (.ref a1), .val (.int p2), .val (.int y39_19), .val (.ref a1), .val (.int (4 : Int32)), .val (.int (4 : Int32)), .val (.int v3)] [(.int (4 : Int32))])) (fun _ k => XS.iload X0.here hx rfl (hb hby d1_13) rfl k) ?_
          refine own_go (U' := s₁.setTop (mkF m 17 #[.val (.int p0), .val (.ref a1), .val (.int p2), .val (.int y39_19), .val (.ref a1), .val (.int (4 : Int32)), .val (.int (4 : Int32)), .val (.int v3)] [(.int (4 : Int32)), (.int (4 : Int32))])) (fun _ k => XS.iload X0.here hx rfl (hb hby d1_15) rfl k) ?_
          refine own_go (U' := s₁.setTop (mkF m 46 #[.val (.int p0), .val (.ref a1), .val (.int p2), .val (.int y39_19), .val (.ref a1), .val (.int (4 : Int32)), .val (.int (4 : Int32)), .val (.int v3)] [])) (fun _ k => XS.icmpYes X0.here hx rfl (pc0 := 17) (pc' := 46) rfl (hb hby d1_17) rfl (flt (by decide : ¬ ((4 : Int32) < (4 : Int32)))).2.1 (by decide) (by decide) k) ?_
          refine own_go (U' := s₁.setTop (mkF m 47 #[.val (.int p0), .val (.ref a1), .val (.int p2), .val (.int y39_19), .val (.ref a1), .val (.int (4 : Int32)), .val (.int (4 : Int32)), .val (.int v3)] [(.int p0)])) (fun _ k => XS.iloadN X0.here hx rfl (hb hby d1_46) rfl k) ?_
          by_cases hc47_20 : (0 : Int32) < p0
          · refine own_go (U' := s₁.setTop (mkF m 50 #[.val (.int p0), .val (.ref a1), .val (.int p2), .val (.int y39_19), .val (.ref a1), .val (.int (4 : Int32)), .val (.int (4 : Int32)), .val (.int v3)] [])) (fun _ k => XS.ifNo X0.here hx rfl (hb hby d1_47) rfl ((if0 _ _).trans (tlt hc47_20).2.2.2) k) ?_
            refine own_go (U' := s₁.setTop (mkF m 51 #[.val (.int p0), .val (.ref a1), .val (.int p2), .val (.int y39_19), .val (.ref a1), .val (.int (4 : Int32)), .val (.int (4 : Int32)), .val (.int v3)] [(.int y39_19)])) (fun _ k => XS.iloadN X0.here hx rfl (hb hby d1_50) rfl k) ?_
            refine own_go (U' := s₁.setTop (mkF m 52 #[.val (.int p0), .val (.ref a1), .val (.int p2), .val (.int y39_19), .val (.ref a1), .val (.int (4 : Int32)), .val (.int (4 : Int32)), .val (.int v3)] [(.int (1 : Int32)), (.int y39_19)])) (fun _ k => XS.iconst X0.here hx rfl (hb hby d1_51) k) ?_
            by_cases hc52_21 : y39_19 = (1 : Int32)
            · refine own_go (U' := s₁.setTop (mkF m 55 #[.val (.int p0), .val (.ref a1), .val (.int p2), .val (.int y39_19), .val (.ref a1), .val (.int (4 : Int32)), .val (.int (4 : Int32)), .val (.int v3)] [])) (fun _ k => XS.icmpNo X0.here hx rfl (hb hby d1_52) rfl (teq hc52_21).2 k) ?_
              refine own_go (U' := s₁.setTop (mkF m 56 #[.val (.int p0), .val (.ref a1), .val (.int p2), .val (.int y39_19), .val (.ref a1), .val (.int (4 : Int32)), .val (.int (4 : Int32)), .val (.int v3)] [(.ref a1)])) (fun _ k => XS.aloadN X0.here hx rfl (hb hby d1_55) rfl rfl k) ?_
              refine own_go (U' := s₁.setTop (mkF m 57 #[.val (.int p0), .val (.ref a1), .val (.int p2), .val (.int y39_19), .val (.ref a1), .val (.int (4 : Int32)), .val (.int (4 : Int32)), .val (.int v3)] [(.int p2), (.ref a1)])) (fun _ k => XS.iloadN X0.here hx rfl (hb hby d1_56) rfl k) ?_
              have V22 := V_a
              obtain ⟨cl22, Ar22, q22, S22, Ng22, Hh22, G22⟩ := V22
              have hj22 : ¬ p2 < 0 ∧ p2 < (4 : Int32) := ⟨hi, hi4⟩
              have hat22 := own_at4 S22 Hh22 hj22
              refine own_go (U' := s₁.setTop (mkF m 58 #[.val (.int p0), .val (.ref a1), .val (.int p2), .val (.int y39_19), .val (.ref a1), .val (.int (4 : Int32)), .val (.int (4 : Int32)), .val (.int v3)] [(.int (own_pick v0 v1 v2 v3 p2))])) (fun _ k => X0.baloadBooleans hx (j := p2) (v := (.int (own_pick v0 v1 v2 v3 p2))) (by rw [e0]; exact Ar22.1) (State.isArrayOf_alike hZ.alike Ar22.2.1) Ar22.2.2 (inb_of S22 hj22) hat22 (g := (mkF m 57 #[.val (.int p0), .val (.ref a1), .val (.int p2), .val (.int y39_19), .val (.ref a1), .val (.int (4 : Int32)), .val (.int (4 : Int32)), .val (.int v3)] [(.int p2), (.ref a1)])) rfl rfl (hb hby d1_57) _ k) ?_
              by_cases hc58_23 : (own_pick v0 v1 v2 v3 p2) = (0 : Int32)
              · refine own_go (U' := s₁.setTop (mkF m 65 #[.val (.int p0), .val (.ref a1), .val (.int p2), .val (.int y39_19), .val (.ref a1), .val (.int (4 : Int32)), .val (.int (4 : Int32)), .val (.int v3)] [])) (fun _ k => XS.ifYes X0.here hx rfl (pc0 := 58) (pc' := 65) rfl (hb hby d1_58) rfl ((if0 _ _).trans (teq hc58_23).1) (by decide) (by decide) k) ?_
                refine own_go (U' := s₁.setTop (mkF m 66 #[.val (.int p0), .val (.ref a1), .val (.int p2), .val (.int y39_19), .val (.ref a1), .val (.int (4 : Int32)), .val (.int (4 : Int32)), .val (.int v3)] [(.int (0 : Int32))])) (fun _ k => XS.iconst X0.here hx rfl (hb hby d1_65) k) ?_
                refine own_ret X0 (v := (some (.int (0 : Int32)))) hlk (fun h => by rw [Bd.returns] at h; cases h) (by decide) (by decide) (fun fs hr => retN X0 hx (t := .boolean) Bd.returns (by simp) (hb hby d1_66) hr) ?_
                show (Q1 Z p0 a1 p2 k1 v0 v1 v2 v3 h0 n0) _ s₁.heap _
                rw [e0]
                try subst hy39_19
                try subst hz30_16
                try subst hy39_14
                try subst hz30_11
                try subst hy39_9
                try subst hz30_6
                try subst hy39
                try subst hz30
                exact ⟨by first | (simp only [f_1, if_pos hc47_20, if_pos hc52_21, if_pos hc58_23]; done) | rfl | (simp [f_1, if_pos hc47_20, if_pos hc52_21, if_pos hc58_23]; done), N0, rfl⟩
              · refine own_go (U' := s₁.setTop (mkF m 61 #[.val (.int p0), .val (.ref a1), .val (.int p2), .val (.int y39_19), .val (.ref a1), .val (.int (4 : Int32)), .val (.int (4 : Int32)), .val (.int v3)] [])) (fun _ k => XS.ifNo X0.here hx rfl (hb hby d1_58) rfl ((if0 _ _).trans (feq hc58_23).1) k) ?_
                refine own_go (U' := s₁.setTop (mkF m 62 #[.val (.int p0), .val (.ref a1), .val (.int p2), .val (.int y39_19), .val (.ref a1), .val (.int (4 : Int32)), .val (.int (4 : Int32)), .val (.int v3)] [(.int (1 : Int32))])) (fun _ k => XS.iconst X0.here hx rfl (hb hby d1_61) k) ?_
                refine own_go (U' := s₁.setTop (mkF m 66 #[.val (.int p0), .val (.ref a1), .val (.int p2), .val (.int y39_19), .val (.ref a1), .val (.int (4 : Int32)), .val (.int (4 : Int32)), .val (.int v3)] [(.int (1 : Int32))])) (fun _ k => XS.goto X0.here hx rfl (pc0 := 62) (pc' := 66) rfl (hb hby d1_62) (by decide) (by decide) k) ?_
                refine own_ret X0 (v := (some (.int (1 : Int32)))) hlk (fun h => by rw [Bd.returns] at h; cases h) (by decide) (by decide) (fun fs hr => retN X0 hx (t := .boolean) Bd.returns (by simp) (hb hby d1_66) hr) ?_
                show (Q1 Z p0 a1 p2 k1 v0 v1 v2 v3 h0 n0) _ s₁.heap _
                rw [e0]
                try subst hy39_19
                try subst hz30_16
                try subst hy39_14
                try subst hz30_11
                try subst hy39_9
                try subst hz30_6
                try subst hy39
                try subst hz30
                exact ⟨by first | (simp only [f_1, if_pos hc47_20, if_pos hc52_21, if_neg hc58_23]; done) | rfl | (simp [f_1, if_pos hc47_20, if_pos hc52_21, if_neg hc58_23]; done), N0, rfl⟩
            · refine own_go (U' := s₁.setTop (mkF m 65 #[.val (.int p0), .val (.ref a1), .val (.int p2), .val (.int y39_19), .val (.ref a1), .val (.int (4 : Int32)), .val (.int (4 : Int32)), .val (.int v3)] [])) (fun _ k => XS.icmpYes X0.here hx rfl (pc0 := 52) (pc' := 65) rfl (hb hby d1_52) rfl (feq hc52_21).2 (by decide) (by decide) k) ?_
              refine own_go (U' := s₁.setTop (mkF m 66 #[.val (.int p0), .val (.ref a1), .val (.int p2), .val (.int y39_19), .val (.ref a1), .val (.int (4 : Int32)), .val (.int (4 : Int32)), .val (.int v3)] [(.int (0 : Int32))])) (fun _ k => XS.iconst X0.here hx rfl (hb hby d1_65) k) ?_
              refine own_ret X0 (v := (some (.int (0 : Int32)))) hlk (fun h => by rw [Bd.returns] at h; cases h) (by decide) (by decide) (fun fs hr => retN X0 hx (t := .boolean) Bd.returns (by simp) (hb hby d1_66) hr) ?_
              show (Q1 Z p0 a1 p2 k1 v0 v1 v2 v3 h0 n0) _ s₁.heap _
              rw [e0]
              try subst hy39_19
              try subst hz30_16
              try subst hy39_14
              try subst hz30_11
              try subst hy39_9
              try subst hz30_6
              try subst hy39
              try subst hz30
              exact ⟨by first | (simp only [f_1, if_pos hc47_20, if_neg hc52_21]; done) | rfl | (simp [f_1, if_pos hc47_20, if_neg hc52_21]; done), N0, rfl⟩
          · refine own_go (U' := s₁.setTop (mkF m 65 #[.val (.int p0), .val (.ref a1), .val (.int p2), .val (.int y39_19), .val (.ref a1), .val (.int (4 : Int32)), .val (.int (4 : Int32)), .val (.int v3)] [])) (fun _ k => XS.ifYes X0.here hx rfl (pc0 := 47) (pc' := 65) rfl (hb hby d1_47) rfl ((if0 _ _).trans (flt hc47_20).2.2.2) (by decide) (by decide) k) ?_
            refine own_go (U' := s₁.setTop (mkF m 66 #[.val (.int p0), .val (.ref a1), .val (.int p2), .val (.int y39_19), .val (.ref a1), .val (.int (4 : Int32)), .val (.int (4 : Int32)), .val (.int v3)] [(.int (0 : Int32))])) (fun _ k => XS.iconst X0.here hx rfl (hb hby d1_65) k) ?_
            refine own_ret X0 (v := (some (.int (0 : Int32)))) hlk (fun h => by rw [Bd.returns] at h; cases h) (by decide) (by decide) (fun fs hr => retN X0 hx (t := .boolean) Bd.returns (by simp) (hb hby d1_66) hr) ?_
            show (Q1 Z p0 a1 p2 k1 v0 v1 v2 v3 h0 n0) _ s₁.heap _
            rw [e0]
            try subst hy39_19
            try subst hz30_16
            try subst hy39_14
            try subst hz30_11
            try subst hy39_9
            try subst hz30_6
            try subst hy39
            try subst hz30
            exact ⟨by first | (simp only [f_1, if_neg hc47_20]; done) | rfl | (simp [f_1, if_neg hc47_20]; done), N0, rfl⟩

theorem own_bit {y z z' : Int32} (h : z = if y = 0 then 0 else 1) (h' : z' = if y = 0 then 0 else 1) : nar .boolean z = z' := by
  rw [h', h]
  by_cases q : y = 0
  · rw [if_pos q]; rfl
  · rw [if_neg q]; rfl
theorem own_dec : ∀ (i : Fin 16) (k : Fin 4), f_1 1 0 (Int32.ofInt k.1) 0 (nar .boolean (if (Int32.ofInt i.1 &&& 1) = 0 then 0 else 1)) (nar .boolean (if (Int32.ofInt i.1 &&& 2) = 0 then 0 else 1)) (nar .boolean (if (Int32.ofInt i.1 &&& 4) = 0 then 0 else 1)) (nar .boolean (if (Int32.ofInt i.1 &&& 8) = 0 then 0 else 1)) = if Int32.ofInt i.1 = ((1 : Int32) <<< (Int32.ofInt k.1 &&& 31)) then 1 else 0 := by decide +kernel
theorem own_f1p {p0 : Int32} (h : 0 < p0) (a : Addr) (k : ClassId) (j v0 v1 v2 v3 : Int32) : f_1 p0 a j k v0 v1 v2 v3 = f_1 1 0 j 0 v0 v1 v2 v3 := by
  have h1 : (0 : Int32) < 1 := by decide
  simp only [f_1, if_pos h, if_pos h1]
theorem own_f1n {p0 : Int32} (h : ¬ 0 < p0) (a : Addr) (k : ClassId) (j v0 v1 v2 v3 : Int32) : f_1 p0 a j k v0 v1 v2 v3 = 0 := by
  simp only [f_1, if_neg h]
theorem own_rem {p y : Int32} (h : ((p &&& (2147483647 : Int32)) % (4 : Int32)) = y) : ∃ k : Fin 4, y = Int32.ofInt k.1 := by
  have e : (p &&& (2147483647 : Int32)).toInt = p.toInt % 2147483648 := c_mask p _ 31 (by decide) (by decide)
  have q := (c_irem (p &&& (2147483647 : Int32)) (4 : Int32) 4 (by decide)).1 (by omega)
  rw [h] at q
  refine ⟨⟨y.toInt.toNat, by omega⟩, ?_⟩
  show y = Int32.ofInt (y.toInt.toNat : Int)
  rw [Int.toNat_of_nonneg (by omega), Int32.ofInt_toInt]
theorem own_m15 {p y : Int32} (h : (p &&& (15 : Int32)) = y) : ∃ k : Fin 16, y = Int32.ofInt k.1 := by
  have e : (p &&& (15 : Int32)).toInt = p.toInt % 16 := c_mask p _ 4 (by decide) (by decide)
  rw [h] at e
  refine ⟨⟨y.toInt.toNat, by omega⟩, ?_⟩
  show y = Int32.ofInt (y.toInt.toNat : Int)
  rw [Int.toNat_of_nonneg (by omega), Int32.ofInt_toInt]
theorem own_k4 {y : Int32} (h : ∃ k : Fin 4, y = Int32.ofInt k.1) : ¬ (y < (0 : Int32)) ∧ y < (4 : Int32) := by
  have key : ∀ k : Fin 4, ¬ (Int32.ofInt k.1 < (0 : Int32)) ∧ Int32.ofInt k.1 < (4 : Int32) := by decide +kernel
  obtain ⟨k, rfl⟩ := h
  exact key k
theorem own_main {p0 p1 p2 y3 y11 z24 z39 z54 z70 z80 : Int32} {a : Addr} {k : ClassId} (h3 : (p1 &&& (15 : Int32)) = y3) (h11 : ((p2 &&& (2147483647 : Int32)) % (4 : Int32)) = y11) (h24 : z24 = if (y3 &&& (1 : Int32)) = (0 : Int32) then (0 : Int32) else (1 : Int32)) (h39 : z39 = if (y3 &&& (2 : Int32)) = (0 : Int32) then (0 : Int32) else (1 : Int32)) (h54 : z54 = if (y3 &&& (4 : Int32)) = (0 : Int32) then (0 : Int32) else (1 : Int32)) (h70 : z70 = if (y3 &&& (8 : Int32)) = (0 : Int32) then (0 : Int32) else (1 : Int32))
    (h80 : z80 = if (0 : Int32) < p0 then (if y3 = ((1 : Int32) <<< (y11 &&& 31)) then (1 : Int32) else (0 : Int32)) else (0 : Int32)) : f_1 p0 a y11 k (nar .boolean z24) (nar .boolean z39) (nar .boolean z54) (nar .boolean z70) = z80 := by
  by_cases h : (0 : Int32) < p0
  · rw [own_f1p h, h80, if_pos h, h24, h39, h54, h70]
    obtain ⟨i, rfl⟩ := own_m15 h3
    obtain ⟨j, rfl⟩ := own_rem h11
    exact own_dec i j
  · rw [own_f1n h, h80, if_neg h]

theorem own_pd0 : parseMethodDescriptor "(I[ZI)Z" = some ⟨[.int, (.array .boolean), .int], some .boolean⟩ := by decide +kernel
theorem own_pn1 : plainName "com/example/layout_to_evidence/layouttoevidence/TableRowsNamesGroupPinLaw" = true := by first | (simp [plainName, overriddenIn]; done) | decide +kernel
theorem own_ef0 (m : MethodId) (x0 : Int32) (x1 : Int32) (x2 : Int32) : entryFrame m #[(.int x0), (.int x1), (.int x2)] maxLocals = mkF m 0 #[.val (.int x0), .val (.int x1), .val (.int x2), .unset, .unset, .unset, .unset, .unset, .unset] [] := by first | (simp [entryFrame, mkF, argsToLocals, Value.category, maxLocals]; done) | rfl
def Q0 (Z : State) (p0 : Int32) (p1 : Int32) (p2 : Int32) (h0 : Heap) (n0 : Nat) (v : Option Value) (h : Heap) (L : List Loc) : Prop := v = some (.int 1) ∧ Fr n0 L
set_option maxRecDepth 65536 in
set_option maxHeartbeats 40000000 in
theorem rm0 (l : Launch) (Z : State) (a0 : Array Value) (hw : ∀ d ∈ tables_1, d.before a0 Z = true) (ws : List Jvm.Cond) (p0 : Int32) (p1 : Int32) (p2 : Int32) (h0 : Heap) (n0 : Nat) (Z0 : n0 ≤ h0.size) :
    MetFree l x (head1 (Jvm.Cond.code x code maxLocals ret :: ws) room_1) (fun a U => a = #[(.int p0), (.int p1), (.int p2)] ∧ Z.Warmed39 U.vm ∧ U.heap = h0) (fun _ _ _ _ _ => True) (fun _ U o U' => ∃ v L, o = .returned v ∧ (Q0 Z p0 p1 p2 h0 n0) v U'.heap L ∧ FrameEnd U o U' L room_1.cells room_1.slots) := by
  refine MetFree.of_bodySF (plainFor_of_name own_pn1) hisR ?_
  intro p e s m args below meth c s₁ Bd hml0 hP hK
  obtain ⟨rfl, hZ, hh⟩ := hP
  have hx := Bd.exec
  have hby := Bd.bytes
  have hml : c.maxLocals = 9 := hml0
  have hown : s.vm.findClass "com/example/layout_to_evidence/layouttoevidence/TableRowsNamesGroupPinLaw" = some m.cls := findClass_of_methodNamed Bd.named
  have hnm := (name_of_methodNamed Bd.named Bd.method).1
  have hlk : meth.locks = false := BodyLoose.notSynchronized (by assumption)
  have X0 : Stand p l e room_1 s m #[(.int p0), (.int p1), (.int p2)] below meth c s₁ [] 0 0 := Stand.of_body Bd
  have e0 : s₁.heap = h0 := by rw [← hh, Bd.state]; rfl
  have N0 := Fr.nil n0
  show own_Done p e below s (Q0 Z p0 p1 p2 h0 n0) room_1.cells room_1.slots (s₁.setTop (entryFrame m #[(.int p0), (.int p1), (.int p2)] maxLocals))
  refine own_go (U' := s₁.setTop (mkF m 0 #[.val (.int p0), .val (.int p1), .val (.int p2), .unset, .unset, .unset, .unset, .unset, .unset] [])) (fun _ k => castTop (own_ef0 m p0 p1 p2) k) ?_
  refine own_go (U' := s₁.setTop (mkF m 1 #[.val (.int p0), .val (.int p1), .val (.int p2), .unset, .unset, .unset, .unset, .unset, .unset] [(.int p1)])) (fun _ k => XS.iloadN X0.here hx rfl (hb hby at_0) rfl k) ?_
  refine own_go (U' := s₁.setTop (mkF m 3 #[.val (.int p0), .val (.int p1), .val (.int p2), .unset, .unset, .unset, .unset, .unset, .unset] [(.int (15 : Int32)), (.int p1)])) (fun _ k => XS.bipush X0.here hx rfl (hb hby at_1) k) ?_
  refine own_go (U' := s₁.setTop (mkF m 4 #[.val (.int p0), .val (.int p1), .val (.int p2), .unset, .unset, .unset, .unset, .unset, .unset] [(.int (p1 &&& (15 : Int32)))])) (fun _ k => XS.iand X0.here hx rfl (hb hby at_3) rfl k) ?_
  generalize hy4 : (p1 &&& (15 : Int32)) = y4
  refine own_go (U' := s₁.setTop (mkF m 5 #[.val (.int p0), .val (.int p1), .val (.int p2), .val (.int y4), .unset, .unset, .unset, .unset, .unset] [])) (fun _ k => XS.istoreN X0.here hx rfl (hb hby at_4) rfl (l' := #[.val (.int p0), .val (.int p1), .val (.int p2), .val (.int y4), .unset, .unset, .unset, .unset, .unset]) rfl k) ?_
  refine own_go (U' := s₁.setTop (mkF m 6 #[.val (.int p0), .val (.int p1), .val (.int p2), .val (.int y4), .unset, .unset, .unset, .unset, .unset] [(.int p2)])) (fun _ k => XS.iloadN X0.here hx rfl (hb hby at_5) rfl k) ?_
  refine own_go (U' := s₁.setTop (mkF m 8 #[.val (.int p0), .val (.int p1), .val (.int p2), .val (.int y4), .unset, .unset, .unset, .unset, .unset] [(.int (2147483647 : Int32)), (.int p2)])) (fun _ k => X0.ldcInt hx hown (mvT hZ (hw _ (List.mem_of_getElem? (i := 0) rfl))) (g := (mkF m 6 #[.val (.int p0), .val (.int p1), .val (.int p2), .val (.int y4), .unset, .unset, .unset, .unset, .unset] [(.int p2)])) rfl (hb hby at_6) _ k) ?_
  refine own_go (U' := s₁.setTop (mkF m 9 #[.val (.int p0), .val (.int p1), .val (.int p2), .val (.int y4), .unset, .unset, .unset, .unset, .unset] [(.int (p2 &&& (2147483647 : Int32)))])) (fun _ k => XS.iand X0.here hx rfl (hb hby at_8) rfl k) ?_
  refine own_go (U' := s₁.setTop (mkF m 10 #[.val (.int p0), .val (.int p1), .val (.int p2), .val (.int y4), .unset, .unset, .unset, .unset, .unset] [(.int (4 : Int32)), (.int (p2 &&& (2147483647 : Int32)))])) (fun _ k => XS.iconst X0.here hx rfl (hb hby at_9) k) ?_
  refine own_go (U' := s₁.setTop (mkF m 11 #[.val (.int p0), .val (.int p1), .val (.int p2), .val (.int y4), .unset, .unset, .unset, .unset, .unset] [(.int ((p2 &&& (2147483647 : Int32)) % (4 : Int32)))])) (fun _ k => iremM X0 hx rfl (hb hby at_10) rfl (by decide) k) ?_
  generalize hy11 : ((p2 &&& (2147483647 : Int32)) % (4 : Int32)) = y11
  refine own_go (U' := s₁.setTop (mkF m 13 #[.val (.int p0), .val (.int p1), .val (.int p2), .val (.int y4), .val (.int y11), .unset, .unset, .unset, .unset] [])) (fun _ k => XS.istore X0.here hx rfl (hb hby at_11) rfl (l' := #[.val (.int p0), .val (.int p1), .val (.int p2), .val (.int y4), .val (.int y11), .unset, .unset, .unset, .unset]) rfl k) ?_
  refine own_go (U' := s₁.setTop (mkF m 14 #[.val (.int p0), .val (.int p1), .val (.int p2), .val (.int y4), .val (.int y11), .unset, .unset, .unset, .unset] [(.int (4 : Int32))])) (fun _ k => XS.iconst X0.here hx rfl (hb hby at_13) k) ?_
  obtain ⟨T24, h24, k24, X24, e24, E24, A24, st24⟩ := newP X0 hx hZ (hw _ (List.mem_of_getElem? (i := 1) rfl)) e0 (g := (mkF m 14 #[.val (.int p0), .val (.int p1), .val (.int p2), .val (.int y4), .val (.int y11), .unset, .unset, .unset, .unset] [(.int (4 : Int32))])) rfl (hb hby at_14) rfl (by decide) (cap := 4) (by decide) (by decide) (by decide) (by decide)
  obtain ⟨b24, g24⟩ : ∃ z, z = h0.size := ⟨_, rfl⟩
  have g_b24 : n0 ≤ b24 := Nat.le_trans Z0 (Nat.le_of_eq g24.symm)
  have sz_b24 : h0.size ≤ b24 := Nat.le_trans (Keep.refl h0 []).1 (Nat.le_of_eq g24.symm)
  rw [← g24] at A24 st24
  have Z24 : n0 ≤ h24.size := Nat.le_trans Z0 E24.1
  have K24 := Keep.ext (Keep.refl h0 []) E24
  have V_b24 : Arv Z h24 b24 k24 .boolean (4 : Int32) [(.int (0 : Int32)), (.int (0 : Int32)), (.int (0 : Int32)), (.int (0 : Int32))] (.int (0 : Int32)) := (Arv.new A24 (by decide)).pad (pad_rep [] (.int (0 : Int32)) 4)
  refine own_go (U' := T24.setTop (mkF m 16 #[.val (.int p0), .val (.int p1), .val (.int p2), .val (.int y4), .val (.int y11), .unset, .unset, .unset, .unset] [(.ref b24)])) (fun _ k => st24 _ k) ?_
  refine own_go (U' := T24.setTop (mkF m 18 #[.val (.int p0), .val (.int p1), .val (.int p2), .val (.int y4), .val (.int y11), .val (.ref b24), .unset, .unset, .unset] [])) (fun _ k => XS.astore X24.here hx rfl (hb hby at_16) rfl rfl (l' := #[.val (.int p0), .val (.int p1), .val (.int p2), .val (.int y4), .val (.int y11), .val (.ref b24), .unset, .unset, .unset]) rfl k) ?_
  refine own_go (U' := T24.setTop (mkF m 20 #[.val (.int p0), .val (.int p1), .val (.int p2), .val (.int y4), .val (.int y11), .val (.ref b24), .unset, .unset, .unset] [(.ref b24)])) (fun _ k => XS.aload X24.here hx rfl (hb hby at_18) rfl rfl k) ?_
  refine own_go (U' := T24.setTop (mkF m 21 #[.val (.int p0), .val (.int p1), .val (.int p2), .val (.int y4), .val (.int y11), .val (.ref b24), .unset, .unset, .unset] [(.int (0 : Int32)), (.ref b24)])) (fun _ k => XS.iconst X24.here hx rfl (hb hby at_20) k) ?_
  refine own_go (U' := T24.setTop (mkF m 22 #[.val (.int p0), .val (.int p1), .val (.int p2), .val (.int y4), .val (.int y11), .val (.ref b24), .unset, .unset, .unset] [(.int y4), (.int (0 : Int32)), (.ref b24)])) (fun _ k => XS.iloadN X24.here hx rfl (hb hby at_21) rfl k) ?_
  refine own_go (U' := T24.setTop (mkF m 23 #[.val (.int p0), .val (.int p1), .val (.int p2), .val (.int y4), .val (.int y11), .val (.ref b24), .unset, .unset, .unset] [(.int (1 : Int32)), (.int y4), (.int (0 : Int32)), (.ref b24)])) (fun _ k => XS.iconst X24.here hx rfl (hb hby at_22) k) ?_
  refine own_go (U' := T24.setTop (mkF m 24 #[.val (.int p0), .val (.int p1), .val (.int p2), .val (.int y4), .val (.int y11), .val (.ref b24), .unset, .unset, .unset] [(.int (y4 &&& (1 : Int32))), (.int (0 : Int32)), (.ref b24)])) (fun _ k => XS.iand X24.here hx rfl (hb hby at_23) rfl k) ?_
  obtain ⟨z24, hz24⟩ : ∃ z : Int32, z = (if (y4 &&& (1 : Int32)) = (0 : Int32) then (0 : Int32) else (1 : Int32)) := ⟨_, rfl⟩
  refine own_join (U' := T24.setTop (mkF m 32 #[.val (.int p0), .val (.int p1), .val (.int p2), .val (.int y4), .val (.int y11), .val (.ref b24), .unset, .unset, .unset] [(.int z24), (.int (0 : Int32)), (.ref b24)])) (fun J24_25 => ?_) ?_
  · by_cases hc24_26 : (y4 &&& (1 : Int32)) = (0 : Int32)
    · refine own_go (U' := T24.setTop (mkF m 31 #[.val (.int p0), .val (.int p1), .val (.int p2), .val (.int y4), .val (.int y11), .val (.ref b24), .unset, .unset, .unset] [(.int (0 : Int32)), (.ref b24)])) (fun _ k => XS.ifYes X24.here hx rfl (pc0 := 24) (pc' := 31) rfl (hb hby at_24) rfl ((if0 _ _).trans (teq hc24_26).1) (by decide) (by decide) k) ?_
      refine own_go (U' := T24.setTop (mkF m 32 #[.val (.int p0), .val (.int p1), .val (.int p2), .val (.int y4), .val (.int y11), .val (.ref b24), .unset, .unset, .unset] [(.int (0 : Int32)), (.int (0 : Int32)), (.ref b24)])) (fun _ k => XS.iconst X24.here hx rfl (hb hby at_31) k) ?_
      simp only [if_pos hc24_26] at hz24
      subst hz24
      exact J24_25
    · refine own_go (U' := T24.setTop (mkF m 27 #[.val (.int p0), .val (.int p1), .val (.int p2), .val (.int y4), .val (.int y11), .val (.ref b24), .unset, .unset, .unset] [(.int (0 : Int32)), (.ref b24)])) (fun _ k => XS.ifNo X24.here hx rfl (hb hby at_24) rfl ((if0 _ _).trans (feq hc24_26).1) k) ?_
      refine own_go (U' := T24.setTop (mkF m 28 #[.val (.int p0), .val (.int p1), .val (.int p2), .val (.int y4), .val (.int y11), .val (.ref b24), .unset, .unset, .unset] [(.int (1 : Int32)), (.int (0 : Int32)), (.ref b24)])) (fun _ k => XS.iconst X24.here hx rfl (hb hby at_27) k) ?_
      refine own_go (U' := T24.setTop (mkF m 32 #[.val (.int p0), .val (.int p1), .val (.int p2), .val (.int y4), .val (.int y11), .val (.ref b24), .unset, .unset, .unset] [(.int (1 : Int32)), (.int (0 : Int32)), (.ref b24)])) (fun _ k => XS.goto X24.here hx rfl (pc0 := 28) (pc' := 32) rfl (hb hby at_28) (by decide) (by decide) k) ?_
      simp only [if_neg hc24_26] at hz24
      subst hz24
      exact J24_25
  · have V27 := V_b24
    obtain ⟨cl27, Ar27, q27, S27, Ng27, Hh27, G27⟩ := V27
    have hj27 : ¬ (0 : Int32) < 0 ∧ (0 : Int32) < (4 : Int32) := ⟨by decide, by decide⟩
    obtain ⟨T28, h28, X28, e28, W28, st28⟩ := stZ X24 hx hZ e24 Ar27 (j := (0 : Int32)) (inb_of S27 hj27) (g := (mkF m 32 #[.val (.int p0), .val (.int p1), .val (.int p2), .val (.int y4), .val (.int y11), .val (.ref b24), .unset, .unset, .unset] [(.int z24), (.int (0 : Int32)), (.ref b24)])) rfl rfl (hb hby at_32)
    have w28 : Arv Z h28 b24 k24 .boolean (4 : Int32) [(.int (nar .boolean z24)), (.int (0 : Int32)), (.int (0 : Int32)), (.int (0 : Int32))] (.int (0 : Int32)) := Arv.set Ar27 q27 S27 Ng27 Hh27 G27 (fits_nar_bool _) W28 0 rfl (Nat.le_of_ble_eq_true rfl)
    have Z28 : n0 ≤ h28.size := Nat.le_trans Z24 (Keep.of_wr W28).1
    have K28 := Keep.wr K24 W28 (Or.inr sz_b24)
    have N28 := Fr.snoc X28 N0 g_b24
    refine own_go (U' := T28.setTop (mkF m 33 #[.val (.int p0), .val (.int p1), .val (.int p2), .val (.int y4), .val (.int y11), .val (.ref b24), .unset, .unset, .unset] [])) (fun _ k => st28 _ k) ?_
    refine own_go (U' := T28.setTop (mkF m 35 #[.val (.int p0), .val (.int p1), .val (.int p2), .val (.int y4), .val (.int y11), .val (.ref b24), .unset, .unset, .unset] [(.ref b24)])) (fun _ k => XS.aload X28.here hx rfl (hb hby at_33) rfl rfl k) ?_
    refine own_go (U' := T28.setTop (mkF m 36 #[.val (.int p0), .val (.int p1), .val (.int p2), .val (.int y4), .val (.int y11), .val (.ref b24), .unset, .unset, .unset] [(.int (1 : Int32)), (.ref b24)])) (fun _ k => XS.iconst X28.here hx rfl (hb hby at_35) k) ?_
    refine own_go (U' := T28.setTop (mkF m 37 #[.val (.int p0), .val (.int p1), .val (.int p2), .val (.int y4), .val (.int y11), .val (.ref b24), .unset, .unset, .unset] [(.int y4), (.int (1 : Int32)), (.ref b24)])) (fun _ k => XS.iloadN X28.here hx rfl (hb hby at_36) rfl k) ?_
    refine own_go (U' := T28.setTop (mkF m 38 #[.val (.int p0), .val (.int p1), .val (.int p2), .val (.int y4), .val (.int y11), .val (.ref b24), .unset, .unset, .unset] [(.int (2 : Int32)), (.int y4), (.int (1 : Int32)), (.ref b24)])) (fun _ k => XS.iconst X28.here hx rfl (hb hby at_37) k) ?_
    refine own_go (U' := T28.setTop (mkF m 39 #[.val (.int p0), .val (.int p1), .val (.int p2), .val (.int y4), .val (.int y11), .val (.ref b24), .unset, .unset, .unset] [(.int (y4 &&& (2 : Int32))), (.int (1 : Int32)), (.ref b24)])) (fun _ k => XS.iand X28.here hx rfl (hb hby at_38) rfl k) ?_
    obtain ⟨z39, hz39⟩ : ∃ z : Int32, z = (if (y4 &&& (2 : Int32)) = (0 : Int32) then (0 : Int32) else (1 : Int32)) := ⟨_, rfl⟩
    refine own_join (U' := T28.setTop (mkF m 47 #[.val (.int p0), .val (.int p1), .val (.int p2), .val (.int y4), .val (.int y11), .val (.ref b24), .unset, .unset, .unset] [(.int z39), (.int (1 : Int32)), (.ref b24)])) (fun J39_29 => ?_) ?_
    · by_cases hc39_30 : (y4 &&& (2 : Int32)) = (0 : Int32)
      · refine own_go (U' := T28.setTop (mkF m 46 #[.val (.int p0), .val (.int p1), .val (.int p2), .val (.int y4), .val (.int y11), .val (.ref b24), .unset, .unset, .unset] [(.int (1 : Int32)), (.ref b24)])) (fun _ k => XS.ifYes X28.here hx rfl (pc0 := 39) (pc' := 46) rfl (hb hby at_39) rfl ((if0 _ _).trans (teq hc39_30).1) (by decide) (by decide) k) ?_
        refine own_go (U' := T28.setTop (mkF m 47 #[.val (.int p0), .val (.int p1), .val (.int p2), .val (.int y4), .val (.int y11), .val (.ref b24), .unset, .unset, .unset] [(.int (0 : Int32)), (.int (1 : Int32)), (.ref b24)])) (fun _ k => XS.iconst X28.here hx rfl (hb hby at_46) k) ?_
        simp only [if_pos hc39_30] at hz39
        subst hz39
        exact J39_29
      · refine own_go (U' := T28.setTop (mkF m 42 #[.val (.int p0), .val (.int p1), .val (.int p2), .val (.int y4), .val (.int y11), .val (.ref b24), .unset, .unset, .unset] [(.int (1 : Int32)), (.ref b24)])) (fun _ k => XS.ifNo X28.here hx rfl (hb hby at_39) rfl ((if0 _ _).trans (feq hc39_30).1) k) ?_
        refine own_go (U' := T28.setTop (mkF m 43 #[.val (.int p0), .val (.int p1), .val (.int p2), .val (.int y4), .val (.int y11), .val (.ref b24), .unset, .unset, .unset] [(.int (1 : Int32)), (.int (1 : Int32)), (.ref b24)])) (fun _ k => XS.iconst X28.here hx rfl (hb hby at_42) k) ?_
        refine own_go (U' := T28.setTop (mkF m 47 #[.val (.int p0), .val (.int p1), .val (.int p2), .val (.int y4), .val (.int y11), .val (.ref b24), .unset, .unset, .unset] [(.int (1 : Int32)), (.int (1 : Int32)), (.ref b24)])) (fun _ k => XS.goto X28.here hx rfl (pc0 := 43) (pc' := 47) rfl (hb hby at_43) (by decide) (by decide) k) ?_
        simp only [if_neg hc39_30] at hz39
        subst hz39
        exact J39_29
    · have V31 := w28
      obtain ⟨cl31, Ar31, q31, S31, Ng31, Hh31, G31⟩ := V31
      have hj31 : ¬ (1 : Int32) < 0 ∧ (1 : Int32) < (4 : Int32) := ⟨by decide, by decide⟩
      obtain ⟨T32, h32, X32, e32, W32, st32⟩ := stZ X28 hx hZ e28 Ar31 (j := (1 : Int32)) (inb_of S31 hj31) (g := (mkF m 47 #[.val (.int p0), .val (.int p1), .val (.int p2), .val (.int y4), .val (.int y11), .val (.ref b24), .unset, .unset, .unset] [(.int z39), (.int (1 : Int32)), (.ref b24)])) rfl rfl (hb hby at_47)
      have w32 : Arv Z h32 b24 k24 .boolean (4 : Int32) [(.int (nar .boolean z24)), (.int (nar .boolean z39)), (.int (0 : Int32)), (.int (0 : Int32))] (.int (0 : Int32)) := Arv.set Ar31 q31 S31 Ng31 Hh31 G31 (fits_nar_bool _) W32 1 rfl (Nat.le_of_ble_eq_true rfl)
      have Z32 : n0 ≤ h32.size := Nat.le_trans Z28 (Keep.of_wr W32).1
      have K32 := Keep.wr K28 W32 (Or.inr sz_b24)
      have N32 := Fr.snoc X32 N28 g_b24
      refine own_go (U' := T32.setTop (mkF m 48 #[.val (.int p0), .val (.int p1), .val (.int p2), .val (.int y4), .val (.int y11), .val (.ref b24), .unset, .unset, .unset] [])) (fun _ k => st32 _ k) ?_
      refine own_go (U' := T32.setTop (mkF m 50 #[.val (.int p0), .val (.int p1), .val (.int p2), .val (.int y4), .val (.int y11), .val (.ref b24), .unset, .unset, .unset] [(.ref b24)])) (fun _ k => XS.aload X32.here hx rfl (hb hby at_48) rfl rfl k) ?_
      refine own_go (U' := T32.setTop (mkF m 51 #[.val (.int p0), .val (.int p1), .val (.int p2), .val (.int y4), .val (.int y11), .val (.ref b24), .unset, .unset, .unset] [(.int (2 : Int32)), (.ref b24)])) (fun _ k => XS.iconst X32.here hx rfl (hb hby at_50) k) ?_
      refine own_go (U' := T32.setTop (mkF m 52 #[.val (.int p0), .val (.int p1), .val (.int p2), .val (.int y4), .val (.int y11), .val (.ref b24), .unset, .unset, .unset] [(.int y4), (.int (2 : Int32)), (.ref b24)])) (fun _ k => XS.iloadN X32.here hx rfl (hb hby at_51) rfl k) ?_
      refine own_go (U' := T32.setTop (mkF m 53 #[.val (.int p0), .val (.int p1), .val (.int p2), .val (.int y4), .val (.int y11), .val (.ref b24), .unset, .unset, .unset] [(.int (4 : Int32)), (.int y4), (.int (2 : Int32)), (.ref b24)])) (fun _ k => XS.iconst X32.here hx rfl (hb hby at_52) k) ?_
      refine own_go (U' := T32.setTop (mkF m 54 #[.val (.int p0), .val (.int p1), .val (.int p2), .val (.int y4), .val (.int y11), .val (.ref b24), .unset, .unset, .unset] [(.int (y4 &&& (4 : Int32))), (.int (2 : Int32)), (.ref b24)])) (fun _ k => XS.iand X32.here hx rfl (hb hby at_53) rfl k) ?_
      obtain ⟨z54, hz54⟩ : ∃ z : Int32, z = (if (y4 &&& (4 : Int32)) = (0 : Int32) then (0 : Int32) else (1 : Int32)) := ⟨_, rfl⟩
      refine own_join (U' := T32.setTop (mkF m 62 #[.val (.int p0), .val (.int p1), .val (.int p2), .val (.int y4), .val (.int y11), .val (.ref b24), .unset, .unset, .unset] [(.int z54), (.int (2 : Int32)), (.ref b24)])) (fun J54_33 => ?_) ?_
      · by_cases hc54_34 : (y4 &&& (4 : Int32)) = (0 : Int32)
        · refine own_go (U' := T32.setTop (mkF m 61 #[.val (.int p0), .val (.int p1), .val (.int p2), .val (.int y4), .val (.int y11), .val (.ref b24), .unset, .unset, .unset] [(.int (2 : Int32)), (.ref b24)])) (fun _ k => XS.ifYes X32.here hx rfl (pc0 := 54) (pc' := 61) rfl (hb hby at_54) rfl ((if0 _ _).trans (teq hc54_34).1) (by decide) (by decide) k) ?_
          refine own_go (U' := T32.setTop (mkF m 62 #[.val (.int p0), .val (.int p1), .val (.int p2), .val (.int y4), .val (.int y11), .val (.ref b24), .unset, .unset, .unset] [(.int (0 : Int32)), (.int (2 : Int32)), (.ref b24)])) (fun _ k => XS.iconst X32.here hx rfl (hb hby at_61) k) ?_
          simp only [if_pos hc54_34] at hz54
          subst hz54
          exact J54_33
        · refine own_go (U' := T32.setTop (mkF m 57 #[.val (.int p0), .val (.int p1), .val (.int p2), .val (.int y4), .val (.int y11), .val (.ref b24), .unset, .unset, .unset] [(.int (2 : Int32)), (.ref b24)])) (fun _ k => XS.ifNo X32.here hx rfl (hb hby at_54) rfl ((if0 _ _).trans (feq hc54_34).1) k) ?_
          refine own_go (U' := T32.setTop (mkF m 58 #[.val (.int p0), .val (.int p1), .val (.int p2), .val (.int y4), .val (.int y11), .val (.ref b24), .unset, .unset, .unset] [(.int (1 : Int32)), (.int (2 : Int32)), (.ref b24)])) (fun _ k => XS.iconst X32.here hx rfl (hb hby at_57) k) ?_
          refine own_go (U' := T32.setTop (mkF m 62 #[.val (.int p0), .val (.int p1), .val (.int p2), .val (.int y4), .val (.int y11), .val (.ref b24), .unset, .unset, .unset] [(.int (1 : Int32)), (.int (2 : Int32)), (.ref b24)])) (fun _ k => XS.goto X32.here hx rfl (pc0 := 58) (pc' := 62) rfl (hb hby at_58) (by decide) (by decide) k) ?_
          simp only [if_neg hc54_34] at hz54
          subst hz54
          exact J54_33
      · have V35 := w32
        obtain ⟨cl35, Ar35, q35, S35, Ng35, Hh35, G35⟩ := V35
        have hj35 : ¬ (2 : Int32) < 0 ∧ (2 : Int32) < (4 : Int32) := ⟨by decide, by decide⟩
        obtain ⟨T36, h36, X36, e36, W36, st36⟩ := stZ X32 hx hZ e32 Ar35 (j := (2 : Int32)) (inb_of S35 hj35) (g := (mkF m 62 #[.val (.int p0), .val (.int p1), .val (.int p2), .val (.int y4), .val (.int y11), .val (.ref b24), .unset, .unset, .unset] [(.int z54), (.int (2 : Int32)), (.ref b24)])) rfl rfl (hb hby at_62)
        have w36 : Arv Z h36 b24 k24 .boolean (4 : Int32) [(.int (nar .boolean z24)), (.int (nar .boolean z39)), (.int (nar .boolean z54)), (.int (0 : Int32))] (.int (0 : Int32)) := Arv.set Ar35 q35 S35 Ng35 Hh35 G35 (fits_nar_bool _) W36 2 rfl (Nat.le_of_ble_eq_true rfl)
        have Z36 : n0 ≤ h36.size := Nat.le_trans Z32 (Keep.of_wr W36).1
        have K36 := Keep.wr K32 W36 (Or.inr sz_b24)
        have N36 := Fr.snoc X36 N32 g_b24
        refine own_go (U' := T36.setTop (mkF m 63 #[.val (.int p0), .val (.int p1), .val (.int p2), .val (.int y4), .val (.int y11), .val (.ref b24), .unset, .unset, .unset] [])) (fun _ k => st36 _ k) ?_
        refine own_go (U' := T36.setTop (mkF m 65 #[.val (.int p0), .val (.int p1), .val (.int p2), .val (.int y4), .val (.int y11), .val (.ref b24), .unset, .unset, .unset] [(.ref b24)])) (fun _ k => XS.aload X36.here hx rfl (hb hby at_63) rfl rfl k) ?_
        refine own_go (U' := T36.setTop (mkF m 66 #[.val (.int p0), .val (.int p1), .val (.int p2), .val (.int y4), .val (.int y11), .val (.ref b24), .unset, .unset, .unset] [(.int (3 : Int32)), (.ref b24)])) (fun _ k => XS.iconst X36.here hx rfl (hb hby at_65) k) ?_
        refine own_go (U' := T36.setTop (mkF m 67 #[.val (.int p0), .val (.int p1), .val (.int p2), .val (.int y4), .val (.int y11), .val (.ref b24), .unset, .unset, .unset] [(.int y4), (.int (3 : Int32)), (.ref b24)])) (fun _ k => XS.iloadN X36.here hx rfl (hb hby at_66) rfl k) ?_
        refine own_go (U' := T36.setTop (mkF m 69 #[.val (.int p0), .val (.int p1), .val (.int p2), .val (.int y4), .val (.int y11), .val (.ref b24), .unset, .unset, .unset] [(.int (8 : Int32)), (.int y4), (.int (3 : Int32)), (.ref b24)])) (fun _ k => XS.bipush X36.here hx rfl (hb hby at_67) k) ?_
        refine own_go (U' := T36.setTop (mkF m 70 #[.val (.int p0), .val (.int p1), .val (.int p2), .val (.int y4), .val (.int y11), .val (.ref b24), .unset, .unset, .unset] [(.int (y4 &&& (8 : Int32))), (.int (3 : Int32)), (.ref b24)])) (fun _ k => XS.iand X36.here hx rfl (hb hby at_69) rfl k) ?_
        obtain ⟨z70, hz70⟩ : ∃ z : Int32, z = (if (y4 &&& (8 : Int32)) = (0 : Int32) then (0 : Int32) else (1 : Int32)) := ⟨_, rfl⟩
        refine own_join (U' := T36.setTop (mkF m 78 #[.val (.int p0), .val (.int p1), .val (.int p2), .val (.int y4), .val (.int y11), .val (.ref b24), .unset, .unset, .unset] [(.int z70), (.int (3 : Int32)), (.ref b24)])) (fun J70_37 => ?_) ?_
        · by_cases hc70_38 : (y4 &&& (8 : Int32)) = (0 : Int32)
          · refine own_go (U' := T36.setTop (mkF m 77 #[.val (.int p0), .val (.int p1), .val (.int p2), .val (.int y4), .val (.int y11), .val (.ref b24), .unset, .unset, .unset] [(.int (3 : Int32)), (.ref b24)])) (fun _ k => XS.ifYes X36.here hx rfl (pc0 := 70) (pc' := 77) rfl (hb hby at_70) rfl ((if0 _ _).trans (teq hc70_38).1) (by decide) (by decide) k) ?_
            refine own_go (U' := T36.setTop (mkF m 78 #[.val (.int p0), .val (.int p1), .val (.int p2), .val (.int y4), .val (.int y11), .val (.ref b24), .unset, .unset, .unset] [(.int (0 : Int32)), (.int (3 : Int32)), (.ref b24)])) (fun _ k => XS.iconst X36.here hx rfl (hb hby at_77) k) ?_
            simp only [if_pos hc70_38] at hz70
            subst hz70
            exact J70_37
          · refine own_go (U' := T36.setTop (mkF m 73 #[.val (.int p0), .val (.int p1), .val (.int p2), .val (.int y4), .val (.int y11), .val (.ref b24), .unset, .unset, .unset] [(.int (3 : Int32)), (.ref b24)])) (fun _ k => XS.ifNo X36.here hx rfl (hb hby at_70) rfl ((if0 _ _).trans (feq hc70_38).1) k) ?_
            refine own_go (U' := T36.setTop (mkF m 74 #[.val (.int p0), .val (.int p1), .val (.int p2), .val (.int y4), .val (.int y11), .val (.ref b24), .unset, .unset, .unset] [(.int (1 : Int32)), (.int (3 : Int32)), (.ref b24)])) (fun _ k => XS.iconst X36.here hx rfl (hb hby at_73) k) ?_
            refine own_go (U' := T36.setTop (mkF m 78 #[.val (.int p0), .val (.int p1), .val (.int p2), .val (.int y4), .val (.int y11), .val (.ref b24), .unset, .unset, .unset] [(.int (1 : Int32)), (.int (3 : Int32)), (.ref b24)])) (fun _ k => XS.goto X36.here hx rfl (pc0 := 74) (pc' := 78) rfl (hb hby at_74) (by decide) (by decide) k) ?_
            simp only [if_neg hc70_38] at hz70
            subst hz70
            exact J70_37
        · have V39 := w36
          obtain ⟨cl39, Ar39, q39, S39, Ng39, Hh39, G39⟩ := V39
          have hj39 : ¬ (3 : Int32) < 0 ∧ (3 : Int32) < (4 : Int32) := ⟨by decide, by decide⟩
          obtain ⟨T40, h40, X40, e40, W40, st40⟩ := stZ X36 hx hZ e36 Ar39 (j := (3 : Int32)) (inb_of S39 hj39) (g := (mkF m 78 #[.val (.int p0), .val (.int p1), .val (.int p2), .val (.int y4), .val (.int y11), .val (.ref b24), .unset, .unset, .unset] [(.int z70), (.int (3 : Int32)), (.ref b24)])) rfl rfl (hb hby at_78)
          have w40 : Arv Z h40 b24 k24 .boolean (4 : Int32) [(.int (nar .boolean z24)), (.int (nar .boolean z39)), (.int (nar .boolean z54)), (.int (nar .boolean z70))] (.int (0 : Int32)) := Arv.set Ar39 q39 S39 Ng39 Hh39 G39 (fits_nar_bool _) W40 3 rfl (Nat.le_of_ble_eq_true rfl)
          have Z40 : n0 ≤ h40.size := Nat.le_trans Z36 (Keep.of_wr W40).1
          have K40 := Keep.wr K36 W40 (Or.inr sz_b24)
          have N40 := Fr.snoc X40 N36 g_b24
          refine own_go (U' := T40.setTop (mkF m 79 #[.val (.int p0), .val (.int p1), .val (.int p2), .val (.int y4), .val (.int y11), .val (.ref b24), .unset, .unset, .unset] [])) (fun _ k => st40 _ k) ?_
          refine own_go (U' := T40.setTop (mkF m 80 #[.val (.int p0), .val (.int p1), .val (.int p2), .val (.int y4), .val (.int y11), .val (.ref b24), .unset, .unset, .unset] [(.int p0)])) (fun _ k => XS.iloadN X40.here hx rfl (hb hby at_79) rfl k) ?_
          obtain ⟨z80, hz80⟩ : ∃ z : Int32, z = (if (0 : Int32) < p0 then (if y4 = ((1 : Int32) <<< (y11 &&& 31)) then (1 : Int32) else (0 : Int32)) else (0 : Int32)) := ⟨_, rfl⟩
          refine own_join (U' := T40.setTop (mkF m 96 #[.val (.int p0), .val (.int p1), .val (.int p2), .val (.int y4), .val (.int y11), .val (.ref b24), .unset, .unset, .unset] [(.int z80)])) (fun J80_41 => ?_) ?_
          · by_cases hc80_42 : (0 : Int32) < p0
            · refine own_go (U' := T40.setTop (mkF m 83 #[.val (.int p0), .val (.int p1), .val (.int p2), .val (.int y4), .val (.int y11), .val (.ref b24), .unset, .unset, .unset] [])) (fun _ k => XS.ifNo X40.here hx rfl (hb hby at_80) rfl ((if0 _ _).trans (tlt hc80_42).2.2.2) k) ?_
              refine own_go (U' := T40.setTop (mkF m 84 #[.val (.int p0), .val (.int p1), .val (.int p2), .val (.int y4), .val (.int y11), .val (.ref b24), .unset, .unset, .unset] [(.int y4)])) (fun _ k => XS.iloadN X40.here hx rfl (hb hby at_83) rfl k) ?_
              refine own_go (U' := T40.setTop (mkF m 85 #[.val (.int p0), .val (.int p1), .val (.int p2), .val (.int y4), .val (.int y11), .val (.ref b24), .unset, .unset, .unset] [(.int (1 : Int32)), (.int y4)])) (fun _ k => XS.iconst X40.here hx rfl (hb hby at_84) k) ?_
              refine own_go (U' := T40.setTop (mkF m 87 #[.val (.int p0), .val (.int p1), .val (.int p2), .val (.int y4), .val (.int y11), .val (.ref b24), .unset, .unset, .unset] [(.int y11), (.int (1 : Int32)), (.int y4)])) (fun _ k => XS.iload X40.here hx rfl (hb hby at_85) rfl k) ?_
              refine own_go (U' := T40.setTop (mkF m 88 #[.val (.int p0), .val (.int p1), .val (.int p2), .val (.int y4), .val (.int y11), .val (.ref b24), .unset, .unset, .unset] [(.int ((1 : Int32) <<< (y11 &&& 31))), (.int y4)])) (fun _ k => XS.ishl X40.here hx rfl (hb hby at_87) rfl k) ?_
              by_cases hc88_43 : y4 = ((1 : Int32) <<< (y11 &&& 31))
              · refine own_go (U' := T40.setTop (mkF m 91 #[.val (.int p0), .val (.int p1), .val (.int p2), .val (.int y4), .val (.int y11), .val (.ref b24), .unset, .unset, .unset] [])) (fun _ k => XS.icmpNo X40.here hx rfl (hb hby at_88) rfl (teq hc88_43).2 k) ?_
                refine own_go (U' := T40.setTop (mkF m 92 #[.val (.int p0), .val (.int p1), .val (.int p2), .val (.int y4), .val (.int y11), .val (.ref b24), .unset, .unset, .unset] [(.int (1 : Int32))])) (fun _ k => XS.iconst X40.here hx rfl (hb hby at_91) k) ?_
                refine own_go (U' := T40.setTop (mkF m 96 #[.val (.int p0), .val (.int p1), .val (.int p2), .val (.int y4), .val (.int y11), .val (.ref b24), .unset, .unset, .unset] [(.int (1 : Int32))])) (fun _ k => XS.goto X40.here hx rfl (pc0 := 92) (pc' := 96) rfl (hb hby at_92) (by decide) (by decide) k) ?_
                simp only [if_pos hc80_42, if_pos hc88_43] at hz80
                subst hz80
                exact J80_41
              · refine own_go (U' := T40.setTop (mkF m 95 #[.val (.int p0), .val (.int p1), .val (.int p2), .val (.int y4), .val (.int y11), .val (.ref b24), .unset, .unset, .unset] [])) (fun _ k => XS.icmpYes X40.here hx rfl (pc0 := 88) (pc' := 95) rfl (hb hby at_88) rfl (feq hc88_43).2 (by decide) (by decide) k) ?_
                refine own_go (U' := T40.setTop (mkF m 96 #[.val (.int p0), .val (.int p1), .val (.int p2), .val (.int y4), .val (.int y11), .val (.ref b24), .unset, .unset, .unset] [(.int (0 : Int32))])) (fun _ k => XS.iconst X40.here hx rfl (hb hby at_95) k) ?_
                simp only [if_pos hc80_42, if_neg hc88_43] at hz80
                subst hz80
                exact J80_41
            · refine own_go (U' := T40.setTop (mkF m 95 #[.val (.int p0), .val (.int p1), .val (.int p2), .val (.int y4), .val (.int y11), .val (.ref b24), .unset, .unset, .unset] [])) (fun _ k => XS.ifYes X40.here hx rfl (pc0 := 80) (pc' := 95) rfl (hb hby at_80) rfl ((if0 _ _).trans (flt hc80_42).2.2.2) (by decide) (by decide) k) ?_
              refine own_go (U' := T40.setTop (mkF m 96 #[.val (.int p0), .val (.int p1), .val (.int p2), .val (.int y4), .val (.int y11), .val (.ref b24), .unset, .unset, .unset] [(.int (0 : Int32))])) (fun _ k => XS.iconst X40.here hx rfl (hb hby at_95) k) ?_
              simp only [if_neg hc80_42] at hz80
              subst hz80
              exact J80_41
          · refine own_go (U' := T40.setTop (mkF m 98 #[.val (.int p0), .val (.int p1), .val (.int p2), .val (.int y4), .val (.int y11), .val (.ref b24), .val (.int z80), .unset, .unset] [])) (fun _ k => XS.istore X40.here hx rfl (hb hby at_96) rfl (l' := #[.val (.int p0), .val (.int p1), .val (.int p2), .val (.int y4), .val (.int y11), .val (.ref b24), .val (.int z80), .unset, .unset]) rfl k) ?_
            refine own_go (U' := T40.setTop (mkF m 99 #[.val (.int p0), .val (.int p1), .val (.int p2), .val (.int y4), .val (.int y11), .val (.ref b24), .val (.int z80), .unset, .unset] [(.int p0)])) (fun _ k => XS.iloadN X40.here hx rfl (hb hby at_98) rfl k) ?_
            refine own_go (U' := T40.setTop (mkF m 101 #[.val (.int p0), .val (.int p1), .val (.int p2), .val (.int y4), .val (.int y11), .val (.ref b24), .val (.int z80), .unset, .unset] [(.ref b24), (.int p0)])) (fun _ k => XS.aload X40.here hx rfl (hb hby at_99) rfl rfl k) ?_
            refine own_go (U' := T40.setTop (mkF m 103 #[.val (.int p0), .val (.int p1), .val (.int p2), .val (.int y4), .val (.int y11), .val (.ref b24), .val (.int z80), .unset, .unset] [(.int y11), (.ref b24), (.int p0)])) (fun _ k => XS.iload X40.here hx rfl (hb hby at_101) rfl k) ?_
            obtain ⟨hk4a, hk4b⟩ := own_k4 (own_rem hy11)
            obtain ⟨_, _, ⟨T44, L44, k44, n44⟩, -, X44, ⟨Lc44, hQ44, l44, y44, z44⟩, st44⟩ := Jvm.LawKit.callS X40 hx (y := (⟨"com/example/layout_to_evidence/layouttoevidence/TableRows", "namesGroup", "(I[ZI)Z"⟩ : MethodName)) hown (mvT hZ (hw _ (List.mem_of_getElem? (i := 2) rfl))) (mvT hZ (hw _ (List.mem_of_getElem? (i := 3) rfl))) (mvT hZ (hw _ (List.mem_of_getElem? (i := 4) rfl))) (mvT hZ (hw _ (List.mem_of_getElem? (i := 5) rfl))) (by decide) (backOf (W := 0) (rm1 l Z a0 hw [] p0 b24 y11 k24 (nar .boolean z24) (nar .boolean z39) (nar .boolean z54) (nar .boolean z70) h40 n0 Z40 w40 (by first | assumption | decide) (by first | assumption | decide)) hZ (hw _ (List.mem_of_getElem? (i := 5) rfl)) (hw _ (List.mem_of_getElem? (i := 4) rfl)) (by decide) (by decide)) (g := (mkF m 103 #[.val (.int p0), .val (.int p1), .val (.int p2), .val (.int y4), .val (.int y11), .val (.ref b24), .val (.int z80), .unset, .unset] [(.int y11), (.ref b24), (.int p0)])) rfl (by rw [hml]; rfl) (argsL := [(.int p0), (.ref b24), (.int y11)]) (rest := []) (lenOf own_pd0 rfl) rfl (by show 2 * 0 + _ ≤ _; exact Nat.le_of_eq rfl) (hb hby at_103) (fun _ _ => ⟨rfl, e40, (by decide : 1 + 0 ≤ _), (by decide : 4 + 0 ≤ _)⟩)
            dsimp only [Pt.U, Pt.locs, Pt.cells, Pt.slots] at X44 l44 y44 z44 st44 hQ44
            subst l44 y44 z44
            obtain ⟨rfl, N44q, e44⟩ := hQ44
            have N44 := Fr.app N40 N44q
            refine own_go (U' := T44.setTop (mkF m 106 #[.val (.int p0), .val (.int p1), .val (.int p2), .val (.int y4), .val (.int y11), .val (.ref b24), .val (.int z80), .unset, .unset] [(.int (f_1 p0 b24 y11 k24 (nar .boolean z24) (nar .boolean z39) (nar .boolean z54) (nar .boolean z70)))])) (fun _ k => st44 _ k) ?_
            generalize hy106 : (f_1 p0 b24 y11 k24 (nar .boolean z24) (nar .boolean z39) (nar .boolean z54) (nar .boolean z70)) = y106
            refine own_go (U' := T44.setTop (mkF m 108 #[.val (.int p0), .val (.int p1), .val (.int p2), .val (.int y4), .val (.int y11), .val (.ref b24), .val (.int z80), .val (.int y106), .unset] [])) (fun _ k => XS.istore X44.here hx rfl (hb hby at_106) rfl (l' := #[.val (.int p0), .val (.int p1), .val (.int p2), .val (.int y4), .val (.int y11), .val (.ref b24), .val (.int z80), .val (.int y106), .unset]) rfl k) ?_
            refine own_go (U' := T44.setTop (mkF m 110 #[.val (.int p0), .val (.int p1), .val (.int p2), .val (.int y4), .val (.int y11), .val (.ref b24), .val (.int z80), .val (.int y106), .unset] [(.ref b24)])) (fun _ k => XS.aload X44.here hx rfl (hb hby at_108) rfl rfl k) ?_
            refine own_go (U' := T44.setTop (mkF m 111 #[.val (.int p0), .val (.int p1), .val (.int p2), .val (.int y4), .val (.int y11), .val (.ref b24), .val (.int z80), .val (.int y106), .unset] [(.int (0 : Int32)), (.ref b24)])) (fun _ k => XS.iconst X44.here hx rfl (hb hby at_110) k) ?_
            have V45 := w40
            obtain ⟨cl45, Ar45, q45, S45, Ng45, Hh45, G45⟩ := V45
            have hj45 : ¬ (0 : Int32) < 0 ∧ (0 : Int32) < (4 : Int32) := ⟨by decide, by decide⟩
            have hat45 := own_at S45 Hh45 hj45 (i := 0) (v := (.int (nar .boolean z24))) rfl rfl
            refine own_go (U' := T44.setTop (mkF m 112 #[.val (.int p0), .val (.int p1), .val (.int p2), .val (.int y4), .val (.int y11), .val (.ref b24), .val (.int z80), .val (.int y106), .unset] [(.int (nar .boolean z24))])) (fun _ k => X44.baloadBooleans hx (j := (0 : Int32)) (v := (.int (nar .boolean z24))) (by rw [e44]; exact Ar45.1) (State.isArrayOf_alike hZ.alike Ar45.2.1) Ar45.2.2 (inb_of S45 hj45) hat45 (g := (mkF m 111 #[.val (.int p0), .val (.int p1), .val (.int p2), .val (.int y4), .val (.int y11), .val (.ref b24), .val (.int z80), .val (.int y106), .unset] [(.int (0 : Int32)), (.ref b24)])) rfl rfl (hb hby at_111) _ k) ?_
            refine own_go (U' := T44.setTop (mkF m 113 #[.val (.int p0), .val (.int p1), .val (.int p2), .val (.int y4), .val (.int y11), .val (.ref b24), .val (.int z80), .val (.int y106), .unset] [(.int y4), (.int (nar .boolean z24))])) (fun _ k => XS.iloadN X44.here hx rfl (hb hby at_112) rfl k) ?_
            refine own_go (U' := T44.setTop (mkF m 114 #[.val (.int p0), .val (.int p1), .val (.int p2), .val (.int y4), .val (.int y11), .val (.ref b24), .val (.int z80), .val (.int y106), .unset] [(.int (1 : Int32)), (.int y4), (.int (nar .boolean z24))])) (fun _ k => XS.iconst X44.here hx rfl (hb hby at_113) k) ?_
            refine own_go (U' := T44.setTop (mkF m 115 #[.val (.int p0), .val (.int p1), .val (.int p2), .val (.int y4), .val (.int y11), .val (.ref b24), .val (.int z80), .val (.int y106), .unset] [(.int (y4 &&& (1 : Int32))), (.int (nar .boolean z24))])) (fun _ k => XS.iand X44.here hx rfl (hb hby at_114) rfl k) ?_
            obtain ⟨z115, hz115⟩ : ∃ z : Int32, z = (if (y4 &&& (1 : Int32)) = (0 : Int32) then (0 : Int32) else (1 : Int32)) := ⟨_, rfl⟩
            refine own_join (U' := T44.setTop (mkF m 123 #[.val (.int p0), .val (.int p1), .val (.int p2), .val (.int y4), .val (.int y11), .val (.ref b24), .val (.int z80), .val (.int y106), .unset] [(.int z115), (.int (nar .boolean z24))])) (fun J115_46 => ?_) ?_
            · by_cases hc115_47 : (y4 &&& (1 : Int32)) = (0 : Int32)
              · refine own_go (U' := T44.setTop (mkF m 122 #[.val (.int p0), .val (.int p1), .val (.int p2), .val (.int y4), .val (.int y11), .val (.ref b24), .val (.int z80), .val (.int y106), .unset] [(.int (nar .boolean z24))])) (fun _ k => XS.ifYes X44.here hx rfl (pc0 := 115) (pc' := 122) rfl (hb hby at_115) rfl ((if0 _ _).trans (teq hc115_47).1) (by decide) (by decide) k) ?_
                refine own_go (U' := T44.setTop (mkF m 123 #[.val (.int p0), .val (.int p1), .val (.int p2), .val (.int y4), .val (.int y11), .val (.ref b24), .val (.int z80), .val (.int y106), .unset] [(.int (0 : Int32)), (.int (nar .boolean z24))])) (fun _ k => XS.iconst X44.here hx rfl (hb hby at_122) k) ?_
                simp only [if_pos hc115_47] at hz115
                subst hz115
                exact J115_46
              · refine own_go (U' := T44.setTop (mkF m 118 #[.val (.int p0), .val (.int p1), .val (.int p2), .val (.int y4), .val (.int y11), .val (.ref b24), .val (.int z80), .val (.int y106), .unset] [(.int (nar .boolean z24))])) (fun _ k => XS.ifNo X44.here hx rfl (hb hby at_115) rfl ((if0 _ _).trans (feq hc115_47).1) k) ?_
                refine own_go (U' := T44.setTop (mkF m 119 #[.val (.int p0), .val (.int p1), .val (.int p2), .val (.int y4), .val (.int y11), .val (.ref b24), .val (.int z80), .val (.int y106), .unset] [(.int (1 : Int32)), (.int (nar .boolean z24))])) (fun _ k => XS.iconst X44.here hx rfl (hb hby at_118) k) ?_
                refine own_go (U' := T44.setTop (mkF m 123 #[.val (.int p0), .val (.int p1), .val (.int p2), .val (.int y4), .val (.int y11), .val (.ref b24), .val (.int z80), .val (.int y106), .unset] [(.int (1 : Int32)), (.int (nar .boolean z24))])) (fun _ k => XS.goto X44.here hx rfl (pc0 := 119) (pc' := 123) rfl (hb hby at_119) (by decide) (by decide) k) ?_
                simp only [if_neg hc115_47] at hz115
                subst hz115
                exact J115_46
            · have hc123_48 : (nar .boolean z24) = z115 := own_bit hz24 hz115
              refine own_go (U' := T44.setTop (mkF m 126 #[.val (.int p0), .val (.int p1), .val (.int p2), .val (.int y4), .val (.int y11), .val (.ref b24), .val (.int z80), .val (.int y106), .unset] [])) (fun _ k => XS.icmpNo X44.here hx rfl (hb hby at_123) rfl (teq hc123_48).2 k) ?_
              refine own_go (U' := T44.setTop (mkF m 128 #[.val (.int p0), .val (.int p1), .val (.int p2), .val (.int y4), .val (.int y11), .val (.ref b24), .val (.int z80), .val (.int y106), .unset] [(.ref b24)])) (fun _ k => XS.aload X44.here hx rfl (hb hby at_126) rfl rfl k) ?_
              refine own_go (U' := T44.setTop (mkF m 129 #[.val (.int p0), .val (.int p1), .val (.int p2), .val (.int y4), .val (.int y11), .val (.ref b24), .val (.int z80), .val (.int y106), .unset] [(.int (1 : Int32)), (.ref b24)])) (fun _ k => XS.iconst X44.here hx rfl (hb hby at_128) k) ?_
              have V49 := w40
              obtain ⟨cl49, Ar49, q49, S49, Ng49, Hh49, G49⟩ := V49
              have hj49 : ¬ (1 : Int32) < 0 ∧ (1 : Int32) < (4 : Int32) := ⟨by decide, by decide⟩
              have hat49 := own_at S49 Hh49 hj49 (i := 1) (v := (.int (nar .boolean z39))) rfl rfl
              refine own_go (U' := T44.setTop (mkF m 130 #[.val (.int p0), .val (.int p1), .val (.int p2), .val (.int y4), .val (.int y11), .val (.ref b24), .val (.int z80), .val (.int y106), .unset] [(.int (nar .boolean z39))])) (fun _ k => X44.baloadBooleans hx (j := (1 : Int32)) (v := (.int (nar .boolean z39))) (by rw [e44]; exact Ar49.1) (State.isArrayOf_alike hZ.alike Ar49.2.1) Ar49.2.2 (inb_of S49 hj49) hat49 (g := (mkF m 129 #[.val (.int p0), .val (.int p1), .val (.int p2), .val (.int y4), .val (.int y11), .val (.ref b24), .val (.int z80), .val (.int y106), .unset] [(.int (1 : Int32)), (.ref b24)])) rfl rfl (hb hby at_129) _ k) ?_
              refine own_go (U' := T44.setTop (mkF m 131 #[.val (.int p0), .val (.int p1), .val (.int p2), .val (.int y4), .val (.int y11), .val (.ref b24), .val (.int z80), .val (.int y106), .unset] [(.int y4), (.int (nar .boolean z39))])) (fun _ k => XS.iloadN X44.here hx rfl (hb hby at_130) rfl k) ?_
              refine own_go (U' := T44.setTop (mkF m 132 #[.val (.int p0), .val (.int p1), .val (.int p2), .val (.int y4), .val (.int y11), .val (.ref b24), .val (.int z80), .val (.int y106), .unset] [(.int (2 : Int32)), (.int y4), (.int (nar .boolean z39))])) (fun _ k => XS.iconst X44.here hx rfl (hb hby at_131) k) ?_
              refine own_go (U' := T44.setTop (mkF m 133 #[.val (.int p0), .val (.int p1), .val (.int p2), .val (.int y4), .val (.int y11), .val (.ref b24), .val (.int z80), .val (.int y106), .unset] [(.int (y4 &&& (2 : Int32))), (.int (nar .boolean z39))])) (fun _ k => XS.iand X44.here hx rfl (hb hby at_132) rfl k) ?_
              obtain ⟨z133, hz133⟩ : ∃ z : Int32, z = (if (y4 &&& (2 : Int32)) = (0 : Int32) then (0 : Int32) else (1 : Int32)) := ⟨_, rfl⟩
              refine own_join (U' := T44.setTop (mkF m 141 #[.val (.int p0), .val (.int p1), .val (.int p2), .val (.int y4), .val (.int y11), .val (.ref b24), .val (.int z80), .val (.int y106), .unset] [(.int z133), (.int (nar .boolean z39))])) (fun J133_50 => ?_) ?_
              · by_cases hc133_51 : (y4 &&& (2 : Int32)) = (0 : Int32)
                · refine own_go (U' := T44.setTop (mkF m 140 #[.val (.int p0), .val (.int p1), .val (.int p2), .val (.int y4), .val (.int y11), .val (.ref b24), .val (.int z80), .val (.int y106), .unset] [(.int (nar .boolean z39))])) (fun _ k => XS.ifYes X44.here hx rfl (pc0 := 133) (pc' := 140) rfl (hb hby at_133) rfl ((if0 _ _).trans (teq hc133_51).1) (by decide) (by decide) k) ?_
                  refine own_go (U' := T44.setTop (mkF m 141 #[.val (.int p0), .val (.int p1), .val (.int p2), .val (.int y4), .val (.int y11), .val (.ref b24), .val (.int z80), .val (.int y106), .unset] [(.int (0 : Int32)), (.int (nar .boolean z39))])) (fun _ k => XS.iconst X44.here hx rfl (hb hby at_140) k) ?_
                  simp only [if_pos hc133_51] at hz133
                  subst hz133
                  exact J133_50
                · refine own_go (U' := T44.setTop (mkF m 136 #[.val (.int p0), .val (.int p1), .val (.int p2), .val (.int y4), .val (.int y11), .val (.ref b24), .val (.int z80), .val (.int y106), .unset] [(.int (nar .boolean z39))])) (fun _ k => XS.ifNo X44.here hx rfl (hb hby at_133) rfl ((if0 _ _).trans (feq hc133_51).1) k) ?_
                  refine own_go (U' := T44.setTop (mkF m 137 #[.val (.int p0), .val (.int p1), .val (.int p2), .val (.int y4), .val (.int y11), .val (.ref b24), .val (.int z80), .val (.int y106), .unset] [(.int (1 : Int32)), (.int (nar .boolean z39))])) (fun _ k => XS.iconst X44.here hx rfl (hb hby at_136) k) ?_
                  refine own_go (U' := T44.setTop (mkF m 141 #[.val (.int p0), .val (.int p1), .val (.int p2), .val (.int y4), .val (.int y11), .val (.ref b24), .val (.int z80), .val (.int y106), .unset] [(.int (1 : Int32)), (.int (nar .boolean z39))])) (fun _ k => XS.goto X44.here hx rfl (pc0 := 137) (pc' := 141) rfl (hb hby at_137) (by decide) (by decide) k) ?_
                  simp only [if_neg hc133_51] at hz133
                  subst hz133
                  exact J133_50
              · have hc141_52 : (nar .boolean z39) = z133 := own_bit hz39 hz133
                refine own_go (U' := T44.setTop (mkF m 144 #[.val (.int p0), .val (.int p1), .val (.int p2), .val (.int y4), .val (.int y11), .val (.ref b24), .val (.int z80), .val (.int y106), .unset] [])) (fun _ k => XS.icmpNo X44.here hx rfl (hb hby at_141) rfl (teq hc141_52).2 k) ?_
                refine own_go (U' := T44.setTop (mkF m 146 #[.val (.int p0), .val (.int p1), .val (.int p2), .val (.int y4), .val (.int y11), .val (.ref b24), .val (.int z80), .val (.int y106), .unset] [(.ref b24)])) (fun _ k => XS.aload X44.here hx rfl (hb hby at_144) rfl rfl k) ?_
                refine own_go (U' := T44.setTop (mkF m 147 #[.val (.int p0), .val (.int p1), .val (.int p2), .val (.int y4), .val (.int y11), .val (.ref b24), .val (.int z80), .val (.int y106), .unset] [(.int (2 : Int32)), (.ref b24)])) (fun _ k => XS.iconst X44.here hx rfl (hb hby at_146) k) ?_
                have V53 := w40
                obtain ⟨cl53, Ar53, q53, S53, Ng53, Hh53, G53⟩ := V53
                have hj53 : ¬ (2 : Int32) < 0 ∧ (2 : Int32) < (4 : Int32) := ⟨by decide, by decide⟩
                have hat53 := own_at S53 Hh53 hj53 (i := 2) (v := (.int (nar .boolean z54))) rfl rfl
                refine own_go (U' := T44.setTop (mkF m 148 #[.val (.int p0), .val (.int p1), .val (.int p2), .val (.int y4), .val (.int y11), .val (.ref b24), .val (.int z80), .val (.int y106), .unset] [(.int (nar .boolean z54))])) (fun _ k => X44.baloadBooleans hx (j := (2 : Int32)) (v := (.int (nar .boolean z54))) (by rw [e44]; exact Ar53.1) (State.isArrayOf_alike hZ.alike Ar53.2.1) Ar53.2.2 (inb_of S53 hj53) hat53 (g := (mkF m 147 #[.val (.int p0), .val (.int p1), .val (.int p2), .val (.int y4), .val (.int y11), .val (.ref b24), .val (.int z80), .val (.int y106), .unset] [(.int (2 : Int32)), (.ref b24)])) rfl rfl (hb hby at_147) _ k) ?_
                refine own_go (U' := T44.setTop (mkF m 149 #[.val (.int p0), .val (.int p1), .val (.int p2), .val (.int y4), .val (.int y11), .val (.ref b24), .val (.int z80), .val (.int y106), .unset] [(.int y4), (.int (nar .boolean z54))])) (fun _ k => XS.iloadN X44.here hx rfl (hb hby at_148) rfl k) ?_
                refine own_go (U' := T44.setTop (mkF m 150 #[.val (.int p0), .val (.int p1), .val (.int p2), .val (.int y4), .val (.int y11), .val (.ref b24), .val (.int z80), .val (.int y106), .unset] [(.int (4 : Int32)), (.int y4), (.int (nar .boolean z54))])) (fun _ k => XS.iconst X44.here hx rfl (hb hby at_149) k) ?_
                refine own_go (U' := T44.setTop (mkF m 151 #[.val (.int p0), .val (.int p1), .val (.int p2), .val (.int y4), .val (.int y11), .val (.ref b24), .val (.int z80), .val (.int y106), .unset] [(.int (y4 &&& (4 : Int32))), (.int (nar .boolean z54))])) (fun _ k => XS.iand X44.here hx rfl (hb hby at_150) rfl k) ?_
                obtain ⟨z151, hz151⟩ : ∃ z : Int32, z = (if (y4 &&& (4 : Int32)) = (0 : Int32) then (0 : Int32) else (1 : Int32)) := ⟨_, rfl⟩
                refine own_join (U' := T44.setTop (mkF m 159 #[.val (.int p0), .val (.int p1), .val (.int p2), .val (.int y4), .val (.int y11), .val (.ref b24), .val (.int z80), .val (.int y106), .unset] [(.int z151), (.int (nar .boolean z54))])) (fun J151_54 => ?_) ?_
                · by_cases hc151_55 : (y4 &&& (4 : Int32)) = (0 : Int32)
                  · refine own_go (U' := T44.setTop (mkF m 158 #[.val (.int p0), .val (.int p1), .val (.int p2), .val (.int y4), .val (.int y11), .val (.ref b24), .val (.int z80), .val (.int y106), .unset] [(.int (nar .boolean z54))])) (fun _ k => XS.ifYes X44.here hx rfl (pc0 := 151) (pc' := 158) rfl (hb hby at_151) rfl ((if0 _ _).trans (teq hc151_55).1) (by decide) (by decide) k) ?_
                    refine own_go (U' := T44.setTop (mkF m 159 #[.val (.int p0), .val (.int p1), .val (.int p2), .val (.int y4), .val (.int y11), .val (.ref b24), .val (.int z80), .val (.int y106), .unset] [(.int (0 : Int32)), (.int (nar .boolean z54))])) (fun _ k => XS.iconst X44.here hx rfl (hb hby at_158) k) ?_
                    simp only [if_pos hc151_55] at hz151
                    subst hz151
                    exact J151_54
                  · refine own_go (U' := T44.setTop (mkF m 154 #[.val (.int p0), .val (.int p1), .val (.int p2), .val (.int y4), .val (.int y11), .val (.ref b24), .val (.int z80), .val (.int y106), .unset] [(.int (nar .boolean z54))])) (fun _ k => XS.ifNo X44.here hx rfl (hb hby at_151) rfl ((if0 _ _).trans (feq hc151_55).1) k) ?_
                    refine own_go (U' := T44.setTop (mkF m 155 #[.val (.int p0), .val (.int p1), .val (.int p2), .val (.int y4), .val (.int y11), .val (.ref b24), .val (.int z80), .val (.int y106), .unset] [(.int (1 : Int32)), (.int (nar .boolean z54))])) (fun _ k => XS.iconst X44.here hx rfl (hb hby at_154) k) ?_
                    refine own_go (U' := T44.setTop (mkF m 159 #[.val (.int p0), .val (.int p1), .val (.int p2), .val (.int y4), .val (.int y11), .val (.ref b24), .val (.int z80), .val (.int y106), .unset] [(.int (1 : Int32)), (.int (nar .boolean z54))])) (fun _ k => XS.goto X44.here hx rfl (pc0 := 155) (pc' := 159) rfl (hb hby at_155) (by decide) (by decide) k) ?_
                    simp only [if_neg hc151_55] at hz151
                    subst hz151
                    exact J151_54
                · have hc159_56 : (nar .boolean z54) = z151 := own_bit hz54 hz151
                  refine own_go (U' := T44.setTop (mkF m 162 #[.val (.int p0), .val (.int p1), .val (.int p2), .val (.int y4), .val (.int y11), .val (.ref b24), .val (.int z80), .val (.int y106), .unset] [])) (fun _ k => XS.icmpNo X44.here hx rfl (hb hby at_159) rfl (teq hc159_56).2 k) ?_
                  refine own_go (U' := T44.setTop (mkF m 164 #[.val (.int p0), .val (.int p1), .val (.int p2), .val (.int y4), .val (.int y11), .val (.ref b24), .val (.int z80), .val (.int y106), .unset] [(.ref b24)])) (fun _ k => XS.aload X44.here hx rfl (hb hby at_162) rfl rfl k) ?_
                  refine own_go (U' := T44.setTop (mkF m 165 #[.val (.int p0), .val (.int p1), .val (.int p2), .val (.int y4), .val (.int y11), .val (.ref b24), .val (.int z80), .val (.int y106), .unset] [(.int (3 : Int32)), (.ref b24)])) (fun _ k => XS.iconst X44.here hx rfl (hb hby at_164) k) ?_
                  have V57 := w40
                  obtain ⟨cl57, Ar57, q57, S57, Ng57, Hh57, G57⟩ := V57
                  have hj57 : ¬ (3 : Int32) < 0 ∧ (3 : Int32) < (4 : Int32) := ⟨by decide, by decide⟩
                  have hat57 := own_at S57 Hh57 hj57 (i := 3) (v := (.int (nar .boolean z70))) rfl rfl
                  refine own_go (U' := T44.setTop (mkF m 166 #[.val (.int p0), .val (.int p1), .val (.int p2), .val (.int y4), .val (.int y11), .val (.ref b24), .val (.int z80), .val (.int y106), .unset] [(.int (nar .boolean z70))])) (fun _ k => X44.baloadBooleans hx (j := (3 : Int32)) (v := (.int (nar .boolean z70))) (by rw [e44]; exact Ar57.1) (State.isArrayOf_alike hZ.alike Ar57.2.1) Ar57.2.2 (inb_of S57 hj57) hat57 (g := (mkF m 165 #[.val (.int p0), .val (.int p1), .val (.int p2), .val (.int y4), .val (.int y11), .val (.ref b24), .val (.int z80), .val (.int y106), .unset] [(.int (3 : Int32)), (.ref b24)])) rfl rfl (hb hby at_165) _ k) ?_
                  refine own_go (U' := T44.setTop (mkF m 167 #[.val (.int p0), .val (.int p1), .val (.int p2), .val (.int y4), .val (.int y11), .val (.ref b24), .val (.int z80), .val (.int y106), .unset] [(.int y4), (.int (nar .boolean z70))])) (fun _ k => XS.iloadN X44.here hx rfl (hb hby at_166) rfl k) ?_
                  refine own_go (U' := T44.setTop (mkF m 169 #[.val (.int p0), .val (.int p1), .val (.int p2), .val (.int y4), .val (.int y11), .val (.ref b24), .val (.int z80), .val (.int y106), .unset] [(.int (8 : Int32)), (.int y4), (.int (nar .boolean z70))])) (fun _ k => XS.bipush X44.here hx rfl (hb hby at_167) k) ?_
                  refine own_go (U' := T44.setTop (mkF m 170 #[.val (.int p0), .val (.int p1), .val (.int p2), .val (.int y4), .val (.int y11), .val (.ref b24), .val (.int z80), .val (.int y106), .unset] [(.int (y4 &&& (8 : Int32))), (.int (nar .boolean z70))])) (fun _ k => XS.iand X44.here hx rfl (hb hby at_169) rfl k) ?_
                  obtain ⟨z170, hz170⟩ : ∃ z : Int32, z = (if (y4 &&& (8 : Int32)) = (0 : Int32) then (0 : Int32) else (1 : Int32)) := ⟨_, rfl⟩
                  refine own_join (U' := T44.setTop (mkF m 178 #[.val (.int p0), .val (.int p1), .val (.int p2), .val (.int y4), .val (.int y11), .val (.ref b24), .val (.int z80), .val (.int y106), .unset] [(.int z170), (.int (nar .boolean z70))])) (fun J170_58 => ?_) ?_
                  · by_cases hc170_59 : (y4 &&& (8 : Int32)) = (0 : Int32)
                    · refine own_go (U' := T44.setTop (mkF m 177 #[.val (.int p0), .val (.int p1), .val (.int p2), .val (.int y4), .val (.int y11), .val (.ref b24), .val (.int z80), .val (.int y106), .unset] [(.int (nar .boolean z70))])) (fun _ k => XS.ifYes X44.here hx rfl (pc0 := 170) (pc' := 177) rfl (hb hby at_170) rfl ((if0 _ _).trans (teq hc170_59).1) (by decide) (by decide) k) ?_
                      refine own_go (U' := T44.setTop (mkF m 178 #[.val (.int p0), .val (.int p1), .val (.int p2), .val (.int y4), .val (.int y11), .val (.ref b24), .val (.int z80), .val (.int y106), .unset] [(.int (0 : Int32)), (.int (nar .boolean z70))])) (fun _ k => XS.iconst X44.here hx rfl (hb hby at_177) k) ?_
                      simp only [if_pos hc170_59] at hz170
                      subst hz170
                      exact J170_58
                    · refine own_go (U' := T44.setTop (mkF m 173 #[.val (.int p0), .val (.int p1), .val (.int p2), .val (.int y4), .val (.int y11), .val (.ref b24), .val (.int z80), .val (.int y106), .unset] [(.int (nar .boolean z70))])) (fun _ k => XS.ifNo X44.here hx rfl (hb hby at_170) rfl ((if0 _ _).trans (feq hc170_59).1) k) ?_
                      refine own_go (U' := T44.setTop (mkF m 174 #[.val (.int p0), .val (.int p1), .val (.int p2), .val (.int y4), .val (.int y11), .val (.ref b24), .val (.int z80), .val (.int y106), .unset] [(.int (1 : Int32)), (.int (nar .boolean z70))])) (fun _ k => XS.iconst X44.here hx rfl (hb hby at_173) k) ?_
                      refine own_go (U' := T44.setTop (mkF m 178 #[.val (.int p0), .val (.int p1), .val (.int p2), .val (.int y4), .val (.int y11), .val (.ref b24), .val (.int z80), .val (.int y106), .unset] [(.int (1 : Int32)), (.int (nar .boolean z70))])) (fun _ k => XS.goto X44.here hx rfl (pc0 := 174) (pc' := 178) rfl (hb hby at_174) (by decide) (by decide) k) ?_
                      simp only [if_neg hc170_59] at hz170
                      subst hz170
                      exact J170_58
                  · have hc178_60 : (nar .boolean z70) = z170 := own_bit hz70 hz170
                    refine own_go (U' := T44.setTop (mkF m 181 #[.val (.int p0), .val (.int p1), .val (.int p2), .val (.int y4), .val (.int y11), .val (.ref b24), .val (.int z80), .val (.int y106), .unset] [])) (fun _ k => XS.icmpNo X44.here hx rfl (hb hby at_178) rfl (teq hc178_60).2 k) ?_
                    refine own_go (U' := T44.setTop (mkF m 182 #[.val (.int p0), .val (.int p1), .val (.int p2), .val (.int y4), .val (.int y11), .val (.ref b24), .val (.int z80), .val (.int y106), .unset] [(.int (1 : Int32))])) (fun _ k => XS.iconst X44.here hx rfl (hb hby at_181) k) ?_
                    refine own_go (U' := T44.setTop (mkF m 186 #[.val (.int p0), .val (.int p1), .val (.int p2), .val (.int y4), .val (.int y11), .val (.ref b24), .val (.int z80), .val (.int y106), .unset] [(.int (1 : Int32))])) (fun _ k => XS.goto X44.here hx rfl (pc0 := 182) (pc' := 186) rfl (hb hby at_182) (by decide) (by decide) k) ?_
                    refine own_go (U' := T44.setTop (mkF m 188 #[.val (.int p0), .val (.int p1), .val (.int p2), .val (.int y4), .val (.int y11), .val (.ref b24), .val (.int z80), .val (.int y106), .val (.int (1 : Int32))] [])) (fun _ k => XS.istore X44.here hx rfl (hb hby at_186) rfl (l' := #[.val (.int p0), .val (.int p1), .val (.int p2), .val (.int y4), .val (.int y11), .val (.ref b24), .val (.int z80), .val (.int y106), .val (.int (1 : Int32))]) rfl k) ?_
                    refine own_go (U' := T44.setTop (mkF m 190 #[.val (.int p0), .val (.int p1), .val (.int p2), .val (.int y4), .val (.int y11), .val (.ref b24), .val (.int z80), .val (.int y106), .val (.int (1 : Int32))] [(.int y106)])) (fun _ k => XS.iload X44.here hx rfl (hb hby at_188) rfl k) ?_
                    refine own_go (U' := T44.setTop (mkF m 192 #[.val (.int p0), .val (.int p1), .val (.int p2), .val (.int y4), .val (.int y11), .val (.ref b24), .val (.int z80), .val (.int y106), .val (.int (1 : Int32))] [(.int z80), (.int y106)])) (fun _ k => XS.iload X44.here hx rfl (hb hby at_190) rfl k) ?_
                    have hc192_61 : y106 = z80 := hy106.symm.trans (own_main hy4 hy11 hz24 hz39 hz54 hz70 hz80)
                    refine own_go (U' := T44.setTop (mkF m 195 #[.val (.int p0), .val (.int p1), .val (.int p2), .val (.int y4), .val (.int y11), .val (.ref b24), .val (.int z80), .val (.int y106), .val (.int (1 : Int32))] [])) (fun _ k => XS.icmpNo X44.here hx rfl (hb hby at_192) rfl (teq hc192_61).2 k) ?_
                    refine own_go (U' := T44.setTop (mkF m 197 #[.val (.int p0), .val (.int p1), .val (.int p2), .val (.int y4), .val (.int y11), .val (.ref b24), .val (.int z80), .val (.int y106), .val (.int (1 : Int32))] [(.int (1 : Int32))])) (fun _ k => XS.iload X44.here hx rfl (hb hby at_195) rfl k) ?_
                    refine own_go (U' := T44.setTop (mkF m 200 #[.val (.int p0), .val (.int p1), .val (.int p2), .val (.int y4), .val (.int y11), .val (.ref b24), .val (.int z80), .val (.int y106), .val (.int (1 : Int32))] [])) (fun _ k => XS.ifNo X44.here hx rfl (hb hby at_197) rfl ((if0 _ _).trans (feq (by decide : ¬ ((1 : Int32) = (0 : Int32)))).1) k) ?_
                    refine own_go (U' := T44.setTop (mkF m 201 #[.val (.int p0), .val (.int p1), .val (.int p2), .val (.int y4), .val (.int y11), .val (.ref b24), .val (.int z80), .val (.int y106), .val (.int (1 : Int32))] [(.int (1 : Int32))])) (fun _ k => XS.iconst X44.here hx rfl (hb hby at_200) k) ?_
                    refine own_go (U' := T44.setTop (mkF m 205 #[.val (.int p0), .val (.int p1), .val (.int p2), .val (.int y4), .val (.int y11), .val (.ref b24), .val (.int z80), .val (.int y106), .val (.int (1 : Int32))] [(.int (1 : Int32))])) (fun _ k => XS.goto X44.here hx rfl (pc0 := 201) (pc' := 205) rfl (hb hby at_201) (by decide) (by decide) k) ?_
                    refine own_ret X44 (v := (some (.int (1 : Int32)))) hlk (fun h => by rw [Bd.returns] at h; cases h) (by decide) (by decide) (fun fs hr => retN X44 hx (t := .boolean) Bd.returns (by simp) (hb hby at_205) hr) ?_
                    show (Q0 Z p0 p1 p2 h0 n0) _ T44.heap _
                    rw [e44]
                    exact ⟨rfl, N44⟩
set_option maxRecDepth 65536 in
set_option maxHeartbeats 40000000 in
theorem comes_1 {Post : Tables → Env → Array Value → State → Outcome → State → Prop} (hpost : ∀ tb e args s v u, (limb_1_1.after args s (.returned v) u = true ∧ limb_1_2.after args s (.returned v) u = true ∧ True) → FrameEnd s (.returned v) u (Jvm.fieldLocs frame_1_writes args s ++ Jvm.arrayLocs frame_1_arrays args s ++ Jvm.staticLocs frame_1_statics s) 16 128 → Post tb e args s (.returned v) u) :
    ArmFor flags0 classFile x code maxLocals ret World_1 tables_1 room_1 Calls_1 rest_1 Pre_1 Post := by
  intro l hfl _ _ p e ha hc hk s m args below hf hA hF happ hP
  obtain ⟨hcalls, hrest, hpre⟩ := hP
  obtain ⟨-, -, -, hnamed, -, -, -, hat⟩ := (Spec.applies_iff hf).mp happ
  obtain ⟨hg, hn⟩ := and_e (Cond.before_iff.mp (show (Jvm.Cond.and given_1 narrow_1).before args s = true from hpre))
  obtain ⟨hcnt, hg0⟩ := and_e hg
  obtain ⟨hv0, hg1⟩ := and_e hg0
  obtain ⟨hv1, hg2⟩ := and_e hg1
  have hv2 := hg2
  obtain ⟨w0, w1, w2, rfl⟩ : ∃ w0 w1 w2 : Value, args = #[w0, w1, w2] := by
    have hs : args.size = 3 := by simpa [Cond.value, given_1] using hcnt
    obtain ⟨L⟩ := args
    match L, hs with
    | [w0, w1, w2], _ => exact ⟨w0, w1, w2, rfl⟩
  have hw := fun d (hd : d ∈ tables_1) => atoms_spec (ws := Jvm.Cond.code x code maxLocals ret :: tables_1) hat d (List.mem_cons_of_mem _ hd)
  have hfit : Fit s := fun {y c} hc i hi => by
    obtain ⟨ha, rfl⟩ := Array.getElem?_eq_some_iff.mp hc
    have q := List.all_eq_true.mp ((Array.all_eq_true_iff_forall_mem.mp hF) _ (Array.getElem_mem ha)) i (List.mem_range.mpr hi)
    simpa [Array.getElem?_eq_getElem hi] using q
  obtain ⟨i0, ei0⟩ := is_v hv0
  obtain rfl : w0 = (.int i0) := Option.some.inj ei0
  obtain ⟨i1, ei1⟩ := is_v hv1
  obtain rfl : w1 = (.int i1) := Option.some.inj ei1
  obtain ⟨i2, ei2⟩ := is_v hv2
  obtain rfl : w2 = (.int i2) := Option.some.inj ei2
  obtain ⟨n, o, h1, h2, h3, _, L, rfl, ⟨rfl, N⟩, hq⟩ := rm0 l s _ hw tables_1 i0 i1 i2 s.heap s.heap.size (Nat.le_refl _)  p e ha hc hk s m _ below hf ((Spec.applies_iff_loose hf).mp happ).1 ⟨rfl, State.Warmed39.refl s, rfl⟩ trivial
  refine ⟨n, _, h1, h2, h3, hpost _ _ _ _ _ _ ⟨Cond.after_iff.mpr rfl, Cond.after_iff.mpr (eq_i res_at (Term.int_eval (1)) rfl), trivial⟩ ⟨hq.1, hq.2.1, (hq.2.2.sift fun y hy => Or.inr (N y hy)).mono (by decide) (by decide)⟩⟩
theorem main_1_1 : Claimed_1_1 := comes_1 fun _ _ _ _ _ _ h hF => ⟨h.1, hF⟩
theorem main_1_2 : Claimed_1_2 := comes_1 fun _ _ _ _ _ _ h hF => ⟨h.2.1, hF⟩
end Jvm.Pilot.@@N@@
namespace Jvm.Pilot.@@N@@
open Jvm Jvm.ClassFile Sem Op Lib Jvm.Free Jvm.Stand Jvm.Pilot.@@N@@.Jvm.D
/-! MADE BY PROGRAM (witnessworld.py) out of the Statement's table words and the real class files: 11 classes; the members and pool entries that the words name. The judged class is class 1, her method 1. -/
namespace start1
open Jvm.ClassFile
def u (s : String) : CpInfo := .utf8 (stringToUtf16 s)
/-- a pool by its gaps: so many unusable entries, then the entry; so many at the end -/
def gap : Nat → List CpInfo → List CpInfo
  | 0, r => r
  | n + 1, r => .unusable :: gap n r
def poolList (es : List (Nat × CpInfo)) (last : Nat) : List CpInfo := es.foldr (fun e r => gap e.1 (e.2 :: r)) (gap last [])
def pool (es : List (Nat × CpInfo)) (last : Nat) : Array CpInfo := ⟨poolList es last⟩
def fileOf (pool : Array CpInfo) (this : Nat) (attrs : Array Attribute := #[]) (ms : Array MethodInfo := #[]) (fl : Nat := 33) (sup : Nat := 0) (ifs : Array Nat := #[]) (fds : Array FieldInfo := #[]) : ClassFile where
  minorVersion := 0
  majorVersion := 65
  constantPool := pool
  accessFlags := fl
  thisClass := this
  superClass := sup
  interfaces := ifs
  fields := fds
  methods := ms
  attributes := attrs
def plain (name : String) (sup : Option ClassId) : Class where
  name := name
  kind := .ordinary
  loader := none
  accessFlags := 33
  super := sup
  interfaces := #[]
  cf := none
  fields := #[]
  methods := #[]
  instanceTypes := #[]
  staticTypes := #[]
  resolved := #[]
  callSites := []
  init := .initialized
  statics := none
  mirror := none

def pool0 : Array CpInfo := pool [(5, u "<init>"), (0, u "()V"), (1, .class_ 10), (1, u "java/lang/Object")] 113

def k0m0 : Method := { name := "<init>", desc := "()V", sig := { parameters := [], returnType := none }, accessFlags := 1, code := none }
/-- java/lang/Object -/
def k0 : Class := { plain "java/lang/Object" none with
  accessFlags := 33
  interfaces := #[]
  cf := some (fileOf pool0 8 #[] #[{ accessFlags := 1, nameIndex := 5, descriptorIndex := 6, attributes := #[] }] 33 0 #[] #[])
  fields := #[]
  methods := #[k0m0]
  instanceTypes := #[]
  staticTypes := #[]
  resolved := Array.replicate 124 none
  statics := none }

def pool1 : Array CpInfo := pool [(2, .class_ 4), (1, u "java/lang/Object"), (0, u "<init>"), (0, u "()V"), (0, .integer 2147483647), (0, .methodref 9 10), (0, .class_ 11), (0, .nameAndType 12 13), (0, u "com/example/layout_to_evidence/layouttoevidence/TableRows"), (0, u "namesGroup"), (0, u "(I[ZI)Z"), (0, .class_ 15), (0, u "com/example/layout_to_evidence/layouttoevidence/TableRowsNamesGroupPinLaw"), (2, u "law"), (0, u "(III)Z")] 5

def k1m0 : Method := { name := "<init>", desc := "()V", sig := { parameters := [], returnType := none }, accessFlags := 2, code := none }
def k1c1 : Code := { maxStack := 4, maxLocals := 9, code := code, exceptionTable := #[], attributes := #[] }
def k1m1 : Method := { name := "law", desc := "(III)Z", sig := { parameters := [.int, .int, .int], returnType := some .boolean }, accessFlags := 9, code := some k1c1 }
/-- com/example/layout_to_evidence/layouttoevidence/TableRowsNamesGroupPinLaw -/
def k1 : Class := { plain "com/example/layout_to_evidence/layouttoevidence/TableRowsNamesGroupPinLaw" (some 0) with
  accessFlags := 49
  interfaces := #[]
  cf := some (fileOf pool1 14 #[] #[{ accessFlags := 2, nameIndex := 5, descriptorIndex := 6, attributes := #[] }, { accessFlags := 9, nameIndex := 18, descriptorIndex := 19, attributes := #[] }] 49 2 #[] #[])
  fields := #[]
  methods := #[k1m0, k1m1]
  instanceTypes := #[]
  staticTypes := #[]
  resolved := Array.replicate 25 none
  statics := none }

def pool2 : Array CpInfo := pool [(2, .class_ 4), (1, u "java/lang/Object"), (0, u "<init>"), (0, u "()V"), (7, .class_ 16), (1, u "com/example/layout_to_evidence/layouttoevidence/TableRows"), (155, u "namesGroup"), (0, u "(I[ZI)Z"), (72, .class_ 247), (0, u "com/example/layout_to_evidence/layouttoevidence/TableRows$CentredHeading"), (18, u "I"), (130, u "GAPS_PER_RULED_ROW"), (2, u "BESIDE_FIGURES"), (0, u "D"), (0, u "MOST_HEADING_LINES"), (1, u "RECORD_GAP"), (0, u "HANGING_INDENT"), (0, u "CENTRED"), (2, u "FLUSH"), (0, u "ACROSS_SLACK"), (0, u "CROSSES_COLUMN")] 107

def k2m0 : Method := { name := "<init>", desc := "()V", sig := { parameters := [], returnType := none }, accessFlags := 2, code := none }
def k2c1 : Code := { maxStack := 2, maxLocals := 8, code := prog_43_method_23_code, exceptionTable := #[], attributes := #[] }
def k2m1 : Method := { name := "namesGroup", desc := "(I[ZI)Z", sig := { parameters := [.int, (.array .boolean), .int], returnType := some .boolean }, accessFlags := 8, code := some k2c1 }
/-- com/example/layout_to_evidence/layouttoevidence/TableRows -/
def k2 : Class := { plain "com/example/layout_to_evidence/layouttoevidence/TableRows" (some 0) with
  accessFlags := 32
  interfaces := #[]
  cf := some (fileOf pool2 14 #[.nestMembers #[246]] #[{ accessFlags := 2, nameIndex := 5, descriptorIndex := 6, attributes := #[] }, { accessFlags := 8, nameIndex := 172, descriptorIndex := 173, attributes := #[] }] 32 2 #[] #[{ accessFlags := 26, nameIndex := 397, descriptorIndex := 266, attributes := #[] }, { accessFlags := 26, nameIndex := 400, descriptorIndex := 401, attributes := #[] }, { accessFlags := 26, nameIndex := 402, descriptorIndex := 266, attributes := #[] }, { accessFlags := 26, nameIndex := 404, descriptorIndex := 401, attributes := #[] }, { accessFlags := 26, nameIndex := 405, descriptorIndex := 401, attributes := #[] }, { accessFlags := 26, nameIndex := 406, descriptorIndex := 401, attributes := #[] }, { accessFlags := 24, nameIndex := 409, descriptorIndex := 401, attributes := #[] }, { accessFlags := 26, nameIndex := 410, descriptorIndex := 401, attributes := #[] }, { accessFlags := 26, nameIndex := 411, descriptorIndex := 401, attributes := #[] }])
  fields := #[{ name := "GAPS_PER_RULED_ROW", type := .int, accessFlags := 26, slot := 0, constantValue := 0 }, { name := "BESIDE_FIGURES", type := .double, accessFlags := 26, slot := 1, constantValue := 0 }, { name := "MOST_HEADING_LINES", type := .int, accessFlags := 26, slot := 2, constantValue := 0 }, { name := "RECORD_GAP", type := .double, accessFlags := 26, slot := 3, constantValue := 0 }, { name := "HANGING_INDENT", type := .double, accessFlags := 26, slot := 4, constantValue := 0 }, { name := "CENTRED", type := .double, accessFlags := 26, slot := 5, constantValue := 0 }, { name := "FLUSH", type := .double, accessFlags := 24, slot := 6, constantValue := 0 }, { name := "ACROSS_SLACK", type := .double, accessFlags := 26, slot := 7, constantValue := 0 }, { name := "CROSSES_COLUMN", type := .double, accessFlags := 26, slot := 8, constantValue := 0 }]
  methods := #[k2m0, k2m1]
  instanceTypes := #[]
  staticTypes := #[.int, .double, .int, .double, .double, .double, .double, .double, .double]
  resolved := Array.replicate 519 none
  statics := none }

def pool3 : Array CpInfo := pool [(1, u "java/lang/Cloneable"), (0, .class_ 1), (0, u "java/lang/Object"), (0, .class_ 3)] 3

/-- java/lang/Cloneable -/
def k3 : Class := { plain "java/lang/Cloneable" (some 0) with
  accessFlags := 1537
  interfaces := #[]
  cf := some (fileOf pool3 2 #[] #[] 1537 4 #[] #[])
  fields := #[]
  methods := #[]
  instanceTypes := #[]
  staticTypes := #[]
  resolved := Array.replicate 8 none
  statics := none }

def pool4 : Array CpInfo := pool [(1, u "java/io/Serializable"), (0, .class_ 1), (0, u "java/lang/Object"), (0, .class_ 3)] 3

/-- java/io/Serializable -/
def k4 : Class := { plain "java/io/Serializable" (some 0) with
  accessFlags := 1537
  interfaces := #[]
  cf := some (fileOf pool4 2 #[] #[] 1537 4 #[] #[])
  fields := #[]
  methods := #[]
  instanceTypes := #[]
  staticTypes := #[]
  resolved := Array.replicate 8 none
  statics := none }

/-- the primitive boolean -/
def k5 : Class := { plain "boolean" none with kind := .primitive 'Z', accessFlags := 0x411 }
/-- [Z -/
def k6 : Class := { plain "[Z" (some 0) with kind := .array 5 .boolean, interfaces := #[3, 4], accessFlags := 1041 }

/-- the primitive byte -/
def k7 : Class := { plain "byte" none with kind := .primitive 'B', accessFlags := 0x411 }
/-- [B -/
def k8 : Class := { plain "[B" (some 0) with kind := .array 7 .byte, interfaces := #[3, 4], accessFlags := 1041 }

/-- the primitive int -/
def k9 : Class := { plain "int" none with kind := .primitive 'I', accessFlags := 0x411 }
/-- [I -/
def k10 : Class := { plain "[I" (some 0) with kind := .array 9 .int, interfaces := #[3, 4], accessFlags := 1041 }

def heap : Heap := #[]
def classes : Array Class := #[k0, k1, k2, k3, k4, k5, k6, k7, k8, k9, k10]
def interned : List (Array UInt16 × Addr) := []
def slotsUsed : Nat := 0
def theMethod : MethodId := ⟨1, 1⟩
def args0 : Array Value := #[.int 5, .int 2, .int 1]
def aboutOver (below : List Frame) : State where
  vm := { classes := classes, interned := interned.toArray }
  heap := heap
  slotsUsed := slotsUsed
  threads := #[{ frames := .invoking theMethod args0 :: below }]
def below0 : List Frame := [.native { method := ⟨0, 0⟩, args := #[] }]
def about1 : State := aboutOver below0
def p0 : Program := .bare "" "" ""
def e0 : Env := launch0.env 0 0 0
theorem w_frames : about1.frames = Frame.invoking theMethod args0 :: below0 := rfl
set_option maxRecDepth 65536 in
theorem w_args : argsFit about1.vm theMethod args0 = true := by decide +kernel
set_option maxRecDepth 65536 in
theorem w_heap : heapFits about1 = true := by decide +kernel
set_option maxRecDepth 65536 in
theorem w_runnable : about1.curStatus? = some .runnable := by decide +kernel
set_option maxRecDepth 65536 in
theorem w_alone : about1.alone = true := by decide +kernel
set_option maxRecDepth 65536 in
theorem w_named : about1.methodNamed? x = some theMethod := by decide +kernel
set_option maxRecDepth 65536 in
theorem w_hears : about1.hears theMethod below0 = true := by decide +kernel
set_option maxRecDepth 65536 in
theorem w_ripe : about1.ripe theMethod args0 below0 = true := by decide +kernel
theorem w_running : about1.status = .running := rfl
set_option maxRecDepth 65536 in
theorem w_room : about1.hasRoom e0.platform room_1 = true :=
  launch0.hasRoom_least _ room_1 (by decide +kernel) (by decide +kernel) (by decide +kernel) (by decide +kernel) (by decide +kernel) (by decide +kernel)
theorem allAtoms_all (ts : List Jvm.Cond) (a : Array Jvm.Value) (st : Jvm.State) : (allAtoms ts).before a st = ts.all (fun c => c.before a st) := by
  induction ts with
  | nil => rfl
  | cons c t ih =>
    show (Jvm.Cond.and c (allAtoms t)).before a st = _
    rw [Jvm.Cond.before_and, ih, List.all_cons]
def words1 : List Jvm.Cond := Jvm.Cond.code x code maxLocals ret :: tables_1
/-- a 'code' word, met by the world's own term for the bytes: nothing is compared byte by byte -/
theorem code_word {y : MethodName} {bytes : ByteArray} {mx : Nat} {rt : Option FieldType} {a : Array Value} {s : State} {m : MethodId} {meth : Method} {c : Code} (h1 : s.methodNamed? y = some m) (h2 : s.vm.method? m = some meth) (h3 : meth.code = some c) (h4 : c.code = bytes)
    (h5 : (c.maxLocals == mx && c.exceptionTable.isEmpty && decide (c.maxStack ≤ mostOperands) && decide (meth.sig.returnType = rt) && !meth.locks && decide (parseMethodDescriptor y.desc = some meth.sig)) = true) : (Jvm.Cond.code y bytes mx rt).before a s = true := by
  simp only [Bool.and_eq_true, beq_iff_eq, Bool.not_eq_true', decide_eq_true_eq] at h5
  obtain ⟨⟨⟨⟨⟨g1, g2⟩, g3⟩, g4⟩, g5⟩, g6⟩ := h5
  simp [Cond.before, Cond.holds, Cond.value, h1, h2, h3, h4, g1, g2, g3, g4, g5, g6]
def isCode : Jvm.Cond → Bool
  | .code _ _ _ _ => true
  | _ => false
theorem all_split {L : List Jvm.Cond} {P : Jvm.Cond → Bool} (h1 : L.all (fun c => isCode c || P c) = true) (h2 : ∀ c ∈ L.filter isCode, P c = true) : L.all P = true := by
  refine List.all_eq_true.mpr fun c hc => ?_
  have h := List.all_eq_true.mp h1 c hc
  rcases Bool.eq_false_or_eq_true (isCode c) with hi | hi
  · exact h2 c (List.mem_filter.mpr ⟨hc, hi⟩)
  · simpa [hi] using h
set_option maxRecDepth 65536 in
theorem w_c0 : (Jvm.Cond.code x code maxLocals ret).before args0 about1 = true := code_word (m := ⟨1, 1⟩) (meth := k1m1) (c := k1c1) (by decide +kernel) rfl rfl rfl (by decide +kernel)
set_option maxRecDepth 65536 in
theorem w_c1 : (Jvm.Cond.code ({ cls := "com/example/layout_to_evidence/layouttoevidence/TableRows", name := "namesGroup", desc := "(I[ZI)Z" } : Jvm.MethodName) prog_43_method_23_code (8 : Nat) (Option.some Jvm.ClassFile.FieldType.boolean)).before args0 about1 = true := code_word (m := ⟨2, 1⟩) (meth := k2m1) (c := k2c1) (by decide +kernel) rfl rfl rfl (by decide +kernel)
def codes1 : List Jvm.Cond := [Jvm.Cond.code x code maxLocals ret, Jvm.Cond.code ({ cls := "com/example/layout_to_evidence/layouttoevidence/TableRows", name := "namesGroup", desc := "(I[ZI)Z" } : Jvm.MethodName) prog_43_method_23_code (8 : Nat) (Option.some Jvm.ClassFile.FieldType.boolean)]
set_option maxRecDepth 65536 in
theorem codes_eq : words1.filter isCode = codes1 := rfl
theorem w_codes : ∀ c ∈ words1.filter isCode, c.before args0 about1 = true := by
  rw [codes_eq]
  intro c hc
  simp only [codes1, List.mem_cons, List.not_mem_nil, or_false] at hc
  rcases hc with rfl | rfl
  · exact w_c0
  · exact w_c1
set_option maxRecDepth 65536 in
theorem w_t1 : words1.all (fun c => isCode c || c.before args0 about1) = true := by decide +kernel
theorem w_tables : (allAtoms (Jvm.Cond.code x code maxLocals ret :: tables_1)).before args0 about1 = true := by
  rw [allAtoms_all]
  show words1.all (fun c => c.before args0 about1) = true
  refine all_split ?_ w_codes
  rw [w_t1]
set_option maxRecDepth 65536 in
theorem w_case : (Jvm.Cond.and given_1 narrow_1).before args0 about1 = true := by decide +kernel
theorem w_applies : (headSpec (Jvm.Cond.code x code maxLocals ret :: tables_1) room_1).applies x e0.platform about1 = true :=
  (Spec.applies_iff w_frames).mpr ⟨w_running, w_runnable, w_alone, w_named, w_hears, w_ripe, w_room, w_tables⟩
theorem atStart : AtStart classFile x code maxLocals ret World_1 tables_1 room_1 Calls_1 rest_1 Pre_1 launch0 p0 e0 about1 theMethod args0 below0 :=
  ⟨lists_1, trivial, launch0.admits_env _ _ _, launch0.least_env, fairChoices_fair.cas, fairChoices_fair.clock, w_frames, w_args, w_heap, w_applies, trivial, trivial, w_case⟩
end start1
theorem witness_1 : WitnessClaimed_1 := ⟨start1.p0, start1.e0, start1.about1, start1.theMethod, start1.args0, start1.below0, start1.atStart⟩
end Jvm.Pilot.@@N@@
