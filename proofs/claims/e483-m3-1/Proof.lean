import JvmDerived
import JvmDerived.Pilot.@@N@@Statement
import JvmDerived.Pilot.@@N@@Code
set_option linter.unusedVariables false
set_option linter.unusedSimpArgs false
namespace Jvm.Pilot.@@N@@
open Jvm Jvm.ClassFile Sem Op Lib Jvm.Free Jvm.Stand Jvm.LawKit Jvm.RoadKit Bundle Jvm.Pilot.@@N@@.Jvm.D
section OwnKit
/-- from S the run comes to an end that G takes -/
def own_Fin (tb : Tables) (e : Env) (below : List Frame) (G : State → Outcome → Prop) (S : State) : Prop := ∃ s₂ o, Steps tb e below S s₂ ∧ s₂.status = .running ∧ Ended s₂ below o ∧ G s₂ o
theorem own_go {tb : Tables} {e : Env} {below : List Frame} {G : State → Outcome → Prop} {S S' : State} (k : ∀ t, Steps tb e below S' t → Steps tb e below S t) (h : own_Fin tb e below G S') : own_Fin tb e below G S := by
  obtain ⟨t, o, a, b⟩ := h
  exact ⟨t, o, k t a, b⟩
theorem own_at {Z : State} {a0 : Array Value} {ws : List Jvm.Cond} (hw : ∀ d ∈ ws, d.before a0 Z = true) (i : Nat) {d : Jvm.Cond} (h : ws[i]? = some d) : d.before a0 Z = true := hw _ (List.mem_of_getElem? h)
def own_bi : Bool → Int32
  | true => 1
  | false => 0
theorem own_bi0 {b : Bool} (h : b = false) : own_bi b = 0 := by rw [h]; rfl
theorem own_bi1 {b : Bool} (h : b = true) : ¬ own_bi b = 0 := by rw [h]; decide
theorem own_dT {P : Prop} [Decidable P] (h : P) : (1 : Int32) = own_bi (decide P) := by rw [decide_eq_true h]; rfl
theorem own_dF {P : Prop} [Decidable P] (h : ¬ P) : (0 : Int32) = own_bi (decide P) := by rw [decide_eq_false h]; rfl
theorem own_tf (b : Bool) : b = true ∨ b = false := by cases b <;> simp
theorem own_nb (b : Bool) : narrow .boolean (.int (own_bi b)) = .int (own_bi b) := by cases b <;> rfl
theorem own_fb (b : Bool) : fits .boolean (.int (own_bi b)) = true := by cases b <;> rfl
theorem own_nr {t : FieldType} {v : Value} (h : v.isRef = true) : narrow t v = v := by cases v <;> first | (simp [Value.isRef] at h; done) | (cases t <;> rfl)
theorem own_store {l l' : Array Slot} {i : Nat} {v : Value} {o : Slot} (hold : l[i]? = some o) (ho : o = .unset ∨ ∃ w, o = .val w ∧ w.category = 1) (hv : v.category = 1) (e : l.setIfInBounds i (.val v) = l') : storeLocals l i v = some l' := e ▸ XS.store1 hold ho hv
theorem own_eqI {args : Array Value} {s : State} {t : Term} {k : Int32} (h : (Jvm.Cond.eq t (Term.int k)).value args s none s [] = some true) : t.eval args s none [] s = some (.int k) := by
  simp only [Jvm.Cond.value, Term.eval] at h
  cases ht : t.eval args s none [] s with
  | none => simp [ht] at h
  | some x => cases x <;> simp [ht] at h ⊢; exact h
theorem own_eqR {args : Array Value} {s : State} {t u : Term} {a : Addr} (h : (Jvm.Cond.eq t u).value args s none s [] = some true) (hu : u.eval args s none [] s = some (.ref a)) : t.eval args s none [] s = some (.ref a) := by
  simp only [Jvm.Cond.value, hu] at h
  cases ht : t.eval args s none [] s with
  | none => simp [ht] at h
  | some x => cases x <;> simp [ht] at h ⊢; exact h
theorem own_size {Z : State} {n0 : Nat} {h : Heap} (X : Old Z n0 h) : n0 ≤ h.size := X.1 ▸ X.2.1
section
variable {p : Program} {l : Launch} {e : Env} {R : Room} {s : State} {m : MethodId} {args : Array Value} {below : List Frame} {meth : Method} {c : Code} {T : State} {locs : List Loc} {cells slots : Nat}
theorem own_mono (X : Stand p l e R s m args below meth c T locs cells slots) {k n : Nat} (hk : cells ≤ k) (hn : slots ≤ n) : Stand p l e R s m args below meth c T locs k n := { X with same := X.same.mono hk hn }
theorem own_rv (X : Stand p l e R s m args below meth c T locs cells slots) (hx : p.tables.exec = Jvm.exec) {pc : Nat} {Ls : Array Slot} {w : Value} {t : FieldType} {i : Instr} {rest : List Value} (hret : meth.sig.returnType = some t) (hn : narrow t w = w)
    (hi : (i = .ireturn ∧ (t = .int ∨ t = .boolean ∨ t = .byte ∨ t = .char ∨ t = .short) ∧ ∃ z, w = .int z) ∨ (i = .lreturn ∧ t = .long ∧ ∃ z, w = .long z) ∨ (i = .dreturn ∧ t = .double ∧ ∃ z, w = .double z) ∨ (i = .freturn ∧ t = .float ∧ ∃ z, w = .float z) ∨ (i = .areturn ∧ t.isReference = true ∧ w.isRef = true))
    (hd : decode c.code pc = .ok (i, 1)) (hlocks : meth.locks = false) {Q : Option Value → Heap → List Loc → Prop} {k n : Nat} (h1 : cells ≤ k) (h2 : slots ≤ n) (hQ : Q (some w) T.heap locs) :
    own_Fin p.tables e below (fun s₂ o => ∃ v L, o = .returned v ∧ Q v s₂.heap L ∧ FrameEnd s o s₂ L k n) (T.setTop (mkF m pc Ls (w :: rest))) := by
  obtain ⟨fs, hr, hrun, hended, hW, hsame⟩ := X.leave (v := some w) (fun h => by rw [hret] at h; cases h) hlocks
  exact ⟨_, _, retOut X hx hret hn hi hd hr, hrun, hended, _, _, rfl, hQ, ⟨_, rfl⟩, hW, hsame.mono h1 h2⟩
theorem own_r0 (X : Stand p l e R s m args below meth c T locs cells slots) (hx : p.tables.exec = Jvm.exec) {pc : Nat} {Ls : Array Slot} (hret : meth.sig.returnType = none)
    (hd : decode c.code pc = .ok (.return_, 1)) (hlocks : meth.locks = false) {Q : Option Value → Heap → List Loc → Prop} {k n : Nat} (h1 : cells ≤ k) (h2 : slots ≤ n) (hQ : Q none T.heap locs) :
    own_Fin p.tables e below (fun s₂ o => ∃ v L, o = .returned v ∧ Q v s₂.heap L ∧ FrameEnd s o s₂ L k n) (T.setTop (mkF m pc Ls [])) := by
  obtain ⟨fs, hr, hrun, hended, hW, hsame⟩ := X.leave (v := none) (fun _ => rfl) hlocks
  exact ⟨_, _, X.returnOut hx hret hd hr, hrun, hended, _, _, rfl, hQ, ⟨_, rfl⟩, hW, hsame.mono h1 h2⟩
theorem own_rvW {vm₁ : Vm} (X : Stand p l e R (s.setVm vm₁) m args below meth c T locs cells slots) {kk : Nat} (hS : s.Since vm₁ kk) (hk : kk ≤ T.heap.size) (hx : p.tables.exec = Jvm.exec) {pc : Nat} {Ls : Array Slot} {w : Value} {t : FieldType} {i : Instr} {rest : List Value} (hret : meth.sig.returnType = some t) (hn : narrow t w = w)
    (hi : (i = .ireturn ∧ (t = .int ∨ t = .boolean ∨ t = .byte ∨ t = .char ∨ t = .short) ∧ ∃ z, w = .int z) ∨ (i = .lreturn ∧ t = .long ∧ ∃ z, w = .long z) ∨ (i = .dreturn ∧ t = .double ∧ ∃ z, w = .double z) ∨ (i = .freturn ∧ t = .float ∧ ∃ z, w = .float z) ∨ (i = .areturn ∧ t.isReference = true ∧ w.isRef = true))
    (hd : decode c.code pc = .ok (i, 1)) (hlocks : meth.locks = false) {Q : Option Value → Heap → List Loc → Prop} {k n : Nat} (h1 : cells ≤ k) (h2 : slots ≤ n) (hQ : Q (some w) T.heap locs) :
    own_Fin p.tables e below (fun s₂ o => ∃ v L, o = .returned v ∧ Q v s₂.heap L ∧ ReturnedEndW s o s₂ L k n) (T.setTop (mkF m pc Ls (w :: rest))) := by
  obtain ⟨fs, hr, hrun, hended, q1, q2, q3, q4⟩ := leaveW X hS hk (v := some w) (fun h => by rw [hret] at h; cases h) hlocks
  exact ⟨_, _, retOut X hx hret hn hi hd hr, hrun, hended, _, _, rfl, hQ, q1, q2, q3, q4.mono h1 h2⟩
theorem own_r0W {vm₁ : Vm} (X : Stand p l e R (s.setVm vm₁) m args below meth c T locs cells slots) {kk : Nat} (hS : s.Since vm₁ kk) (hk : kk ≤ T.heap.size) (hx : p.tables.exec = Jvm.exec) {pc : Nat} {Ls : Array Slot} (hret : meth.sig.returnType = none)
    (hd : decode c.code pc = .ok (.return_, 1)) (hlocks : meth.locks = false) {Q : Option Value → Heap → List Loc → Prop} {k n : Nat} (h1 : cells ≤ k) (h2 : slots ≤ n) (hQ : Q none T.heap locs) :
    own_Fin p.tables e below (fun s₂ o => ∃ v L, o = .returned v ∧ Q v s₂.heap L ∧ ReturnedEndW s o s₂ L k n) (T.setTop (mkF m pc Ls [])) := by
  obtain ⟨fs, hr, hrun, hended, q1, q2, q3, q4⟩ := leaveW X hS hk (v := none) (fun _ => rfl) hlocks
  exact ⟨_, _, X.returnOut hx hret hd hr, hrun, hended, _, _, rfl, hQ, q1, q2, q3, q4.mono h1 h2⟩
theorem own_rvH {Z : State} {a0 : Array Value} {EL : List (String × Nat)} {h0 h : Heap} {vm₁ : Vm} (X : Stand p l e R (s.setVm vm₁) m args below meth c T locs cells slots) {kk : Nat} (hS : s.Since vm₁ kk) (hk : kk ≤ T.heap.size) (hZ : Z.Warmed39 vm₁) (hEL : EW Z a0 EL) (hh : s.heap = h0) (eT : T.heap = h) (CH : CHr Z EL s.vm h0 vm₁ h) (hx : p.tables.exec = Jvm.exec) {pc : Nat} {Ls : Array Slot} {w : Value} {t : FieldType} {i : Instr} {rest : List Value} (hret : meth.sig.returnType = some t) (hn : narrow t w = w)
    (hi : (i = .ireturn ∧ (t = .int ∨ t = .boolean ∨ t = .byte ∨ t = .char ∨ t = .short) ∧ ∃ z, w = .int z) ∨ (i = .lreturn ∧ t = .long ∧ ∃ z, w = .long z) ∨ (i = .dreturn ∧ t = .double ∧ ∃ z, w = .double z) ∨ (i = .freturn ∧ t = .float ∧ ∃ z, w = .float z) ∨ (i = .areturn ∧ t.isReference = true ∧ w.isRef = true))
    (hd : decode c.code pc = .ok (i, 1)) (hlocks : meth.locks = false) {Q : Option Value → Heap → List Loc → Prop} {k n : Nat} (h1 : cells ≤ k) (h2 : slots ≤ n) (hQ : Q (some w) T.heap locs) :
    own_Fin p.tables e below (fun s₂ o => ∃ v L, o = .returned v ∧ Q v s₂.heap L ∧ CHr Z EL s.vm s.heap s₂.vm s₂.heap ∧ ReturnedEndW s o s₂ L k n) (T.setTop (mkF m pc Ls (w :: rest))) := by
  obtain ⟨fs, hr, hrun, hended, q1, q2, q3, q4⟩ := leaveW X hS hk (v := some w) (fun h => by rw [hret] at h; cases h) hlocks
  subst eT hh
  have A := CH.trans (CHv.at X hZ hEL CH.1)
  exact ⟨_, _, retOut X hx hret hn hi hd hr, hrun, hended, _, _, rfl, hQ, A, q1, q2, q3, q4.mono h1 h2⟩
theorem own_r0H {Z : State} {a0 : Array Value} {EL : List (String × Nat)} {h0 h : Heap} {vm₁ : Vm} (X : Stand p l e R (s.setVm vm₁) m args below meth c T locs cells slots) {kk : Nat} (hS : s.Since vm₁ kk) (hk : kk ≤ T.heap.size) (hZ : Z.Warmed39 vm₁) (hEL : EW Z a0 EL) (hh : s.heap = h0) (eT : T.heap = h) (CH : CHr Z EL s.vm h0 vm₁ h) (hx : p.tables.exec = Jvm.exec) {pc : Nat} {Ls : Array Slot} (hret : meth.sig.returnType = none)
    (hd : decode c.code pc = .ok (.return_, 1)) (hlocks : meth.locks = false) {Q : Option Value → Heap → List Loc → Prop} {k n : Nat} (h1 : cells ≤ k) (h2 : slots ≤ n) (hQ : Q none T.heap locs) :
    own_Fin p.tables e below (fun s₂ o => ∃ v L, o = .returned v ∧ Q v s₂.heap L ∧ CHr Z EL s.vm s.heap s₂.vm s₂.heap ∧ ReturnedEndW s o s₂ L k n) (T.setTop (mkF m pc Ls [])) := by
  obtain ⟨fs, hr, hrun, hended, q1, q2, q3, q4⟩ := leaveW X hS hk (v := none) (fun _ => rfl) hlocks
  subst eT hh
  have A := CH.trans (CHv.at X hZ hEL CH.1)
  exact ⟨_, _, X.returnOut hx hret hd hr, hrun, hended, _, _, rfl, hQ, A, q1, q2, q3, q4.mono h1 h2⟩
theorem own_hk {h : Heap} {k : Nat} (e : T.heap = h) (hk : k ≤ h.size) : k ≤ T.heap.size := e ▸ hk
theorem own_rebZ {Z : State} {vm0 vm1 : Vm} {n : Nat} (hZ : Z.Warmed39 vm0) (h : (s.setVm vm0).Since vm1 n) : Z.Warmed39 vm1 := State.Warmed39.trans (t := s.setVm vm0) hZ h.1
theorem own_rebO {vm0 vm1 : Vm} {n : Nat} {own : String} {k : ClassId} (hown : vm0.findClass own = some k) (h : (s.setVm vm0).Since vm1 n) : vm1.findClass own = some k := by rw [h.1.alike.findClass]; exact hown
theorem own_noCast {Z : State} {a0 : Array Value} {X Y : String} {t : List String} {n : Nat} (hw : ∀ w ∈ Jvm.Cond.chainWords (X :: t), w.before a0 Z = true) (hY : (Jvm.Cond.instantiable Y n).before a0 Z = true) (hn : Y ∉ X :: t) : ∃ c t, Z.vm.findClass X = some c ∧ Z.vm.findClass Y = some t ∧ Z.vm.assignable c t = false := by
  obtain ⟨cx, k, hx, -, -, -⟩ := Cond.chain_head hw
  obtain ⟨cy, ky, hy, h2, h3, h4, -⟩ := Cond.instantiable_spec hY
  simp only [Bool.or_eq_false_iff] at h4
  exact ⟨cx, cy, hx, hy, Vm.notAssignable_of_chain hx hy h2 h3 h4.1 hw hn⟩
end
end OwnKit
theorem own_c0 : (0 : Int32).toInt = 0 := by decide
theorem own_c1 : (1 : Int32).toInt = 1 := by decide
theorem own_cM : (2147483647 : Int32).toInt = 2147483647 := by decide
theorem own_t1 {a b c : Int32} (h1 : ¬ (c < a)) (h2 : ¬ (b < c)) : (1 : Int32) = own_bi (!decide (c < a) && !decide (b < c)) := by simp [own_bi, h1, h2]
theorem own_f1 {a b c : Int32} (h : c < a ∨ b < c) : (0 : Int32) = own_bi (!decide (c < a) && !decide (b < c)) := by
  rcases h with h | h <;> simp [own_bi, h]
theorem own_ef_own_allows (m : MethodId) (a1 : Addr) (p2 : Int32)  : entryFrame m #[(.ref a1), (.int p2)] 2 = (mkF m 0 #[.val (.ref a1), .val (.int p2)] []) := by first | (simp [entryFrame, mkF, argsToLocals, Value.category]; done) | rfl
theorem own_pn0 : plainName "com/example/typelattice/typelattice/Occurrence" = true := by first | (simp [plainName, overriddenIn]; done) | decide +kernel
theorem own_d0_0 : decode prog_99_method_5_code 0 = .ok (.iload_n 1, 1) := by decide +kernel
theorem own_d0_1 : decode prog_99_method_5_code 1 = .ok (.aload_n 0, 1) := by decide +kernel
theorem own_d0_2 : decode prog_99_method_5_code 2 = .ok (.getfield 42, 3) := by decide +kernel
theorem own_d0_5 : decode prog_99_method_5_code 5 = .ok (.if_icmp .lt 15, 3) := by decide +kernel
theorem own_d0_20 : decode prog_99_method_5_code 20 = .ok (.iconst 0, 1) := by decide +kernel
theorem own_d0_21 : decode prog_99_method_5_code 21 = .ok (.ireturn, 1) := by decide +kernel
theorem own_d0_8 : decode prog_99_method_5_code 8 = .ok (.iload_n 1, 1) := by decide +kernel
theorem own_d0_9 : decode prog_99_method_5_code 9 = .ok (.aload_n 0, 1) := by decide +kernel
theorem own_d0_10 : decode prog_99_method_5_code 10 = .ok (.getfield 46, 3) := by decide +kernel
theorem own_d0_13 : decode prog_99_method_5_code 13 = .ok (.if_icmp .gt 7, 3) := by decide +kernel
theorem own_d0_16 : decode prog_99_method_5_code 16 = .ok (.iconst 1, 1) := by decide +kernel
theorem own_d0_17 : decode prog_99_method_5_code 17 = .ok (.goto 4, 3) := by decide +kernel
def own_Q_own_allows (Z : State) (a1 : Addr) (p2 : Int32) (mn : Int32) (mx : Int32) (h0 : Heap) (n0 : Nat) (v : Option Value) (h : Heap) (L : List Loc) : Prop := v = some (.int (own_bi (!decide (p2 < mn) && !decide (mx < p2)))) ∧ Fr n0 L ∧ h = h0
set_option maxRecDepth 65536 in
set_option maxHeartbeats 40000000 in
theorem own_allows (l : Launch) (Z : State) (a0 : Array Value) (hw : ∀ d ∈ tables_1, d.before a0 Z = true) (ws : List Jvm.Cond) (a1 : Addr) (p2 : Int32) (mn : Int32) (mx : Int32) (h0 : Heap) (n0 : Nat) (O0 : Old Z n0 h0) (Fmin : Fld Z h0 a1 "com/example/typelattice/typelattice/Occurrence" "min" "I" (.int mn)) (Fmax : Fld Z h0 a1 "com/example/typelattice/typelattice/Occurrence" "max" "I" (.int mx)) :
    MetFree l (⟨"com/example/typelattice/typelattice/Occurrence", "allows", "(I)Z"⟩ : MethodName) (head1 (Jvm.Cond.code (⟨"com/example/typelattice/typelattice/Occurrence", "allows", "(I)Z"⟩ : MethodName) prog_99_method_5_code 2 (some .boolean) :: ws) ({ frames := 0, cells := 0, slots := 0, locals := 0 } : Room)) (fun a U => a = #[(.ref a1), (.int p2)] ∧ Z.Warmed39 U.vm ∧ U.heap = h0) (fun _ _ _ _ _ => True) (fun _ U o U' => ∃ v L, o = .returned v ∧ own_Q_own_allows Z a1 p2 mn mx h0 n0 v U'.heap L ∧ FrameEnd U o U' L ({ frames := 0, cells := 0, slots := 0, locals := 0 } : Room).cells ({ frames := 0, cells := 0, slots := 0, locals := 0 } : Room).slots) := by
  refine MetFree.of_bodySF (plainFor_of_name own_pn0) hisR ?_
  intro p e s m args below meth c s₁ Bd hml0 hP hK
  obtain ⟨rfl, hZ, hh⟩ := hP
  have hx := Bd.exec
  have hby := Bd.bytes
  have hml : c.maxLocals = 2 := hml0
  have hown : s.vm.findClass "com/example/typelattice/typelattice/Occurrence" = some m.cls := findClass_of_methodNamed Bd.named
  have hnm := (name_of_methodNamed Bd.named Bd.method).1
  have X0 : Stand p l e ({ frames := 0, cells := 0, slots := 0, locals := 0 } : Room) s m #[(.ref a1), (.int p2)] below meth c s₁ [] 0 0 := Stand.of_body Bd
  have e0 : s₁.heap = h0 := by rw [← hh, Bd.state]; rfl
  have N0 := Fr.nil n0
  show own_Fin p.tables e below (fun s₂ o => ∃ v L, o = .returned v ∧ own_Q_own_allows Z a1 p2 mn mx h0 n0 v s₂.heap L ∧ FrameEnd s o s₂ L ({ frames := 0, cells := 0, slots := 0, locals := 0 } : Room).cells ({ frames := 0, cells := 0, slots := 0, locals := 0 } : Room).slots) _
  generalize hG : (fun (s₂ : State) (o : Outcome) => ∃ v L, o = Outcome.returned v ∧ own_Q_own_allows Z a1 p2 mn mx h0 n0 v s₂.heap L ∧ FrameEnd s o s₂ L ({ frames := 0, cells := 0, slots := 0, locals := 0 } : Room).cells ({ frames := 0, cells := 0, slots := 0, locals := 0 } : Room).slots) = G
  refine own_go (fun _ k => castTop (own_ef_own_allows m a1 p2) k) ?_
  show own_Fin p.tables e below G (s₁.setTop (mkF m 0 #[.val (.ref a1), .val (.int p2)] []))
  refine own_go (fun _ k => XS.iloadN X0.here hx rfl (hb hby own_d0_0) rfl k) ?_
  show own_Fin p.tables e below G (s₁.setTop (mkF m 1 #[.val (.ref a1), .val (.int p2)] [(.int p2)]))
  refine own_go (fun _ k => XS.aloadN X0.here hx rfl (hb hby own_d0_1) rfl rfl k) ?_
  show own_Fin p.tables e below G (s₁.setTop (mkF m 2 #[.val (.ref a1), .val (.int p2)] [(.ref a1), (.int p2)]))
  obtain ⟨T1, X1, e1, st1⟩ := getF X0 hx hZ hown (host := "") (Or.inl (own_at hw 8 rfl)) Via.refl e0 Fmin (g := (mkF m 2 #[.val (.ref a1), .val (.int p2)] [(.ref a1), (.int p2)])) rfl rfl (hb hby own_d0_2)
  refine own_go st1 ?_
  show own_Fin p.tables e below G (T1.setTop (mkF m 5 #[.val (.ref a1), .val (.int p2)] [(.int mn), (.int p2)]))
  by_cases hc5 : p2 < mn
  · refine own_go (fun _ k => XS.icmpYes X1.here hx rfl (pc0 := 5) (pc' := 20) rfl (hb hby own_d0_5) rfl (Jvm.Free.XT.ii_lt_t hc5) (by decide) (by decide) k) ?_
    show own_Fin p.tables e below G (T1.setTop (mkF m 20 #[.val (.ref a1), .val (.int p2)] []))
    refine own_go (fun _ k => XS.iconst X1.here hx rfl (hb hby own_d0_20)  k) ?_
    show own_Fin p.tables e below G (T1.setTop (mkF m 21 #[.val (.ref a1), .val (.int p2)] [(.int (0 : Int32))]))
    subst hG
    exact own_rv X1 hx (t := .boolean) Bd.returns rfl (Or.inl ⟨rfl, Or.inr (Or.inl rfl), _, rfl⟩) (hb hby own_d0_21) Bd.notSynchronized (by decide) (by decide) ⟨by simp [own_bi, hc5], N0, e1⟩
  · refine own_go (fun _ k => XS.icmpNo X1.here hx rfl (hb hby own_d0_5) rfl (Jvm.Free.XT.ii_lt_f hc5) k) ?_
    show own_Fin p.tables e below G (T1.setTop (mkF m 8 #[.val (.ref a1), .val (.int p2)] []))
    refine own_go (fun _ k => XS.iloadN X1.here hx rfl (hb hby own_d0_8) rfl k) ?_
    show own_Fin p.tables e below G (T1.setTop (mkF m 9 #[.val (.ref a1), .val (.int p2)] [(.int p2)]))
    refine own_go (fun _ k => XS.aloadN X1.here hx rfl (hb hby own_d0_9) rfl rfl k) ?_
    show own_Fin p.tables e below G (T1.setTop (mkF m 10 #[.val (.ref a1), .val (.int p2)] [(.ref a1), (.int p2)]))
    obtain ⟨T2, X2, e2, st2⟩ := getF X1 hx hZ hown (host := "") (Or.inl (own_at hw 10 rfl)) Via.refl e1 Fmax (g := (mkF m 10 #[.val (.ref a1), .val (.int p2)] [(.ref a1), (.int p2)])) rfl rfl (hb hby own_d0_10)
    refine own_go st2 ?_
    show own_Fin p.tables e below G (T2.setTop (mkF m 13 #[.val (.ref a1), .val (.int p2)] [(.int mx), (.int p2)]))
    by_cases hc13 : mx < p2
    · refine own_go (fun _ k => XS.icmpYes X2.here hx rfl (pc0 := 13) (pc' := 20) rfl (hb hby own_d0_13) rfl (Jvm.Free.XT.ii_gt_t hc13) (by decide) (by decide) k) ?_
      show own_Fin p.tables e below G (T2.setTop (mkF m 20 #[.val (.ref a1), .val (.int p2)] []))
      refine own_go (fun _ k => XS.iconst X2.here hx rfl (hb hby own_d0_20)  k) ?_
      show own_Fin p.tables e below G (T2.setTop (mkF m 21 #[.val (.ref a1), .val (.int p2)] [(.int (0 : Int32))]))
      subst hG
      exact own_rv X2 hx (t := .boolean) Bd.returns rfl (Or.inl ⟨rfl, Or.inr (Or.inl rfl), _, rfl⟩) (hb hby own_d0_21) Bd.notSynchronized (by decide) (by decide) ⟨by simp [own_bi, hc5, hc13], N0, e2⟩
    · refine own_go (fun _ k => XS.icmpNo X2.here hx rfl (hb hby own_d0_13) rfl (Jvm.Free.XT.ii_gt_f hc13) k) ?_
      show own_Fin p.tables e below G (T2.setTop (mkF m 16 #[.val (.ref a1), .val (.int p2)] []))
      refine own_go (fun _ k => XS.iconst X2.here hx rfl (hb hby own_d0_16)  k) ?_
      show own_Fin p.tables e below G (T2.setTop (mkF m 17 #[.val (.ref a1), .val (.int p2)] [(.int (1 : Int32))]))
      refine own_go (fun _ k => XS.goto X2.here hx rfl (pc0 := 17) (pc' := 21) rfl (hb hby own_d0_17) (by decide) (by decide) k) ?_
      show own_Fin p.tables e below G (T2.setTop (mkF m 21 #[.val (.ref a1), .val (.int p2)] [(.int (1 : Int32))]))
      subst hG
      exact own_rv X2 hx (t := .boolean) Bd.returns rfl (Or.inl ⟨rfl, Or.inr (Or.inl rfl), _, rfl⟩) (hb hby own_d0_21) Bd.notSynchronized (by decide) (by decide) ⟨by simp [own_bi, hc5, hc13], N0, e2⟩
theorem own_ef_own_law (m : MethodId) (p1 : Int32) (p2 : Int32) (p3 : Int32)  : entryFrame m #[(.int p1), (.int p2), (.int p3)] maxLocals = (mkF m 0 #[.val (.int p1), .val (.int p2), .val (.int p3), .unset, .unset, .unset, .unset] []) := by first | (simp [entryFrame, mkF, argsToLocals, Value.category, maxLocals]; done) | rfl
theorem own_pn1 : plainName "com/example/typelattice/typelattice/OccurrenceAllowsPinLaw" = true := by first | (simp [plainName, overriddenIn]; done) | decide +kernel
theorem own_pd0 : parseMethodDescriptor "(I)Z" = some ⟨[.int], some .boolean⟩ := by decide +kernel
def own_Q_own_law (Z : State) (p1 : Int32) (p2 : Int32) (p3 : Int32) (oEMPTY : Addr) (oEXACTLY_ONE : Addr) (oZERO_OR_ONE : Addr) (oZERO_OR_MORE : Addr) (oONE_OR_MORE : Addr) (h0 : Heap) (n0 : Nat) (v : Option Value) (h : Heap) (L : List Loc) : Prop := v = some (.int (1 : Int32)) ∧ Fr n0 L
set_option maxRecDepth 65536 in
set_option maxHeartbeats 40000000 in
theorem own_law (l : Launch) (Z : State) (a0 : Array Value) (hw : ∀ d ∈ tables_1, d.before a0 Z = true) (ws : List Jvm.Cond) (p1 : Int32) (p2 : Int32) (p3 : Int32) (oEMPTY : Addr) (oEXACTLY_ONE : Addr) (oZERO_OR_ONE : Addr) (oZERO_OR_MORE : Addr) (oONE_OR_MORE : Addr) (h0 : Heap) (n0 : Nat) (O0 : Old Z n0 h0) (SEMPTY : Sta Z h0 "com/example/typelattice/typelattice/Occurrence" "EMPTY" "Lcom/example/typelattice/typelattice/Occurrence;" (.ref oEMPTY)) (EEMPTY : Exa Z h0 oEMPTY "com/example/typelattice/typelattice/Occurrence") (FmEMPTY : Fld Z h0 oEMPTY "com/example/typelattice/typelattice/Occurrence" "min" "I" (.int (0 : Int32))) (FxEMPTY : Fld Z h0 oEMPTY "com/example/typelattice/typelattice/Occurrence" "max" "I" (.int (0 : Int32))) (SEXACTLY_ONE : Sta Z h0 "com/example/typelattice/typelattice/Occurrence" "EXACTLY_ONE" "Lcom/example/typelattice/typelattice/Occurrence;" (.ref oEXACTLY_ONE)) (EEXACTLY_ONE : Exa Z h0 oEXACTLY_ONE "com/example/typelattice/typelattice/Occurrence") (FmEXACTLY_ONE : Fld Z h0 oEXACTLY_ONE "com/example/typelattice/typelattice/Occurrence" "min" "I" (.int (1 : Int32))) (FxEXACTLY_ONE : Fld Z h0 oEXACTLY_ONE "com/example/typelattice/typelattice/Occurrence" "max" "I" (.int (1 : Int32))) (SZERO_OR_ONE : Sta Z h0 "com/example/typelattice/typelattice/Occurrence" "ZERO_OR_ONE" "Lcom/example/typelattice/typelattice/Occurrence;" (.ref oZERO_OR_ONE)) (EZERO_OR_ONE : Exa Z h0 oZERO_OR_ONE "com/example/typelattice/typelattice/Occurrence") (FmZERO_OR_ONE : Fld Z h0 oZERO_OR_ONE "com/example/typelattice/typelattice/Occurrence" "min" "I" (.int (0 : Int32))) (FxZERO_OR_ONE : Fld Z h0 oZERO_OR_ONE "com/example/typelattice/typelattice/Occurrence" "max" "I" (.int (1 : Int32))) (SZERO_OR_MORE : Sta Z h0 "com/example/typelattice/typelattice/Occurrence" "ZERO_OR_MORE" "Lcom/example/typelattice/typelattice/Occurrence;" (.ref oZERO_OR_MORE)) (EZERO_OR_MORE : Exa Z h0 oZERO_OR_MORE "com/example/typelattice/typelattice/Occurrence") (FmZERO_OR_MORE : Fld Z h0 oZERO_OR_MORE "com/example/typelattice/typelattice/Occurrence" "min" "I" (.int (0 : Int32))) (FxZERO_OR_MORE : Fld Z h0 oZERO_OR_MORE "com/example/typelattice/typelattice/Occurrence" "max" "I" (.int (2147483647 : Int32))) (SONE_OR_MORE : Sta Z h0 "com/example/typelattice/typelattice/Occurrence" "ONE_OR_MORE" "Lcom/example/typelattice/typelattice/Occurrence;" (.ref oONE_OR_MORE)) (EONE_OR_MORE : Exa Z h0 oONE_OR_MORE "com/example/typelattice/typelattice/Occurrence") (FmONE_OR_MORE : Fld Z h0 oONE_OR_MORE "com/example/typelattice/typelattice/Occurrence" "min" "I" (.int (1 : Int32))) (FxONE_OR_MORE : Fld Z h0 oONE_OR_MORE "com/example/typelattice/typelattice/Occurrence" "max" "I" (.int (2147483647 : Int32))) :
    MetFree l x (head1 (Jvm.Cond.code x code maxLocals ret :: ws) room_1) (fun a U => a = #[(.int p1), (.int p2), (.int p3)] ∧ Z.Warmed39 U.vm ∧ U.heap = h0) (fun _ _ _ _ _ => True) (fun _ U o U' => ∃ v L, o = .returned v ∧ own_Q_own_law Z p1 p2 p3 oEMPTY oEXACTLY_ONE oZERO_OR_ONE oZERO_OR_MORE oONE_OR_MORE h0 n0 v U'.heap L ∧ FrameEnd U o U' L room_1.cells room_1.slots) := by
  refine MetFree.of_bodySF (plainFor_of_name own_pn1) hisR ?_
  intro p e s m args below meth c s₁ Bd hml0 hP hK
  obtain ⟨rfl, hZ, hh⟩ := hP
  have hx := Bd.exec
  have hby := Bd.bytes
  have hml : c.maxLocals = 7 := hml0
  have hown : s.vm.findClass "com/example/typelattice/typelattice/OccurrenceAllowsPinLaw" = some m.cls := findClass_of_methodNamed Bd.named
  have hnm := (name_of_methodNamed Bd.named Bd.method).1
  have X0 : Stand p l e room_1 s m #[(.int p1), (.int p2), (.int p3)] below meth c s₁ [] 0 0 := Stand.of_body Bd
  have e0 : s₁.heap = h0 := by rw [← hh, Bd.state]; rfl
  have N0 := Fr.nil n0
  show own_Fin p.tables e below (fun s₂ o => ∃ v L, o = .returned v ∧ own_Q_own_law Z p1 p2 p3 oEMPTY oEXACTLY_ONE oZERO_OR_ONE oZERO_OR_MORE oONE_OR_MORE h0 n0 v s₂.heap L ∧ FrameEnd s o s₂ L room_1.cells room_1.slots) _
  generalize hG : (fun (s₂ : State) (o : Outcome) => ∃ v L, o = Outcome.returned v ∧ own_Q_own_law Z p1 p2 p3 oEMPTY oEXACTLY_ONE oZERO_OR_ONE oZERO_OR_MORE oONE_OR_MORE h0 n0 v s₂.heap L ∧ FrameEnd s o s₂ L room_1.cells room_1.slots) = G
  refine own_go (fun _ k => castTop (own_ef_own_law m p1 p2 p3) k) ?_
  show own_Fin p.tables e below G (s₁.setTop (mkF m 0 #[.val (.int p1), .val (.int p2), .val (.int p3), .unset, .unset, .unset, .unset] []))
  have own_k148 : ∀ (T : State) (X : Stand p l e room_1 s m #[(.int p1), (.int p2), (.int p3)] below meth c T [] 0 0) (eT : T.heap = h0) (sel cc ex mn mx : Int32) (ob : Addr) (E : Exa Z h0 ob "com/example/typelattice/typelattice/Occurrence") (Fm : Fld Z h0 ob "com/example/typelattice/typelattice/Occurrence" "min" "I" (.int mn)) (Fx : Fld Z h0 ob "com/example/typelattice/typelattice/Occurrence" "max" "I" (.int mx)) (hq : ex = own_bi (!decide (cc < mn) && !decide (mx < cc))), own_Fin p.tables e below G (T.setTop (mkF m 148 #[.val (.int p1), .val (.int p2), .val (.int p3), .val (.int sel), .val (.int cc), .val (.ref ob), .val (.int ex)] [])) := by
    intro T X eT sel cc ex mn mx ob E Fm Fx hq
    refine own_go (fun _ k => XS.aload X.here hx rfl (hb hby at_148) rfl rfl k) ?_
    show own_Fin p.tables e below G (T.setTop (mkF m 150 #[.val (.int p1), .val (.int p2), .val (.int p3), .val (.int sel), .val (.int cc), .val (.ref ob), .val (.int ex)] [(.ref ob)]))
    refine own_go (fun _ k => XS.iload X.here hx rfl (hb hby at_150) rfl k) ?_
    show own_Fin p.tables e below G (T.setTop (mkF m 152 #[.val (.int p1), .val (.int p2), .val (.int p3), .val (.int sel), .val (.int cc), .val (.ref ob), .val (.int ex)] [(.int cc), (.ref ob)]))
    obtain ⟨cq3, kq3, q3a, q3b, q3c⟩ := isOf hZ eT E
    obtain ⟨_, _, ⟨T3, L3, k3, n3⟩, -, X3, ⟨Lc3, hQ3, l3, y3, z3⟩, st3⟩ := X.virtualBack hx (y := (⟨"com/example/typelattice/typelattice/Occurrence", "allows", "(I)Z"⟩ : MethodName)) (z := (⟨"com/example/typelattice/typelattice/Occurrence", "allows", "(I)Z"⟩ : MethodName)) hown (mvT hZ (own_at hw 3 rfl)) (mvT hZ (own_at hw 4 rfl)) (notFace_of_selects (args := #[]) (mvT hZ (own_at hw 6 rfl))) (mvT hZ (own_at hw 6 rfl)) (mvT hZ (own_at hw 5 rfl)) (by decide) (backOf (W := 0) (own_allows l Z a0 hw [] ob cc mn mx h0 n0 O0 Fm Fx) hZ (own_at hw 7 rfl) (own_at hw 1 rfl) (by decide) (by decide)) q3a q3c (g := (mkF m 152 #[.val (.int p1), .val (.int p2), .val (.int p3), .val (.int sel), .val (.int cc), .val (.ref ob), .val (.int ex)] [(.int cc), (.ref ob)])) rfl (by rw [hml]; rfl) (Steps.refl _) (argsL := [(.int cc)]) (rest := []) (lenOf own_pd0 rfl) rfl (by show 2 * 0 + _ ≤ _; exact Nat.le_of_eq rfl) (hb hby at_152) (fun _ _ => ⟨rfl, eT, (by decide : 0 + 0 ≤ _), (by decide : 0 + 0 ≤ _)⟩)
    dsimp only [Pt.U, Pt.locs, Pt.cells, Pt.slots] at X3 l3 y3 z3 st3 hQ3
    subst l3 y3 z3
    obtain ⟨rfl, N3q, e3⟩ := hQ3
    have N3 := Fr.app N0 N3q
    refine own_go (fun _ k => st3.trans k) ?_
    show own_Fin p.tables e below G (T3.setTop (mkF m 155 #[.val (.int p1), .val (.int p2), .val (.int p3), .val (.int sel), .val (.int cc), .val (.ref ob), .val (.int ex)] [(.int (own_bi (!decide (cc < mn) && !decide (mx < cc))))]))
    refine own_go (fun _ k => XS.iload X3.here hx rfl (hb hby at_155) rfl k) ?_
    show own_Fin p.tables e below G (T3.setTop (mkF m 157 #[.val (.int p1), .val (.int p2), .val (.int p3), .val (.int sel), .val (.int cc), .val (.ref ob), .val (.int ex)] [(.int ex), (.int (own_bi (!decide (cc < mn) && !decide (mx < cc))))]))
    refine own_go (fun _ k => XS.icmpNo X3.here hx rfl (hb hby at_157) rfl (Jvm.Free.XT.ii_ne_f hq.symm) k) ?_
    show own_Fin p.tables e below G (T3.setTop (mkF m 160 #[.val (.int p1), .val (.int p2), .val (.int p3), .val (.int sel), .val (.int cc), .val (.ref ob), .val (.int ex)] []))
    refine own_go (fun _ k => XS.iconst X3.here hx rfl (hb hby at_160)  k) ?_
    show own_Fin p.tables e below G (T3.setTop (mkF m 161 #[.val (.int p1), .val (.int p2), .val (.int p3), .val (.int sel), .val (.int cc), .val (.ref ob), .val (.int ex)] [(.int (1 : Int32))]))
    refine own_go (fun _ k => XS.goto X3.here hx rfl (pc0 := 161) (pc' := 165) rfl (hb hby at_161) (by decide) (by decide) k) ?_
    show own_Fin p.tables e below G (T3.setTop (mkF m 165 #[.val (.int p1), .val (.int p2), .val (.int p3), .val (.int sel), .val (.int cc), .val (.ref ob), .val (.int ex)] [(.int (1 : Int32))]))
    subst hG
    exact own_rv X3 hx (t := .boolean) Bd.returns rfl (Or.inl ⟨rfl, Or.inr (Or.inl rfl), _, rfl⟩) (hb hby at_165) Bd.notSynchronized (by decide) (by decide) ⟨rfl, N3⟩
  refine own_go (fun _ k => XS.iloadN X0.here hx rfl (hb hby at_0) rfl k) ?_
  show own_Fin p.tables e below G (s₁.setTop (mkF m 1 #[.val (.int p1), .val (.int p2), .val (.int p3), .unset, .unset, .unset, .unset] [(.int p1)]))
  refine own_go (fun _ k => XS.bipush X0.here hx rfl (hb hby at_1)  k) ?_
  show own_Fin p.tables e below G (s₁.setTop (mkF m 3 #[.val (.int p1), .val (.int p2), .val (.int p3), .unset, .unset, .unset, .unset] [(.int (7 : Int32)), (.int p1)]))
  refine own_go (fun _ k => XS.iand X0.here hx rfl (hb hby at_3) rfl k) ?_
  show own_Fin p.tables e below G (s₁.setTop (mkF m 4 #[.val (.int p1), .val (.int p2), .val (.int p3), .unset, .unset, .unset, .unset] [(.int (p1 &&& (7 : Int32)))]))
  refine own_go (fun _ k => XS.iconst X0.here hx rfl (hb hby at_4)  k) ?_
  show own_Fin p.tables e below G (s₁.setTop (mkF m 5 #[.val (.int p1), .val (.int p2), .val (.int p3), .unset, .unset, .unset, .unset] [(.int (5 : Int32)), (.int (p1 &&& (7 : Int32)))]))
  refine own_go (fun _ k => iremM X0 hx rfl (hb hby at_5) rfl (by decide) k) ?_
  show own_Fin p.tables e below G (s₁.setTop (mkF m 6 #[.val (.int p1), .val (.int p2), .val (.int p3), .unset, .unset, .unset, .unset] [(.int ((p1 &&& (7 : Int32)) % (5 : Int32)))]))
  refine own_go (fun _ k => XS.istoreN X0.here hx rfl (hb hby at_6) rfl (l' := #[.val (.int p1), .val (.int p2), .val (.int p3), .val (.int ((p1 &&& (7 : Int32)) % (5 : Int32))), .unset, .unset, .unset]) rfl k) ?_
  show own_Fin p.tables e below G (s₁.setTop (mkF m 7 #[.val (.int p1), .val (.int p2), .val (.int p3), .val (.int ((p1 &&& (7 : Int32)) % (5 : Int32))), .unset, .unset, .unset] []))
  refine own_go (fun _ k => XS.iloadN X0.here hx rfl (hb hby at_7) rfl k) ?_
  show own_Fin p.tables e below G (s₁.setTop (mkF m 8 #[.val (.int p1), .val (.int p2), .val (.int p3), .val (.int ((p1 &&& (7 : Int32)) % (5 : Int32))), .unset, .unset, .unset] [(.int p3)]))
  refine own_go (fun _ k => XS.iconst X0.here hx rfl (hb hby at_8)  k) ?_
  show own_Fin p.tables e below G (s₁.setTop (mkF m 9 #[.val (.int p1), .val (.int p2), .val (.int p3), .val (.int ((p1 &&& (7 : Int32)) % (5 : Int32))), .unset, .unset, .unset] [(.int (1 : Int32)), (.int p3)]))
  refine own_go (fun _ k => XS.iand X0.here hx rfl (hb hby at_9) rfl k) ?_
  show own_Fin p.tables e below G (s₁.setTop (mkF m 10 #[.val (.int p1), .val (.int p2), .val (.int p3), .val (.int ((p1 &&& (7 : Int32)) % (5 : Int32))), .unset, .unset, .unset] [(.int (p3 &&& (1 : Int32)))]))
  suffices own_k22 : ∀ cc : Int32, own_Fin p.tables e below G (s₁.setTop (mkF m 22 #[.val (.int p1), .val (.int p2), .val (.int p3), .val (.int ((p1 &&& (7 : Int32)) % (5 : Int32))), .unset, .unset, .unset] [(.int cc)])) by
    by_cases hc10 : (p3 &&& (1 : Int32)) = 0
    · refine own_go (fun _ k => XS.ifYes X0.here hx rfl (pc0 := 10) (pc' := 17) rfl (hb hby at_10) rfl (Jvm.Free.XT.i0_eq_t hc10) (by decide) (by decide) k) ?_
      show own_Fin p.tables e below G (s₁.setTop (mkF m 17 #[.val (.int p1), .val (.int p2), .val (.int p3), .val (.int ((p1 &&& (7 : Int32)) % (5 : Int32))), .unset, .unset, .unset] []))
      refine own_go (fun _ k => XS.iloadN X0.here hx rfl (hb hby at_17) rfl k) ?_
      show own_Fin p.tables e below G (s₁.setTop (mkF m 18 #[.val (.int p1), .val (.int p2), .val (.int p3), .val (.int ((p1 &&& (7 : Int32)) % (5 : Int32))), .unset, .unset, .unset] [(.int p2)]))
      refine own_go (fun _ k => XS.iconst X0.here hx rfl (hb hby at_18)  k) ?_
      show own_Fin p.tables e below G (s₁.setTop (mkF m 19 #[.val (.int p1), .val (.int p2), .val (.int p3), .val (.int ((p1 &&& (7 : Int32)) % (5 : Int32))), .unset, .unset, .unset] [(.int (3 : Int32)), (.int p2)]))
      refine own_go (fun _ k => XS.iand X0.here hx rfl (hb hby at_19) rfl k) ?_
      show own_Fin p.tables e below G (s₁.setTop (mkF m 20 #[.val (.int p1), .val (.int p2), .val (.int p3), .val (.int ((p1 &&& (7 : Int32)) % (5 : Int32))), .unset, .unset, .unset] [(.int (p2 &&& (3 : Int32)))]))
      refine own_go (fun _ k => XS.iconst X0.here hx rfl (hb hby at_20)  k) ?_
      show own_Fin p.tables e below G (s₁.setTop (mkF m 21 #[.val (.int p1), .val (.int p2), .val (.int p3), .val (.int ((p1 &&& (7 : Int32)) % (5 : Int32))), .unset, .unset, .unset] [(.int (1 : Int32)), (.int (p2 &&& (3 : Int32)))]))
      refine own_go (fun _ k => XS.isub X0.here hx rfl (hb hby at_21) rfl k) ?_
      show own_Fin p.tables e below G (s₁.setTop (mkF m 22 #[.val (.int p1), .val (.int p2), .val (.int p3), .val (.int ((p1 &&& (7 : Int32)) % (5 : Int32))), .unset, .unset, .unset] [(.int ((p2 &&& (3 : Int32)) - (1 : Int32)))]))
      exact own_k22 _
    · refine own_go (fun _ k => XS.ifNo X0.here hx rfl (hb hby at_10) rfl (Jvm.Free.XT.i0_eq_f hc10) k) ?_
      show own_Fin p.tables e below G (s₁.setTop (mkF m 13 #[.val (.int p1), .val (.int p2), .val (.int p3), .val (.int ((p1 &&& (7 : Int32)) % (5 : Int32))), .unset, .unset, .unset] []))
      refine own_go (fun _ k => XS.iloadN X0.here hx rfl (hb hby at_13) rfl k) ?_
      show own_Fin p.tables e below G (s₁.setTop (mkF m 14 #[.val (.int p1), .val (.int p2), .val (.int p3), .val (.int ((p1 &&& (7 : Int32)) % (5 : Int32))), .unset, .unset, .unset] [(.int p2)]))
      refine own_go (fun _ k => XS.goto X0.here hx rfl (pc0 := 14) (pc' := 22) rfl (hb hby at_14) (by decide) (by decide) k) ?_
      show own_Fin p.tables e below G (s₁.setTop (mkF m 22 #[.val (.int p1), .val (.int p2), .val (.int p3), .val (.int ((p1 &&& (7 : Int32)) % (5 : Int32))), .unset, .unset, .unset] [(.int p2)]))
      exact own_k22 _
  intro cc
  refine own_go (fun _ k => XS.istore X0.here hx rfl (hb hby at_22) rfl (l' := #[.val (.int p1), .val (.int p2), .val (.int p3), .val (.int ((p1 &&& (7 : Int32)) % (5 : Int32))), .val (.int cc), .unset, .unset]) rfl k) ?_
  show own_Fin p.tables e below G (s₁.setTop (mkF m 24 #[.val (.int p1), .val (.int p2), .val (.int p3), .val (.int ((p1 &&& (7 : Int32)) % (5 : Int32))), .val (.int cc), .unset, .unset] []))
  refine own_go (fun _ k => XS.iloadN X0.here hx rfl (hb hby at_24) rfl k) ?_
  show own_Fin p.tables e below G (s₁.setTop (mkF m 25 #[.val (.int p1), .val (.int p2), .val (.int p3), .val (.int ((p1 &&& (7 : Int32)) % (5 : Int32))), .val (.int cc), .unset, .unset] [(.int ((p1 &&& (7 : Int32)) % (5 : Int32)))]))
  by_cases hc25 : ((p1 &&& (7 : Int32)) % (5 : Int32)) = 0
  · refine own_go (fun _ k => XS.ifNo X0.here hx rfl (hb hby at_25) rfl (Jvm.Free.XT.i0_ne_f hc25) k) ?_
    show own_Fin p.tables e below G (s₁.setTop (mkF m 28 #[.val (.int p1), .val (.int p2), .val (.int p3), .val (.int ((p1 &&& (7 : Int32)) % (5 : Int32))), .val (.int cc), .unset, .unset] []))
    obtain ⟨T4, X4, e4, st4⟩ := getS2 X0 hx hZ hown (host := "") (Or.inl (own_at hw 0 rfl)) Via.refl e0 SEMPTY (g := (mkF m 28 #[.val (.int p1), .val (.int p2), .val (.int p3), .val (.int ((p1 &&& (7 : Int32)) % (5 : Int32))), .val (.int cc), .unset, .unset] [])) rfl (hb hby at_28)
    refine own_go st4 ?_
    show own_Fin p.tables e below G (T4.setTop (mkF m 31 #[.val (.int p1), .val (.int p2), .val (.int p3), .val (.int ((p1 &&& (7 : Int32)) % (5 : Int32))), .val (.int cc), .unset, .unset] [(.ref oEMPTY)]))
    refine own_go (fun _ k => XS.astore X4.here hx rfl (hb hby at_31) rfl rfl (l' := #[.val (.int p1), .val (.int p2), .val (.int p3), .val (.int ((p1 &&& (7 : Int32)) % (5 : Int32))), .val (.int cc), .val (.ref oEMPTY), .unset]) rfl k) ?_
    show own_Fin p.tables e below G (T4.setTop (mkF m 33 #[.val (.int p1), .val (.int p2), .val (.int p3), .val (.int ((p1 &&& (7 : Int32)) % (5 : Int32))), .val (.int cc), .val (.ref oEMPTY), .unset] []))
    refine own_go (fun _ k => XS.iload X4.here hx rfl (hb hby at_33) rfl k) ?_
    show own_Fin p.tables e below G (T4.setTop (mkF m 35 #[.val (.int p1), .val (.int p2), .val (.int p3), .val (.int ((p1 &&& (7 : Int32)) % (5 : Int32))), .val (.int cc), .val (.ref oEMPTY), .unset] [(.int cc)]))
    by_cases hc35 : cc = 0
    · refine own_go (fun _ k => XS.ifNo X4.here hx rfl (hb hby at_35) rfl (Jvm.Free.XT.i0_ne_f hc35) k) ?_
      show own_Fin p.tables e below G (T4.setTop (mkF m 38 #[.val (.int p1), .val (.int p2), .val (.int p3), .val (.int ((p1 &&& (7 : Int32)) % (5 : Int32))), .val (.int cc), .val (.ref oEMPTY), .unset] []))
      refine own_go (fun _ k => XS.iconst X4.here hx rfl (hb hby at_38)  k) ?_
      show own_Fin p.tables e below G (T4.setTop (mkF m 39 #[.val (.int p1), .val (.int p2), .val (.int p3), .val (.int ((p1 &&& (7 : Int32)) % (5 : Int32))), .val (.int cc), .val (.ref oEMPTY), .unset] [(.int (1 : Int32))]))
      refine own_go (fun _ k => XS.goto X4.here hx rfl (pc0 := 39) (pc' := 43) rfl (hb hby at_39) (by decide) (by decide) k) ?_
      show own_Fin p.tables e below G (T4.setTop (mkF m 43 #[.val (.int p1), .val (.int p2), .val (.int p3), .val (.int ((p1 &&& (7 : Int32)) % (5 : Int32))), .val (.int cc), .val (.ref oEMPTY), .unset] [(.int (1 : Int32))]))
      refine own_go (fun _ k => XS.istore X4.here hx rfl (hb hby at_43) rfl (l' := #[.val (.int p1), .val (.int p2), .val (.int p3), .val (.int ((p1 &&& (7 : Int32)) % (5 : Int32))), .val (.int cc), .val (.ref oEMPTY), .val (.int (1 : Int32))]) rfl k) ?_
      show own_Fin p.tables e below G (T4.setTop (mkF m 45 #[.val (.int p1), .val (.int p2), .val (.int p3), .val (.int ((p1 &&& (7 : Int32)) % (5 : Int32))), .val (.int cc), .val (.ref oEMPTY), .val (.int (1 : Int32))] []))
      refine own_go (fun _ k => XS.goto X4.here hx rfl (pc0 := 45) (pc' := 148) rfl (hb hby at_45) (by decide) (by decide) k) ?_
      show own_Fin p.tables e below G (T4.setTop (mkF m 148 #[.val (.int p1), .val (.int p2), .val (.int p3), .val (.int ((p1 &&& (7 : Int32)) % (5 : Int32))), .val (.int cc), .val (.ref oEMPTY), .val (.int (1 : Int32))] []))
      exact own_k148 _ X4 e4 _ _ _ (0 : Int32) (0 : Int32) _ EEMPTY FmEMPTY FxEMPTY (own_t1 (by have b1 := cc.toInt_lt; have b2 := cc.le_toInt; simp only [Int32.lt_iff_toInt_lt, ← Int32.toInt_inj, own_c0, own_c1, own_cM] at hc35 ⊢; omega) (by have b1 := cc.toInt_lt; have b2 := cc.le_toInt; simp only [Int32.lt_iff_toInt_lt, ← Int32.toInt_inj, own_c0, own_c1, own_cM] at hc35 ⊢; omega))
    · refine own_go (fun _ k => XS.ifYes X4.here hx rfl (pc0 := 35) (pc' := 42) rfl (hb hby at_35) rfl (Jvm.Free.XT.i0_ne_t hc35) (by decide) (by decide) k) ?_
      show own_Fin p.tables e below G (T4.setTop (mkF m 42 #[.val (.int p1), .val (.int p2), .val (.int p3), .val (.int ((p1 &&& (7 : Int32)) % (5 : Int32))), .val (.int cc), .val (.ref oEMPTY), .unset] []))
      refine own_go (fun _ k => XS.iconst X4.here hx rfl (hb hby at_42)  k) ?_
      show own_Fin p.tables e below G (T4.setTop (mkF m 43 #[.val (.int p1), .val (.int p2), .val (.int p3), .val (.int ((p1 &&& (7 : Int32)) % (5 : Int32))), .val (.int cc), .val (.ref oEMPTY), .unset] [(.int (0 : Int32))]))
      refine own_go (fun _ k => XS.istore X4.here hx rfl (hb hby at_43) rfl (l' := #[.val (.int p1), .val (.int p2), .val (.int p3), .val (.int ((p1 &&& (7 : Int32)) % (5 : Int32))), .val (.int cc), .val (.ref oEMPTY), .val (.int (0 : Int32))]) rfl k) ?_
      show own_Fin p.tables e below G (T4.setTop (mkF m 45 #[.val (.int p1), .val (.int p2), .val (.int p3), .val (.int ((p1 &&& (7 : Int32)) % (5 : Int32))), .val (.int cc), .val (.ref oEMPTY), .val (.int (0 : Int32))] []))
      refine own_go (fun _ k => XS.goto X4.here hx rfl (pc0 := 45) (pc' := 148) rfl (hb hby at_45) (by decide) (by decide) k) ?_
      show own_Fin p.tables e below G (T4.setTop (mkF m 148 #[.val (.int p1), .val (.int p2), .val (.int p3), .val (.int ((p1 &&& (7 : Int32)) % (5 : Int32))), .val (.int cc), .val (.ref oEMPTY), .val (.int (0 : Int32))] []))
      exact own_k148 _ X4 e4 _ _ _ (0 : Int32) (0 : Int32) _ EEMPTY FmEMPTY FxEMPTY (own_f1 (by have b1 := cc.toInt_lt; have b2 := cc.le_toInt; simp only [Int32.lt_iff_toInt_lt, ← Int32.toInt_inj, own_c0, own_c1, own_cM] at hc35 ⊢; omega))
  · refine own_go (fun _ k => XS.ifYes X0.here hx rfl (pc0 := 25) (pc' := 48) rfl (hb hby at_25) rfl (Jvm.Free.XT.i0_ne_t hc25) (by decide) (by decide) k) ?_
    show own_Fin p.tables e below G (s₁.setTop (mkF m 48 #[.val (.int p1), .val (.int p2), .val (.int p3), .val (.int ((p1 &&& (7 : Int32)) % (5 : Int32))), .val (.int cc), .unset, .unset] []))
    refine own_go (fun _ k => XS.iloadN X0.here hx rfl (hb hby at_48) rfl k) ?_
    show own_Fin p.tables e below G (s₁.setTop (mkF m 49 #[.val (.int p1), .val (.int p2), .val (.int p3), .val (.int ((p1 &&& (7 : Int32)) % (5 : Int32))), .val (.int cc), .unset, .unset] [(.int ((p1 &&& (7 : Int32)) % (5 : Int32)))]))
    refine own_go (fun _ k => XS.iconst X0.here hx rfl (hb hby at_49)  k) ?_
    show own_Fin p.tables e below G (s₁.setTop (mkF m 50 #[.val (.int p1), .val (.int p2), .val (.int p3), .val (.int ((p1 &&& (7 : Int32)) % (5 : Int32))), .val (.int cc), .unset, .unset] [(.int (1 : Int32)), (.int ((p1 &&& (7 : Int32)) % (5 : Int32)))]))
    by_cases hc50 : ((p1 &&& (7 : Int32)) % (5 : Int32)) = (1 : Int32)
    · refine own_go (fun _ k => XS.icmpNo X0.here hx rfl (hb hby at_50) rfl (Jvm.Free.XT.ii_ne_f hc50) k) ?_
      show own_Fin p.tables e below G (s₁.setTop (mkF m 53 #[.val (.int p1), .val (.int p2), .val (.int p3), .val (.int ((p1 &&& (7 : Int32)) % (5 : Int32))), .val (.int cc), .unset, .unset] []))
      obtain ⟨T5, X5, e5, st5⟩ := getS2 X0 hx hZ hown (host := "") (Or.inl (own_at hw 12 rfl)) Via.refl e0 SEXACTLY_ONE (g := (mkF m 53 #[.val (.int p1), .val (.int p2), .val (.int p3), .val (.int ((p1 &&& (7 : Int32)) % (5 : Int32))), .val (.int cc), .unset, .unset] [])) rfl (hb hby at_53)
      refine own_go st5 ?_
      show own_Fin p.tables e below G (T5.setTop (mkF m 56 #[.val (.int p1), .val (.int p2), .val (.int p3), .val (.int ((p1 &&& (7 : Int32)) % (5 : Int32))), .val (.int cc), .unset, .unset] [(.ref oEXACTLY_ONE)]))
      refine own_go (fun _ k => XS.astore X5.here hx rfl (hb hby at_56) rfl rfl (l' := #[.val (.int p1), .val (.int p2), .val (.int p3), .val (.int ((p1 &&& (7 : Int32)) % (5 : Int32))), .val (.int cc), .val (.ref oEXACTLY_ONE), .unset]) rfl k) ?_
      show own_Fin p.tables e below G (T5.setTop (mkF m 58 #[.val (.int p1), .val (.int p2), .val (.int p3), .val (.int ((p1 &&& (7 : Int32)) % (5 : Int32))), .val (.int cc), .val (.ref oEXACTLY_ONE), .unset] []))
      refine own_go (fun _ k => XS.iload X5.here hx rfl (hb hby at_58) rfl k) ?_
      show own_Fin p.tables e below G (T5.setTop (mkF m 60 #[.val (.int p1), .val (.int p2), .val (.int p3), .val (.int ((p1 &&& (7 : Int32)) % (5 : Int32))), .val (.int cc), .val (.ref oEXACTLY_ONE), .unset] [(.int cc)]))
      refine own_go (fun _ k => XS.iconst X5.here hx rfl (hb hby at_60)  k) ?_
      show own_Fin p.tables e below G (T5.setTop (mkF m 61 #[.val (.int p1), .val (.int p2), .val (.int p3), .val (.int ((p1 &&& (7 : Int32)) % (5 : Int32))), .val (.int cc), .val (.ref oEXACTLY_ONE), .unset] [(.int (1 : Int32)), (.int cc)]))
      by_cases hc61 : cc = (1 : Int32)
      · refine own_go (fun _ k => XS.icmpNo X5.here hx rfl (hb hby at_61) rfl (Jvm.Free.XT.ii_ne_f hc61) k) ?_
        show own_Fin p.tables e below G (T5.setTop (mkF m 64 #[.val (.int p1), .val (.int p2), .val (.int p3), .val (.int ((p1 &&& (7 : Int32)) % (5 : Int32))), .val (.int cc), .val (.ref oEXACTLY_ONE), .unset] []))
        refine own_go (fun _ k => XS.iconst X5.here hx rfl (hb hby at_64)  k) ?_
        show own_Fin p.tables e below G (T5.setTop (mkF m 65 #[.val (.int p1), .val (.int p2), .val (.int p3), .val (.int ((p1 &&& (7 : Int32)) % (5 : Int32))), .val (.int cc), .val (.ref oEXACTLY_ONE), .unset] [(.int (1 : Int32))]))
        refine own_go (fun _ k => XS.goto X5.here hx rfl (pc0 := 65) (pc' := 69) rfl (hb hby at_65) (by decide) (by decide) k) ?_
        show own_Fin p.tables e below G (T5.setTop (mkF m 69 #[.val (.int p1), .val (.int p2), .val (.int p3), .val (.int ((p1 &&& (7 : Int32)) % (5 : Int32))), .val (.int cc), .val (.ref oEXACTLY_ONE), .unset] [(.int (1 : Int32))]))
        refine own_go (fun _ k => XS.istore X5.here hx rfl (hb hby at_69) rfl (l' := #[.val (.int p1), .val (.int p2), .val (.int p3), .val (.int ((p1 &&& (7 : Int32)) % (5 : Int32))), .val (.int cc), .val (.ref oEXACTLY_ONE), .val (.int (1 : Int32))]) rfl k) ?_
        show own_Fin p.tables e below G (T5.setTop (mkF m 71 #[.val (.int p1), .val (.int p2), .val (.int p3), .val (.int ((p1 &&& (7 : Int32)) % (5 : Int32))), .val (.int cc), .val (.ref oEXACTLY_ONE), .val (.int (1 : Int32))] []))
        refine own_go (fun _ k => XS.goto X5.here hx rfl (pc0 := 71) (pc' := 148) rfl (hb hby at_71) (by decide) (by decide) k) ?_
        show own_Fin p.tables e below G (T5.setTop (mkF m 148 #[.val (.int p1), .val (.int p2), .val (.int p3), .val (.int ((p1 &&& (7 : Int32)) % (5 : Int32))), .val (.int cc), .val (.ref oEXACTLY_ONE), .val (.int (1 : Int32))] []))
        exact own_k148 _ X5 e5 _ _ _ (1 : Int32) (1 : Int32) _ EEXACTLY_ONE FmEXACTLY_ONE FxEXACTLY_ONE (own_t1 (by have b1 := cc.toInt_lt; have b2 := cc.le_toInt; simp only [Int32.lt_iff_toInt_lt, ← Int32.toInt_inj, own_c0, own_c1, own_cM] at hc61 ⊢; omega) (by have b1 := cc.toInt_lt; have b2 := cc.le_toInt; simp only [Int32.lt_iff_toInt_lt, ← Int32.toInt_inj, own_c0, own_c1, own_cM] at hc61 ⊢; omega))
      · refine own_go (fun _ k => XS.icmpYes X5.here hx rfl (pc0 := 61) (pc' := 68) rfl (hb hby at_61) rfl (Jvm.Free.XT.ii_ne_t hc61) (by decide) (by decide) k) ?_
        show own_Fin p.tables e below G (T5.setTop (mkF m 68 #[.val (.int p1), .val (.int p2), .val (.int p3), .val (.int ((p1 &&& (7 : Int32)) % (5 : Int32))), .val (.int cc), .val (.ref oEXACTLY_ONE), .unset] []))
        refine own_go (fun _ k => XS.iconst X5.here hx rfl (hb hby at_68)  k) ?_
        show own_Fin p.tables e below G (T5.setTop (mkF m 69 #[.val (.int p1), .val (.int p2), .val (.int p3), .val (.int ((p1 &&& (7 : Int32)) % (5 : Int32))), .val (.int cc), .val (.ref oEXACTLY_ONE), .unset] [(.int (0 : Int32))]))
        refine own_go (fun _ k => XS.istore X5.here hx rfl (hb hby at_69) rfl (l' := #[.val (.int p1), .val (.int p2), .val (.int p3), .val (.int ((p1 &&& (7 : Int32)) % (5 : Int32))), .val (.int cc), .val (.ref oEXACTLY_ONE), .val (.int (0 : Int32))]) rfl k) ?_
        show own_Fin p.tables e below G (T5.setTop (mkF m 71 #[.val (.int p1), .val (.int p2), .val (.int p3), .val (.int ((p1 &&& (7 : Int32)) % (5 : Int32))), .val (.int cc), .val (.ref oEXACTLY_ONE), .val (.int (0 : Int32))] []))
        refine own_go (fun _ k => XS.goto X5.here hx rfl (pc0 := 71) (pc' := 148) rfl (hb hby at_71) (by decide) (by decide) k) ?_
        show own_Fin p.tables e below G (T5.setTop (mkF m 148 #[.val (.int p1), .val (.int p2), .val (.int p3), .val (.int ((p1 &&& (7 : Int32)) % (5 : Int32))), .val (.int cc), .val (.ref oEXACTLY_ONE), .val (.int (0 : Int32))] []))
        exact own_k148 _ X5 e5 _ _ _ (1 : Int32) (1 : Int32) _ EEXACTLY_ONE FmEXACTLY_ONE FxEXACTLY_ONE (own_f1 (by have b1 := cc.toInt_lt; have b2 := cc.le_toInt; simp only [Int32.lt_iff_toInt_lt, ← Int32.toInt_inj, own_c0, own_c1, own_cM] at hc61 ⊢; omega))
    · refine own_go (fun _ k => XS.icmpYes X0.here hx rfl (pc0 := 50) (pc' := 74) rfl (hb hby at_50) rfl (Jvm.Free.XT.ii_ne_t hc50) (by decide) (by decide) k) ?_
      show own_Fin p.tables e below G (s₁.setTop (mkF m 74 #[.val (.int p1), .val (.int p2), .val (.int p3), .val (.int ((p1 &&& (7 : Int32)) % (5 : Int32))), .val (.int cc), .unset, .unset] []))
      refine own_go (fun _ k => XS.iloadN X0.here hx rfl (hb hby at_74) rfl k) ?_
      show own_Fin p.tables e below G (s₁.setTop (mkF m 75 #[.val (.int p1), .val (.int p2), .val (.int p3), .val (.int ((p1 &&& (7 : Int32)) % (5 : Int32))), .val (.int cc), .unset, .unset] [(.int ((p1 &&& (7 : Int32)) % (5 : Int32)))]))
      refine own_go (fun _ k => XS.iconst X0.here hx rfl (hb hby at_75)  k) ?_
      show own_Fin p.tables e below G (s₁.setTop (mkF m 76 #[.val (.int p1), .val (.int p2), .val (.int p3), .val (.int ((p1 &&& (7 : Int32)) % (5 : Int32))), .val (.int cc), .unset, .unset] [(.int (2 : Int32)), (.int ((p1 &&& (7 : Int32)) % (5 : Int32)))]))
      by_cases hc76 : ((p1 &&& (7 : Int32)) % (5 : Int32)) = (2 : Int32)
      · refine own_go (fun _ k => XS.icmpNo X0.here hx rfl (hb hby at_76) rfl (Jvm.Free.XT.ii_ne_f hc76) k) ?_
        show own_Fin p.tables e below G (s₁.setTop (mkF m 79 #[.val (.int p1), .val (.int p2), .val (.int p3), .val (.int ((p1 &&& (7 : Int32)) % (5 : Int32))), .val (.int cc), .unset, .unset] []))
        obtain ⟨T6, X6, e6, st6⟩ := getS2 X0 hx hZ hown (host := "") (Or.inl (own_at hw 16 rfl)) Via.refl e0 SZERO_OR_ONE (g := (mkF m 79 #[.val (.int p1), .val (.int p2), .val (.int p3), .val (.int ((p1 &&& (7 : Int32)) % (5 : Int32))), .val (.int cc), .unset, .unset] [])) rfl (hb hby at_79)
        refine own_go st6 ?_
        show own_Fin p.tables e below G (T6.setTop (mkF m 82 #[.val (.int p1), .val (.int p2), .val (.int p3), .val (.int ((p1 &&& (7 : Int32)) % (5 : Int32))), .val (.int cc), .unset, .unset] [(.ref oZERO_OR_ONE)]))
        refine own_go (fun _ k => XS.astore X6.here hx rfl (hb hby at_82) rfl rfl (l' := #[.val (.int p1), .val (.int p2), .val (.int p3), .val (.int ((p1 &&& (7 : Int32)) % (5 : Int32))), .val (.int cc), .val (.ref oZERO_OR_ONE), .unset]) rfl k) ?_
        show own_Fin p.tables e below G (T6.setTop (mkF m 84 #[.val (.int p1), .val (.int p2), .val (.int p3), .val (.int ((p1 &&& (7 : Int32)) % (5 : Int32))), .val (.int cc), .val (.ref oZERO_OR_ONE), .unset] []))
        refine own_go (fun _ k => XS.iload X6.here hx rfl (hb hby at_84) rfl k) ?_
        show own_Fin p.tables e below G (T6.setTop (mkF m 86 #[.val (.int p1), .val (.int p2), .val (.int p3), .val (.int ((p1 &&& (7 : Int32)) % (5 : Int32))), .val (.int cc), .val (.ref oZERO_OR_ONE), .unset] [(.int cc)]))
        by_cases hc86 : cc = 0
        · refine own_go (fun _ k => XS.ifYes X6.here hx rfl (pc0 := 86) (pc' := 95) rfl (hb hby at_86) rfl (Jvm.Free.XT.i0_eq_t hc86) (by decide) (by decide) k) ?_
          show own_Fin p.tables e below G (T6.setTop (mkF m 95 #[.val (.int p1), .val (.int p2), .val (.int p3), .val (.int ((p1 &&& (7 : Int32)) % (5 : Int32))), .val (.int cc), .val (.ref oZERO_OR_ONE), .unset] []))
          refine own_go (fun _ k => XS.iconst X6.here hx rfl (hb hby at_95)  k) ?_
          show own_Fin p.tables e below G (T6.setTop (mkF m 96 #[.val (.int p1), .val (.int p2), .val (.int p3), .val (.int ((p1 &&& (7 : Int32)) % (5 : Int32))), .val (.int cc), .val (.ref oZERO_OR_ONE), .unset] [(.int (1 : Int32))]))
          refine own_go (fun _ k => XS.goto X6.here hx rfl (pc0 := 96) (pc' := 100) rfl (hb hby at_96) (by decide) (by decide) k) ?_
          show own_Fin p.tables e below G (T6.setTop (mkF m 100 #[.val (.int p1), .val (.int p2), .val (.int p3), .val (.int ((p1 &&& (7 : Int32)) % (5 : Int32))), .val (.int cc), .val (.ref oZERO_OR_ONE), .unset] [(.int (1 : Int32))]))
          refine own_go (fun _ k => XS.istore X6.here hx rfl (hb hby at_100) rfl (l' := #[.val (.int p1), .val (.int p2), .val (.int p3), .val (.int ((p1 &&& (7 : Int32)) % (5 : Int32))), .val (.int cc), .val (.ref oZERO_OR_ONE), .val (.int (1 : Int32))]) rfl k) ?_
          show own_Fin p.tables e below G (T6.setTop (mkF m 102 #[.val (.int p1), .val (.int p2), .val (.int p3), .val (.int ((p1 &&& (7 : Int32)) % (5 : Int32))), .val (.int cc), .val (.ref oZERO_OR_ONE), .val (.int (1 : Int32))] []))
          refine own_go (fun _ k => XS.goto X6.here hx rfl (pc0 := 102) (pc' := 148) rfl (hb hby at_102) (by decide) (by decide) k) ?_
          show own_Fin p.tables e below G (T6.setTop (mkF m 148 #[.val (.int p1), .val (.int p2), .val (.int p3), .val (.int ((p1 &&& (7 : Int32)) % (5 : Int32))), .val (.int cc), .val (.ref oZERO_OR_ONE), .val (.int (1 : Int32))] []))
          exact own_k148 _ X6 e6 _ _ _ (0 : Int32) (1 : Int32) _ EZERO_OR_ONE FmZERO_OR_ONE FxZERO_OR_ONE (own_t1 (by have b1 := cc.toInt_lt; have b2 := cc.le_toInt; simp only [Int32.lt_iff_toInt_lt, ← Int32.toInt_inj, own_c0, own_c1, own_cM] at hc86 ⊢; omega) (by have b1 := cc.toInt_lt; have b2 := cc.le_toInt; simp only [Int32.lt_iff_toInt_lt, ← Int32.toInt_inj, own_c0, own_c1, own_cM] at hc86 ⊢; omega))
        · refine own_go (fun _ k => XS.ifNo X6.here hx rfl (hb hby at_86) rfl (Jvm.Free.XT.i0_eq_f hc86) k) ?_
          show own_Fin p.tables e below G (T6.setTop (mkF m 89 #[.val (.int p1), .val (.int p2), .val (.int p3), .val (.int ((p1 &&& (7 : Int32)) % (5 : Int32))), .val (.int cc), .val (.ref oZERO_OR_ONE), .unset] []))
          refine own_go (fun _ k => XS.iload X6.here hx rfl (hb hby at_89) rfl k) ?_
          show own_Fin p.tables e below G (T6.setTop (mkF m 91 #[.val (.int p1), .val (.int p2), .val (.int p3), .val (.int ((p1 &&& (7 : Int32)) % (5 : Int32))), .val (.int cc), .val (.ref oZERO_OR_ONE), .unset] [(.int cc)]))
          refine own_go (fun _ k => XS.iconst X6.here hx rfl (hb hby at_91)  k) ?_
          show own_Fin p.tables e below G (T6.setTop (mkF m 92 #[.val (.int p1), .val (.int p2), .val (.int p3), .val (.int ((p1 &&& (7 : Int32)) % (5 : Int32))), .val (.int cc), .val (.ref oZERO_OR_ONE), .unset] [(.int (1 : Int32)), (.int cc)]))
          by_cases hc92 : cc = (1 : Int32)
          · refine own_go (fun _ k => XS.icmpNo X6.here hx rfl (hb hby at_92) rfl (Jvm.Free.XT.ii_ne_f hc92) k) ?_
            show own_Fin p.tables e below G (T6.setTop (mkF m 95 #[.val (.int p1), .val (.int p2), .val (.int p3), .val (.int ((p1 &&& (7 : Int32)) % (5 : Int32))), .val (.int cc), .val (.ref oZERO_OR_ONE), .unset] []))
            refine own_go (fun _ k => XS.iconst X6.here hx rfl (hb hby at_95)  k) ?_
            show own_Fin p.tables e below G (T6.setTop (mkF m 96 #[.val (.int p1), .val (.int p2), .val (.int p3), .val (.int ((p1 &&& (7 : Int32)) % (5 : Int32))), .val (.int cc), .val (.ref oZERO_OR_ONE), .unset] [(.int (1 : Int32))]))
            refine own_go (fun _ k => XS.goto X6.here hx rfl (pc0 := 96) (pc' := 100) rfl (hb hby at_96) (by decide) (by decide) k) ?_
            show own_Fin p.tables e below G (T6.setTop (mkF m 100 #[.val (.int p1), .val (.int p2), .val (.int p3), .val (.int ((p1 &&& (7 : Int32)) % (5 : Int32))), .val (.int cc), .val (.ref oZERO_OR_ONE), .unset] [(.int (1 : Int32))]))
            refine own_go (fun _ k => XS.istore X6.here hx rfl (hb hby at_100) rfl (l' := #[.val (.int p1), .val (.int p2), .val (.int p3), .val (.int ((p1 &&& (7 : Int32)) % (5 : Int32))), .val (.int cc), .val (.ref oZERO_OR_ONE), .val (.int (1 : Int32))]) rfl k) ?_
            show own_Fin p.tables e below G (T6.setTop (mkF m 102 #[.val (.int p1), .val (.int p2), .val (.int p3), .val (.int ((p1 &&& (7 : Int32)) % (5 : Int32))), .val (.int cc), .val (.ref oZERO_OR_ONE), .val (.int (1 : Int32))] []))
            refine own_go (fun _ k => XS.goto X6.here hx rfl (pc0 := 102) (pc' := 148) rfl (hb hby at_102) (by decide) (by decide) k) ?_
            show own_Fin p.tables e below G (T6.setTop (mkF m 148 #[.val (.int p1), .val (.int p2), .val (.int p3), .val (.int ((p1 &&& (7 : Int32)) % (5 : Int32))), .val (.int cc), .val (.ref oZERO_OR_ONE), .val (.int (1 : Int32))] []))
            exact own_k148 _ X6 e6 _ _ _ (0 : Int32) (1 : Int32) _ EZERO_OR_ONE FmZERO_OR_ONE FxZERO_OR_ONE (own_t1 (by have b1 := cc.toInt_lt; have b2 := cc.le_toInt; simp only [Int32.lt_iff_toInt_lt, ← Int32.toInt_inj, own_c0, own_c1, own_cM] at hc86 hc92 ⊢; omega) (by have b1 := cc.toInt_lt; have b2 := cc.le_toInt; simp only [Int32.lt_iff_toInt_lt, ← Int32.toInt_inj, own_c0, own_c1, own_cM] at hc86 hc92 ⊢; omega))
          · refine own_go (fun _ k => XS.icmpYes X6.here hx rfl (pc0 := 92) (pc' := 99) rfl (hb hby at_92) rfl (Jvm.Free.XT.ii_ne_t hc92) (by decide) (by decide) k) ?_
            show own_Fin p.tables e below G (T6.setTop (mkF m 99 #[.val (.int p1), .val (.int p2), .val (.int p3), .val (.int ((p1 &&& (7 : Int32)) % (5 : Int32))), .val (.int cc), .val (.ref oZERO_OR_ONE), .unset] []))
            refine own_go (fun _ k => XS.iconst X6.here hx rfl (hb hby at_99)  k) ?_
            show own_Fin p.tables e below G (T6.setTop (mkF m 100 #[.val (.int p1), .val (.int p2), .val (.int p3), .val (.int ((p1 &&& (7 : Int32)) % (5 : Int32))), .val (.int cc), .val (.ref oZERO_OR_ONE), .unset] [(.int (0 : Int32))]))
            refine own_go (fun _ k => XS.istore X6.here hx rfl (hb hby at_100) rfl (l' := #[.val (.int p1), .val (.int p2), .val (.int p3), .val (.int ((p1 &&& (7 : Int32)) % (5 : Int32))), .val (.int cc), .val (.ref oZERO_OR_ONE), .val (.int (0 : Int32))]) rfl k) ?_
            show own_Fin p.tables e below G (T6.setTop (mkF m 102 #[.val (.int p1), .val (.int p2), .val (.int p3), .val (.int ((p1 &&& (7 : Int32)) % (5 : Int32))), .val (.int cc), .val (.ref oZERO_OR_ONE), .val (.int (0 : Int32))] []))
            refine own_go (fun _ k => XS.goto X6.here hx rfl (pc0 := 102) (pc' := 148) rfl (hb hby at_102) (by decide) (by decide) k) ?_
            show own_Fin p.tables e below G (T6.setTop (mkF m 148 #[.val (.int p1), .val (.int p2), .val (.int p3), .val (.int ((p1 &&& (7 : Int32)) % (5 : Int32))), .val (.int cc), .val (.ref oZERO_OR_ONE), .val (.int (0 : Int32))] []))
            exact own_k148 _ X6 e6 _ _ _ (0 : Int32) (1 : Int32) _ EZERO_OR_ONE FmZERO_OR_ONE FxZERO_OR_ONE (own_f1 (by have b1 := cc.toInt_lt; have b2 := cc.le_toInt; simp only [Int32.lt_iff_toInt_lt, ← Int32.toInt_inj, own_c0, own_c1, own_cM] at hc86 hc92 ⊢; omega))
      · refine own_go (fun _ k => XS.icmpYes X0.here hx rfl (pc0 := 76) (pc' := 105) rfl (hb hby at_76) rfl (Jvm.Free.XT.ii_ne_t hc76) (by decide) (by decide) k) ?_
        show own_Fin p.tables e below G (s₁.setTop (mkF m 105 #[.val (.int p1), .val (.int p2), .val (.int p3), .val (.int ((p1 &&& (7 : Int32)) % (5 : Int32))), .val (.int cc), .unset, .unset] []))
        refine own_go (fun _ k => XS.iloadN X0.here hx rfl (hb hby at_105) rfl k) ?_
        show own_Fin p.tables e below G (s₁.setTop (mkF m 106 #[.val (.int p1), .val (.int p2), .val (.int p3), .val (.int ((p1 &&& (7 : Int32)) % (5 : Int32))), .val (.int cc), .unset, .unset] [(.int ((p1 &&& (7 : Int32)) % (5 : Int32)))]))
        refine own_go (fun _ k => XS.iconst X0.here hx rfl (hb hby at_106)  k) ?_
        show own_Fin p.tables e below G (s₁.setTop (mkF m 107 #[.val (.int p1), .val (.int p2), .val (.int p3), .val (.int ((p1 &&& (7 : Int32)) % (5 : Int32))), .val (.int cc), .unset, .unset] [(.int (3 : Int32)), (.int ((p1 &&& (7 : Int32)) % (5 : Int32)))]))
        by_cases hc107 : ((p1 &&& (7 : Int32)) % (5 : Int32)) = (3 : Int32)
        · refine own_go (fun _ k => XS.icmpNo X0.here hx rfl (hb hby at_107) rfl (Jvm.Free.XT.ii_ne_f hc107) k) ?_
          show own_Fin p.tables e below G (s₁.setTop (mkF m 110 #[.val (.int p1), .val (.int p2), .val (.int p3), .val (.int ((p1 &&& (7 : Int32)) % (5 : Int32))), .val (.int cc), .unset, .unset] []))
          obtain ⟨T7, X7, e7, st7⟩ := getS2 X0 hx hZ hown (host := "") (Or.inl (own_at hw 18 rfl)) Via.refl e0 SZERO_OR_MORE (g := (mkF m 110 #[.val (.int p1), .val (.int p2), .val (.int p3), .val (.int ((p1 &&& (7 : Int32)) % (5 : Int32))), .val (.int cc), .unset, .unset] [])) rfl (hb hby at_110)
          refine own_go st7 ?_
          show own_Fin p.tables e below G (T7.setTop (mkF m 113 #[.val (.int p1), .val (.int p2), .val (.int p3), .val (.int ((p1 &&& (7 : Int32)) % (5 : Int32))), .val (.int cc), .unset, .unset] [(.ref oZERO_OR_MORE)]))
          refine own_go (fun _ k => XS.astore X7.here hx rfl (hb hby at_113) rfl rfl (l' := #[.val (.int p1), .val (.int p2), .val (.int p3), .val (.int ((p1 &&& (7 : Int32)) % (5 : Int32))), .val (.int cc), .val (.ref oZERO_OR_MORE), .unset]) rfl k) ?_
          show own_Fin p.tables e below G (T7.setTop (mkF m 115 #[.val (.int p1), .val (.int p2), .val (.int p3), .val (.int ((p1 &&& (7 : Int32)) % (5 : Int32))), .val (.int cc), .val (.ref oZERO_OR_MORE), .unset] []))
          refine own_go (fun _ k => XS.iload X7.here hx rfl (hb hby at_115) rfl k) ?_
          show own_Fin p.tables e below G (T7.setTop (mkF m 117 #[.val (.int p1), .val (.int p2), .val (.int p3), .val (.int ((p1 &&& (7 : Int32)) % (5 : Int32))), .val (.int cc), .val (.ref oZERO_OR_MORE), .unset] [(.int cc)]))
          by_cases hc117 : cc < 0
          · refine own_go (fun _ k => XS.ifYes X7.here hx rfl (pc0 := 117) (pc' := 124) rfl (hb hby at_117) rfl (Jvm.Free.XT.i0_lt_t hc117) (by decide) (by decide) k) ?_
            show own_Fin p.tables e below G (T7.setTop (mkF m 124 #[.val (.int p1), .val (.int p2), .val (.int p3), .val (.int ((p1 &&& (7 : Int32)) % (5 : Int32))), .val (.int cc), .val (.ref oZERO_OR_MORE), .unset] []))
            refine own_go (fun _ k => XS.iconst X7.here hx rfl (hb hby at_124)  k) ?_
            show own_Fin p.tables e below G (T7.setTop (mkF m 125 #[.val (.int p1), .val (.int p2), .val (.int p3), .val (.int ((p1 &&& (7 : Int32)) % (5 : Int32))), .val (.int cc), .val (.ref oZERO_OR_MORE), .unset] [(.int (0 : Int32))]))
            refine own_go (fun _ k => XS.istore X7.here hx rfl (hb hby at_125) rfl (l' := #[.val (.int p1), .val (.int p2), .val (.int p3), .val (.int ((p1 &&& (7 : Int32)) % (5 : Int32))), .val (.int cc), .val (.ref oZERO_OR_MORE), .val (.int (0 : Int32))]) rfl k) ?_
            show own_Fin p.tables e below G (T7.setTop (mkF m 127 #[.val (.int p1), .val (.int p2), .val (.int p3), .val (.int ((p1 &&& (7 : Int32)) % (5 : Int32))), .val (.int cc), .val (.ref oZERO_OR_MORE), .val (.int (0 : Int32))] []))
            refine own_go (fun _ k => XS.goto X7.here hx rfl (pc0 := 127) (pc' := 148) rfl (hb hby at_127) (by decide) (by decide) k) ?_
            show own_Fin p.tables e below G (T7.setTop (mkF m 148 #[.val (.int p1), .val (.int p2), .val (.int p3), .val (.int ((p1 &&& (7 : Int32)) % (5 : Int32))), .val (.int cc), .val (.ref oZERO_OR_MORE), .val (.int (0 : Int32))] []))
            exact own_k148 _ X7 e7 _ _ _ (0 : Int32) (2147483647 : Int32) _ EZERO_OR_MORE FmZERO_OR_MORE FxZERO_OR_MORE (own_f1 (by have b1 := cc.toInt_lt; have b2 := cc.le_toInt; simp only [Int32.lt_iff_toInt_lt, ← Int32.toInt_inj, own_c0, own_c1, own_cM] at hc117 ⊢; omega))
          · refine own_go (fun _ k => XS.ifNo X7.here hx rfl (hb hby at_117) rfl (Jvm.Free.XT.i0_lt_f hc117) k) ?_
            show own_Fin p.tables e below G (T7.setTop (mkF m 120 #[.val (.int p1), .val (.int p2), .val (.int p3), .val (.int ((p1 &&& (7 : Int32)) % (5 : Int32))), .val (.int cc), .val (.ref oZERO_OR_MORE), .unset] []))
            refine own_go (fun _ k => XS.iconst X7.here hx rfl (hb hby at_120)  k) ?_
            show own_Fin p.tables e below G (T7.setTop (mkF m 121 #[.val (.int p1), .val (.int p2), .val (.int p3), .val (.int ((p1 &&& (7 : Int32)) % (5 : Int32))), .val (.int cc), .val (.ref oZERO_OR_MORE), .unset] [(.int (1 : Int32))]))
            refine own_go (fun _ k => XS.goto X7.here hx rfl (pc0 := 121) (pc' := 125) rfl (hb hby at_121) (by decide) (by decide) k) ?_
            show own_Fin p.tables e below G (T7.setTop (mkF m 125 #[.val (.int p1), .val (.int p2), .val (.int p3), .val (.int ((p1 &&& (7 : Int32)) % (5 : Int32))), .val (.int cc), .val (.ref oZERO_OR_MORE), .unset] [(.int (1 : Int32))]))
            refine own_go (fun _ k => XS.istore X7.here hx rfl (hb hby at_125) rfl (l' := #[.val (.int p1), .val (.int p2), .val (.int p3), .val (.int ((p1 &&& (7 : Int32)) % (5 : Int32))), .val (.int cc), .val (.ref oZERO_OR_MORE), .val (.int (1 : Int32))]) rfl k) ?_
            show own_Fin p.tables e below G (T7.setTop (mkF m 127 #[.val (.int p1), .val (.int p2), .val (.int p3), .val (.int ((p1 &&& (7 : Int32)) % (5 : Int32))), .val (.int cc), .val (.ref oZERO_OR_MORE), .val (.int (1 : Int32))] []))
            refine own_go (fun _ k => XS.goto X7.here hx rfl (pc0 := 127) (pc' := 148) rfl (hb hby at_127) (by decide) (by decide) k) ?_
            show own_Fin p.tables e below G (T7.setTop (mkF m 148 #[.val (.int p1), .val (.int p2), .val (.int p3), .val (.int ((p1 &&& (7 : Int32)) % (5 : Int32))), .val (.int cc), .val (.ref oZERO_OR_MORE), .val (.int (1 : Int32))] []))
            exact own_k148 _ X7 e7 _ _ _ (0 : Int32) (2147483647 : Int32) _ EZERO_OR_MORE FmZERO_OR_MORE FxZERO_OR_MORE (own_t1 (by have b1 := cc.toInt_lt; have b2 := cc.le_toInt; simp only [Int32.lt_iff_toInt_lt, ← Int32.toInt_inj, own_c0, own_c1, own_cM] at hc117 ⊢; omega) (by have b1 := cc.toInt_lt; have b2 := cc.le_toInt; simp only [Int32.lt_iff_toInt_lt, ← Int32.toInt_inj, own_c0, own_c1, own_cM] at hc117 ⊢; omega))
        · refine own_go (fun _ k => XS.icmpYes X0.here hx rfl (pc0 := 107) (pc' := 130) rfl (hb hby at_107) rfl (Jvm.Free.XT.ii_ne_t hc107) (by decide) (by decide) k) ?_
          show own_Fin p.tables e below G (s₁.setTop (mkF m 130 #[.val (.int p1), .val (.int p2), .val (.int p3), .val (.int ((p1 &&& (7 : Int32)) % (5 : Int32))), .val (.int cc), .unset, .unset] []))
          obtain ⟨T8, X8, e8, st8⟩ := getS2 X0 hx hZ hown (host := "") (Or.inl (own_at hw 14 rfl)) Via.refl e0 SONE_OR_MORE (g := (mkF m 130 #[.val (.int p1), .val (.int p2), .val (.int p3), .val (.int ((p1 &&& (7 : Int32)) % (5 : Int32))), .val (.int cc), .unset, .unset] [])) rfl (hb hby at_130)
          refine own_go st8 ?_
          show own_Fin p.tables e below G (T8.setTop (mkF m 133 #[.val (.int p1), .val (.int p2), .val (.int p3), .val (.int ((p1 &&& (7 : Int32)) % (5 : Int32))), .val (.int cc), .unset, .unset] [(.ref oONE_OR_MORE)]))
          refine own_go (fun _ k => XS.astore X8.here hx rfl (hb hby at_133) rfl rfl (l' := #[.val (.int p1), .val (.int p2), .val (.int p3), .val (.int ((p1 &&& (7 : Int32)) % (5 : Int32))), .val (.int cc), .val (.ref oONE_OR_MORE), .unset]) rfl k) ?_
          show own_Fin p.tables e below G (T8.setTop (mkF m 135 #[.val (.int p1), .val (.int p2), .val (.int p3), .val (.int ((p1 &&& (7 : Int32)) % (5 : Int32))), .val (.int cc), .val (.ref oONE_OR_MORE), .unset] []))
          refine own_go (fun _ k => XS.iload X8.here hx rfl (hb hby at_135) rfl k) ?_
          show own_Fin p.tables e below G (T8.setTop (mkF m 137 #[.val (.int p1), .val (.int p2), .val (.int p3), .val (.int ((p1 &&& (7 : Int32)) % (5 : Int32))), .val (.int cc), .val (.ref oONE_OR_MORE), .unset] [(.int cc)]))
          refine own_go (fun _ k => XS.iconst X8.here hx rfl (hb hby at_137)  k) ?_
          show own_Fin p.tables e below G (T8.setTop (mkF m 138 #[.val (.int p1), .val (.int p2), .val (.int p3), .val (.int ((p1 &&& (7 : Int32)) % (5 : Int32))), .val (.int cc), .val (.ref oONE_OR_MORE), .unset] [(.int (1 : Int32)), (.int cc)]))
          by_cases hc138 : cc < (1 : Int32)
          · refine own_go (fun _ k => XS.icmpYes X8.here hx rfl (pc0 := 138) (pc' := 145) rfl (hb hby at_138) rfl (Jvm.Free.XT.ii_lt_t hc138) (by decide) (by decide) k) ?_
            show own_Fin p.tables e below G (T8.setTop (mkF m 145 #[.val (.int p1), .val (.int p2), .val (.int p3), .val (.int ((p1 &&& (7 : Int32)) % (5 : Int32))), .val (.int cc), .val (.ref oONE_OR_MORE), .unset] []))
            refine own_go (fun _ k => XS.iconst X8.here hx rfl (hb hby at_145)  k) ?_
            show own_Fin p.tables e below G (T8.setTop (mkF m 146 #[.val (.int p1), .val (.int p2), .val (.int p3), .val (.int ((p1 &&& (7 : Int32)) % (5 : Int32))), .val (.int cc), .val (.ref oONE_OR_MORE), .unset] [(.int (0 : Int32))]))
            refine own_go (fun _ k => XS.istore X8.here hx rfl (hb hby at_146) rfl (l' := #[.val (.int p1), .val (.int p2), .val (.int p3), .val (.int ((p1 &&& (7 : Int32)) % (5 : Int32))), .val (.int cc), .val (.ref oONE_OR_MORE), .val (.int (0 : Int32))]) rfl k) ?_
            show own_Fin p.tables e below G (T8.setTop (mkF m 148 #[.val (.int p1), .val (.int p2), .val (.int p3), .val (.int ((p1 &&& (7 : Int32)) % (5 : Int32))), .val (.int cc), .val (.ref oONE_OR_MORE), .val (.int (0 : Int32))] []))
            exact own_k148 _ X8 e8 _ _ _ (1 : Int32) (2147483647 : Int32) _ EONE_OR_MORE FmONE_OR_MORE FxONE_OR_MORE (own_f1 (by have b1 := cc.toInt_lt; have b2 := cc.le_toInt; simp only [Int32.lt_iff_toInt_lt, ← Int32.toInt_inj, own_c0, own_c1, own_cM] at hc138 ⊢; omega))
          · refine own_go (fun _ k => XS.icmpNo X8.here hx rfl (hb hby at_138) rfl (Jvm.Free.XT.ii_lt_f hc138) k) ?_
            show own_Fin p.tables e below G (T8.setTop (mkF m 141 #[.val (.int p1), .val (.int p2), .val (.int p3), .val (.int ((p1 &&& (7 : Int32)) % (5 : Int32))), .val (.int cc), .val (.ref oONE_OR_MORE), .unset] []))
            refine own_go (fun _ k => XS.iconst X8.here hx rfl (hb hby at_141)  k) ?_
            show own_Fin p.tables e below G (T8.setTop (mkF m 142 #[.val (.int p1), .val (.int p2), .val (.int p3), .val (.int ((p1 &&& (7 : Int32)) % (5 : Int32))), .val (.int cc), .val (.ref oONE_OR_MORE), .unset] [(.int (1 : Int32))]))
            refine own_go (fun _ k => XS.goto X8.here hx rfl (pc0 := 142) (pc' := 146) rfl (hb hby at_142) (by decide) (by decide) k) ?_
            show own_Fin p.tables e below G (T8.setTop (mkF m 146 #[.val (.int p1), .val (.int p2), .val (.int p3), .val (.int ((p1 &&& (7 : Int32)) % (5 : Int32))), .val (.int cc), .val (.ref oONE_OR_MORE), .unset] [(.int (1 : Int32))]))
            refine own_go (fun _ k => XS.istore X8.here hx rfl (hb hby at_146) rfl (l' := #[.val (.int p1), .val (.int p2), .val (.int p3), .val (.int ((p1 &&& (7 : Int32)) % (5 : Int32))), .val (.int cc), .val (.ref oONE_OR_MORE), .val (.int (1 : Int32))]) rfl k) ?_
            show own_Fin p.tables e below G (T8.setTop (mkF m 148 #[.val (.int p1), .val (.int p2), .val (.int p3), .val (.int ((p1 &&& (7 : Int32)) % (5 : Int32))), .val (.int cc), .val (.ref oONE_OR_MORE), .val (.int (1 : Int32))] []))
            exact own_k148 _ X8 e8 _ _ _ (1 : Int32) (2147483647 : Int32) _ EONE_OR_MORE FmONE_OR_MORE FxONE_OR_MORE (own_t1 (by have b1 := cc.toInt_lt; have b2 := cc.le_toInt; simp only [Int32.lt_iff_toInt_lt, ← Int32.toInt_inj, own_c0, own_c1, own_cM] at hc138 ⊢; omega) (by have b1 := cc.toInt_lt; have b2 := cc.le_toInt; simp only [Int32.lt_iff_toInt_lt, ← Int32.toInt_inj, own_c0, own_c1, own_cM] at hc138 ⊢; omega))
set_option maxRecDepth 65536 in
set_option maxHeartbeats 40000000 in
theorem comes_1 {Post : Tables → Env → Array Value → State → Outcome → State → Prop} (hpost : ∀ tb e args s v u, (limb_1_1.after args s (.returned v) u = true ∧ limb_1_2.after args s (.returned v) u = true ∧ True) → FrameEnd s (.returned v) u (Jvm.fieldLocs frame_1_writes args s ++ Jvm.arrayLocs frame_1_arrays args s ++ Jvm.staticLocs frame_1_statics s) 0 0 → Post tb e args s (.returned v) u) :
    ArmFor flags0 classFile x code maxLocals ret World_1 tables_1 room_1 Calls_1 rest_1 Pre_1 Post := by
  intro l hfl _ _ p e ha hc hk s m args below hf hA hF happ hP
  obtain ⟨hcalls, hrest, hpre⟩ := hP
  obtain ⟨-, -, -, hnamed, -, -, -, hat⟩ := (Spec.applies_iff hf).mp happ
  obtain ⟨hg, hn⟩ := and_e (Cond.before_iff.mp (show (Jvm.Cond.and given_1 narrow_1).before args s = true from hpre))
  obtain ⟨g9, g10⟩ := and_e hg
  obtain ⟨g11, g12⟩ := and_e g10
  obtain ⟨g13, g14⟩ := and_e g12
  obtain ⟨g15, g16⟩ := and_e hn
  obtain ⟨g17, g18⟩ := and_e g16
  obtain ⟨g19, g20⟩ := and_e g18
  obtain ⟨g21, g22⟩ := and_e g20
  obtain ⟨g23, g24⟩ := and_e g22
  obtain ⟨g25, g26⟩ := and_e g24
  obtain ⟨g27, g28⟩ := and_e g26
  obtain ⟨g29, g30⟩ := and_e g28
  obtain ⟨g31, g32⟩ := and_e g30
  obtain ⟨g33, g34⟩ := and_e g32
  obtain ⟨g35, g36⟩ := and_e g34
  obtain ⟨g37, g38⟩ := and_e g36
  obtain ⟨g39, g40⟩ := and_e g38
  obtain ⟨g41, g42⟩ := and_e g40
  obtain ⟨w0, w1, w2, rfl⟩ : ∃ w0 w1 w2 : Value, args = #[w0, w1, w2] := by
    have hs : args.size = 3 := by simpa [Cond.value, given_1] using g9
    obtain ⟨L⟩ := args
    match L, hs with
    | [w0, w1, w2], _ => exact ⟨w0, w1, w2, rfl⟩
  have hw := fun d (hd : d ∈ tables_1) => atoms_spec (ws := Jvm.Cond.code x code maxLocals ret :: tables_1) hat d (List.mem_cons_of_mem _ hd)
  have hfit : Fit s := fun {y c} hc i hi => by
    obtain ⟨ha, rfl⟩ := Array.getElem?_eq_some_iff.mp hc
    have q := List.all_eq_true.mp ((Array.all_eq_true_iff_forall_mem.mp hF) _ (Array.getElem_mem ha)) i (List.mem_range.mpr hi)
    simpa [Array.getElem?_eq_getElem hi] using q
  obtain ⟨i0, ei0⟩ := is_v g11
  obtain rfl : w0 = (.int i0) := Option.some.inj ei0
  obtain ⟨i1, ei1⟩ := is_v g13
  obtain rfl : w1 = (.int i1) := Option.some.inj ei1
  obtain ⟨i2, ei2⟩ := is_v g14
  obtain rfl : w2 = (.int i2) := Option.some.inj ei2
  obtain ⟨o_Occurrence_EMPTY, v_Occurrence_EMPTY⟩ := exa_v g15
  have E_Occurrence_EMPTY := Exa.start v_Occurrence_EMPTY g15
  have S_Occurrence_EMPTY := Sta.start v_Occurrence_EMPTY (Or.inr ⟨(own_at hw 1 rfl), (own_at hw 2 rfl)⟩)
  obtain ⟨o_Occurrence_EXACTLY_ONE, v_Occurrence_EXACTLY_ONE⟩ := exa_v g21
  have E_Occurrence_EXACTLY_ONE := Exa.start v_Occurrence_EXACTLY_ONE g21
  have S_Occurrence_EXACTLY_ONE := Sta.start v_Occurrence_EXACTLY_ONE (Or.inr ⟨(own_at hw 1 rfl), (own_at hw 13 rfl)⟩)
  obtain ⟨o_Occurrence_ONE_OR_MORE, v_Occurrence_ONE_OR_MORE⟩ := exa_v g27
  have E_Occurrence_ONE_OR_MORE := Exa.start v_Occurrence_ONE_OR_MORE g27
  have S_Occurrence_ONE_OR_MORE := Sta.start v_Occurrence_ONE_OR_MORE (Or.inr ⟨(own_at hw 1 rfl), (own_at hw 15 rfl)⟩)
  obtain ⟨o_Occurrence_ZERO_OR_ONE, v_Occurrence_ZERO_OR_ONE⟩ := exa_v g33
  have E_Occurrence_ZERO_OR_ONE := Exa.start v_Occurrence_ZERO_OR_ONE g33
  have S_Occurrence_ZERO_OR_ONE := Sta.start v_Occurrence_ZERO_OR_ONE (Or.inr ⟨(own_at hw 1 rfl), (own_at hw 17 rfl)⟩)
  obtain ⟨o_Occurrence_ZERO_OR_MORE, v_Occurrence_ZERO_OR_MORE⟩ := exa_v g37
  have E_Occurrence_ZERO_OR_MORE := Exa.start v_Occurrence_ZERO_OR_MORE g37
  have S_Occurrence_ZERO_OR_MORE := Sta.start v_Occurrence_ZERO_OR_MORE (Or.inr ⟨(own_at hw 1 rfl), (own_at hw 19 rfl)⟩)
  have F_Occurrence_EMPTY_min := Fld.start ((fld_at v_Occurrence_EMPTY).symm.trans (own_eqI g17))
  have F_Occurrence_EMPTY_max := Fld.start ((fld_at v_Occurrence_EMPTY).symm.trans (own_eqI g19))
  have F_Occurrence_EXACTLY_ONE_min := Fld.start ((fld_at v_Occurrence_EXACTLY_ONE).symm.trans (own_eqI g23))
  have F_Occurrence_EXACTLY_ONE_max := Fld.start ((fld_at v_Occurrence_EXACTLY_ONE).symm.trans (own_eqI g25))
  have F_Occurrence_ONE_OR_MORE_min := Fld.start ((fld_at v_Occurrence_ONE_OR_MORE).symm.trans (own_eqI g29))
  have F_Occurrence_ONE_OR_MORE_max := Fld.start ((fld_at v_Occurrence_ONE_OR_MORE).symm.trans (own_eqI g31))
  have F_Occurrence_ZERO_OR_ONE_min := Fld.start ((fld_at v_Occurrence_ZERO_OR_ONE).symm.trans (own_eqI g35))
  have F_Occurrence_ZERO_OR_MORE_min := Fld.start ((fld_at v_Occurrence_ZERO_OR_MORE).symm.trans (own_eqI g39))
  have F_Occurrence_ZERO_OR_MORE_max := Fld.start ((fld_at v_Occurrence_ZERO_OR_MORE).symm.trans (own_eqI g41))
  have F_Occurrence_ZERO_OR_ONE_max := Fld.start ((fld_at v_Occurrence_ZERO_OR_ONE).symm.trans (own_eqI g42))
  obtain ⟨n, o, h1, h2, h3, _, L, rfl, ⟨rfl, N⟩, hq⟩ := own_law l s _ hw tables_1 i0 i1 i2 o_Occurrence_EMPTY o_Occurrence_EXACTLY_ONE o_Occurrence_ZERO_OR_ONE o_Occurrence_ZERO_OR_MORE o_Occurrence_ONE_OR_MORE s.heap s.heap.size (Old.start s) S_Occurrence_EMPTY E_Occurrence_EMPTY F_Occurrence_EMPTY_min F_Occurrence_EMPTY_max S_Occurrence_EXACTLY_ONE E_Occurrence_EXACTLY_ONE F_Occurrence_EXACTLY_ONE_min F_Occurrence_EXACTLY_ONE_max S_Occurrence_ZERO_OR_ONE E_Occurrence_ZERO_OR_ONE F_Occurrence_ZERO_OR_ONE_min F_Occurrence_ZERO_OR_ONE_max S_Occurrence_ZERO_OR_MORE E_Occurrence_ZERO_OR_MORE F_Occurrence_ZERO_OR_MORE_min F_Occurrence_ZERO_OR_MORE_max S_Occurrence_ONE_OR_MORE E_Occurrence_ONE_OR_MORE F_Occurrence_ONE_OR_MORE_min F_Occurrence_ONE_OR_MORE_max p e ha hc hk s m _ below hf ((Spec.applies_iff_loose hf).mp happ).1 ⟨rfl, State.Warmed39.refl s, rfl⟩ trivial
  refine ⟨n, _, h1, h2, h3, hpost _ _ _ _ _ _ ⟨Cond.after_iff.mpr rfl, Cond.after_iff.mpr (eq_i res_at (Term.int_eval (1)) rfl), trivial⟩ ⟨hq.1, hq.2.1, (hq.2.2.sift fun y hy => Or.inr (N y hy)).mono (by decide) (by decide)⟩⟩
theorem main_1_1 : Claimed_1_1 := comes_1 fun _ _ _ _ _ _ h hF => ⟨h.1, hF⟩
theorem main_1_2 : Claimed_1_2 := comes_1 fun _ _ _ _ _ _ h hF => ⟨h.2.1, hF⟩
end Jvm.Pilot.@@N@@
namespace Jvm.Pilot.@@N@@
open Jvm Jvm.ClassFile Sem Op Lib Jvm.Free Jvm.Stand Jvm.Pilot.@@N@@.Jvm.D
/-! MADE BY PROGRAM (witnessworld.py) out of the Statement's table words and the real class files: 12 classes; the members and pool entries that the words name. The judged class is class 1, her method 1. -/
namespace start1
open Jvm.ClassFile
def u (s : String) : CpInfo := .utf8 (stringToUtf16 s)
/-- a pool by its gaps: so many unusable entries, then the entry; so many at the end -/
def gap : Nat → List CpInfo → List CpInfo
  | 0, r => r
  | n + 1, r => .unusable :: gap n r
def poolList (es : List (Nat × CpInfo)) (last : Nat) : List CpInfo := es.foldr (fun e r => gap e.1 (e.2 :: r)) (gap last [])
def pool (es : List (Nat × CpInfo)) (last : Nat) : Array CpInfo := ⟨poolList es last⟩
def fileOf (pool : Array CpInfo) (this : Nat) (attrs : Array Attribute := #[]) (ms : Array MethodInfo := #[]) (fl : Nat := 33) (sup : Nat := 0) (ifs : Array Nat := #[]) (fds : Array FieldInfo := #[]) : ClassFile where
  minorVersion := 0
  majorVersion := 65
  constantPool := pool
  accessFlags := fl
  thisClass := this
  superClass := sup
  interfaces := ifs
  fields := fds
  methods := ms
  attributes := attrs
def plain (name : String) (sup : Option ClassId) : Class where
  name := name
  kind := .ordinary
  loader := none
  accessFlags := 33
  super := sup
  interfaces := #[]
  cf := none
  fields := #[]
  methods := #[]
  instanceTypes := #[]
  staticTypes := #[]
  resolved := #[]
  callSites := []
  init := .initialized
  statics := none
  mirror := none

def pool0 : Array CpInfo := pool [(5, u "<init>"), (0, u "()V"), (1, .class_ 10), (1, u "java/lang/Object")] 113

def k0m0 : Method := { name := "<init>", desc := "()V", sig := { parameters := [], returnType := none }, accessFlags := 1, code := none }
/-- java/lang/Object -/
def k0 : Class := { plain "java/lang/Object" none with
  accessFlags := 33
  interfaces := #[]
  cf := some (fileOf pool0 8 #[] #[{ accessFlags := 1, nameIndex := 5, descriptorIndex := 6, attributes := #[] }] 33 0 #[] #[])
  fields := #[]
  methods := #[k0m0]
  instanceTypes := #[]
  staticTypes := #[]
  resolved := Array.replicate 124 none
  statics := none }

def pool1 : Array CpInfo := pool [(2, .class_ 4), (1, u "java/lang/Object"), (0, u "<init>"), (0, u "()V"), (0, .fieldref 8 9), (0, .class_ 10), (0, .nameAndType 11 12), (0, u "com/example/typelattice/typelattice/Occurrence"), (0, u "EMPTY"), (0, u "Lcom/example/typelattice/typelattice/Occurrence;"), (0, .fieldref 8 14), (0, .nameAndType 15 12), (0, u "EXACTLY_ONE"), (0, .fieldref 8 17), (0, .nameAndType 18 12), (0, u "ZERO_OR_ONE"), (0, .fieldref 8 20), (0, .nameAndType 21 12), (0, u "ZERO_OR_MORE"), (0, .fieldref 8 23), (0, .nameAndType 24 12), (0, u "ONE_OR_MORE"), (0, .methodref 8 26), (0, .nameAndType 27 28), (0, u "allows"), (0, u "(I)Z"), (0, .class_ 30), (0, u "com/example/typelattice/typelattice/OccurrenceAllowsPinLaw"), (2, u "law"), (0, u "(III)Z")] 3

def k1m0 : Method := { name := "<init>", desc := "()V", sig := { parameters := [], returnType := none }, accessFlags := 1, code := none }
def k1c1 : Code := { maxStack := 2, maxLocals := 7, code := code, exceptionTable := #[], attributes := #[] }
def k1m1 : Method := { name := "law", desc := "(III)Z", sig := { parameters := [.int, .int, .int], returnType := some .boolean }, accessFlags := 9, code := some k1c1 }
/-- com/example/typelattice/typelattice/OccurrenceAllowsPinLaw -/
def k1 : Class := { plain "com/example/typelattice/typelattice/OccurrenceAllowsPinLaw" (some 0) with
  accessFlags := 49
  interfaces := #[]
  cf := some (fileOf pool1 29 #[] #[{ accessFlags := 1, nameIndex := 5, descriptorIndex := 6, attributes := #[] }, { accessFlags := 9, nameIndex := 33, descriptorIndex := 34, attributes := #[] }] 49 2 #[] #[])
  fields := #[]
  methods := #[k1m0, k1m1]
  instanceTypes := #[]
  staticTypes := #[]
  resolved := Array.replicate 38 none
  statics := none }

def pool2 : Array CpInfo := pool [(1, .class_ 2), (0, u "java/lang/constant/Constable"), (0, .class_ 4), (0, u "java/lang/Object")] 6

/-- java/lang/constant/Constable -/
def k2 : Class := { plain "java/lang/constant/Constable" (some 0) with
  accessFlags := 1537
  interfaces := #[]
  cf := some (fileOf pool2 1 #[] #[] 1537 3 #[] #[])
  fields := #[]
  methods := #[]
  instanceTypes := #[]
  staticTypes := #[]
  resolved := Array.replicate 11 none
  statics := none }

def pool3 : Array CpInfo := pool [(1, .class_ 2), (0, u "java/lang/Comparable"), (0, .class_ 4), (0, u "java/lang/Object")] 7

/-- java/lang/Comparable -/
def k3 : Class := { plain "java/lang/Comparable" (some 0) with
  accessFlags := 1537
  interfaces := #[]
  cf := some (fileOf pool3 1 #[] #[] 1537 3 #[] #[])
  fields := #[]
  methods := #[]
  instanceTypes := #[]
  staticTypes := #[]
  resolved := Array.replicate 12 none
  statics := none }

def pool4 : Array CpInfo := pool [(1, .class_ 2), (0, u "java/io/Serializable"), (0, .class_ 4), (0, u "java/lang/Object")] 2

/-- java/io/Serializable -/
def k4 : Class := { plain "java/io/Serializable" (some 0) with
  accessFlags := 1537
  interfaces := #[]
  cf := some (fileOf pool4 1 #[] #[] 1537 3 #[] #[])
  fields := #[]
  methods := #[]
  instanceTypes := #[]
  staticTypes := #[]
  resolved := Array.replicate 7 none
  statics := none }

def pool5 : Array CpInfo := pool [(2, .class_ 4), (1, u "java/lang/Enum"), (0, u "name"), (0, u "Ljava/lang/String;"), (2, u "ordinal"), (0, u "I"), (1, .class_ 14), (1, u "java/lang/Object"), (4, u "hash"), (86, .class_ 108), (1, u "java/lang/Enum$EnumDesc"), (2, .class_ 112), (0, u "java/lang/constant/Constable"), (0, .class_ 114), (0, u "java/lang/Comparable"), (0, .class_ 116), (0, u "java/io/Serializable")] 87

/-- java/lang/Enum -/
def k5 : Class := { plain "java/lang/Enum" (some 0) with
  accessFlags := 1057
  interfaces := #[2, 3, 4]
  cf := some (fileOf pool5 2 #[.nestMembers #[106]] #[] 1057 12 #[111, 113, 115] #[{ accessFlags := 18, nameIndex := 5, descriptorIndex := 6, attributes := #[] }, { accessFlags := 18, nameIndex := 9, descriptorIndex := 10, attributes := #[] }, { accessFlags := 2, nameIndex := 19, descriptorIndex := 10, attributes := #[] }])
  fields := #[{ name := "name", type := (.object "java/lang/String"), accessFlags := 18, slot := 0, constantValue := 0 }, { name := "ordinal", type := .int, accessFlags := 18, slot := 1, constantValue := 0 }, { name := "hash", type := .int, accessFlags := 2, slot := 2, constantValue := 0 }]
  methods := #[]
  instanceTypes := #[(.object "java/lang/String"), .int, .int]
  staticTypes := #[]
  resolved := Array.replicate 204 none
  statics := none }

def pool6 : Array CpInfo := pool [(1, .class_ 2), (0, u "com/example/typelattice/typelattice/Occurrence"), (2, u "EMPTY"), (0, u "Lcom/example/typelattice/typelattice/Occurrence;"), (2, u "EXACTLY_ONE"), (2, u "ZERO_OR_ONE"), (2, u "ZERO_OR_MORE"), (2, u "ONE_OR_MORE"), (2, u "$VALUES"), (0, u "[Lcom/example/typelattice/typelattice/Occurrence;"), (6, .class_ 31), (1, u "java/lang/Enum"), (8, u "indicator"), (0, u "Ljava/lang/String;"), (0, .fieldref 1 43), (0, .nameAndType 44 45), (0, u "min"), (0, u "I"), (0, .fieldref 1 47), (0, .nameAndType 48 45), (0, u "max"), (31, u "allows"), (0, u "(I)Z")] 8

def k6c0 : Code := { maxStack := 2, maxLocals := 2, code := prog_99_method_5_code, exceptionTable := #[], attributes := #[] }
def k6m0 : Method := { name := "allows", desc := "(I)Z", sig := { parameters := [.int], returnType := some .boolean }, accessFlags := 0, code := some k6c0 }
/-- com/example/typelattice/typelattice/Occurrence -/
def k6 : Class := { plain "com/example/typelattice/typelattice/Occurrence" (some 5) with
  accessFlags := 16432
  interfaces := #[]
  cf := some (fileOf pool6 1 #[] #[{ accessFlags := 0, nameIndex := 80, descriptorIndex := 81, attributes := #[] }] 16432 29 #[] #[{ accessFlags := 16409, nameIndex := 5, descriptorIndex := 6, attributes := #[] }, { accessFlags := 16409, nameIndex := 9, descriptorIndex := 6, attributes := #[] }, { accessFlags := 16409, nameIndex := 12, descriptorIndex := 6, attributes := #[] }, { accessFlags := 16409, nameIndex := 15, descriptorIndex := 6, attributes := #[] }, { accessFlags := 16409, nameIndex := 18, descriptorIndex := 6, attributes := #[] }, { accessFlags := 18, nameIndex := 40, descriptorIndex := 41, attributes := #[] }, { accessFlags := 18, nameIndex := 44, descriptorIndex := 45, attributes := #[] }, { accessFlags := 18, nameIndex := 48, descriptorIndex := 45, attributes := #[] }, { accessFlags := 4122, nameIndex := 21, descriptorIndex := 22, attributes := #[] }])
  fields := #[{ name := "EMPTY", type := (.object "com/example/typelattice/typelattice/Occurrence"), accessFlags := 16409, slot := 0, constantValue := 0 }, { name := "EXACTLY_ONE", type := (.object "com/example/typelattice/typelattice/Occurrence"), accessFlags := 16409, slot := 1, constantValue := 0 }, { name := "ZERO_OR_ONE", type := (.object "com/example/typelattice/typelattice/Occurrence"), accessFlags := 16409, slot := 2, constantValue := 0 }, { name := "ZERO_OR_MORE", type := (.object "com/example/typelattice/typelattice/Occurrence"), accessFlags := 16409, slot := 3, constantValue := 0 }, { name := "ONE_OR_MORE", type := (.object "com/example/typelattice/typelattice/Occurrence"), accessFlags := 16409, slot := 4, constantValue := 0 }, { name := "indicator", type := (.object "java/lang/String"), accessFlags := 18, slot := 3, constantValue := 0 }, { name := "min", type := .int, accessFlags := 18, slot := 4, constantValue := 0 }, { name := "max", type := .int, accessFlags := 18, slot := 5, constantValue := 0 }, { name := "$VALUES", type := (.array (.object "com/example/typelattice/typelattice/Occurrence")), accessFlags := 4122, slot := 5, constantValue := 0 }]
  methods := #[k6m0]
  instanceTypes := #[(.object "java/lang/String"), .int, .int, (.object "java/lang/String"), .int, .int]
  staticTypes := #[(.object "com/example/typelattice/typelattice/Occurrence"), (.object "com/example/typelattice/typelattice/Occurrence"), (.object "com/example/typelattice/typelattice/Occurrence"), (.object "com/example/typelattice/typelattice/Occurrence"), (.object "com/example/typelattice/typelattice/Occurrence"), (.array (.object "com/example/typelattice/typelattice/Occurrence"))]
  resolved := Array.replicate 90 none
  statics := some 0 }

def pool7 : Array CpInfo := pool [(1, u "java/lang/Cloneable"), (0, .class_ 1), (0, u "java/lang/Object"), (0, .class_ 3)] 3

/-- java/lang/Cloneable -/
def k7 : Class := { plain "java/lang/Cloneable" (some 0) with
  accessFlags := 1537
  interfaces := #[]
  cf := some (fileOf pool7 2 #[] #[] 1537 4 #[] #[])
  fields := #[]
  methods := #[]
  instanceTypes := #[]
  staticTypes := #[]
  resolved := Array.replicate 8 none
  statics := none }

/-- the primitive byte -/
def k8 : Class := { plain "byte" none with kind := .primitive 'B', accessFlags := 0x411 }
/-- [B -/
def k9 : Class := { plain "[B" (some 0) with kind := .array 8 .byte, interfaces := #[7, 4], accessFlags := 1041 }

/-- the primitive int -/
def k10 : Class := { plain "int" none with kind := .primitive 'I', accessFlags := 0x411 }
/-- [I -/
def k11 : Class := { plain "[I" (some 0) with kind := .array 10 .int, interfaces := #[7, 4], accessFlags := 1041 }

def heap : Heap := #[{ cls := 6, slots := #[.ref 1, .ref 2, .ref 3, .ref 4, .ref 5, .null], vm := .statics 6 },
  { cls := 6, slots := #[.null, .int 0, .int 0, .null, .int 0, .int 0], vm := .none },
  { cls := 6, slots := #[.null, .int 1, .int 0, .null, .int 1, .int 1], vm := .none },
  { cls := 6, slots := #[.null, .int 2, .int 0, .null, .int 0, .int 1], vm := .none },
  { cls := 6, slots := #[.null, .int 3, .int 0, .null, .int 0, .int 2147483647], vm := .none },
  { cls := 6, slots := #[.null, .int 4, .int 0, .null, .int 1, .int 2147483647], vm := .none }]
def classes : Array Class := #[k0, k1, k2, k3, k4, k5, k6, k7, k8, k9, k10, k11]
def interned : List (Array UInt16 × Addr) := []
def slotsUsed : Nat := 36
def theMethod : MethodId := ⟨1, 1⟩
def args0 : Array Value := #[.int 0, .int 0, .int 0]
def aboutOver (below : List Frame) : State where
  vm := { classes := classes, interned := interned.toArray }
  heap := heap
  slotsUsed := slotsUsed
  threads := #[{ frames := .invoking theMethod args0 :: below }]
def below0 : List Frame := [.native { method := ⟨0, 0⟩, args := #[] }]
def about1 : State := aboutOver below0
def p0 : Program := .bare "" "" ""
def e0 : Env := launch0.env 0 0 0
theorem w_frames : about1.frames = Frame.invoking theMethod args0 :: below0 := rfl
set_option maxRecDepth 65536 in
theorem w_args : argsFit about1.vm theMethod args0 = true := by decide +kernel
set_option maxRecDepth 65536 in
theorem w_heap : heapFits about1 = true := by decide +kernel
set_option maxRecDepth 65536 in
theorem w_runnable : about1.curStatus? = some .runnable := by decide +kernel
set_option maxRecDepth 65536 in
theorem w_alone : about1.alone = true := by decide +kernel
set_option maxRecDepth 65536 in
theorem w_named : about1.methodNamed? x = some theMethod := by decide +kernel
set_option maxRecDepth 65536 in
theorem w_hears : about1.hears theMethod below0 = true := by decide +kernel
set_option maxRecDepth 65536 in
theorem w_ripe : about1.ripe theMethod args0 below0 = true := by decide +kernel
theorem w_running : about1.status = .running := rfl
set_option maxRecDepth 65536 in
theorem w_room : about1.hasRoom e0.platform room_1 = true :=
  launch0.hasRoom_least _ room_1 (by decide +kernel) (by decide +kernel) (by decide +kernel) (by decide +kernel) (by decide +kernel) (by decide +kernel)
theorem allAtoms_all (ts : List Jvm.Cond) (a : Array Jvm.Value) (st : Jvm.State) : (allAtoms ts).before a st = ts.all (fun c => c.before a st) := by
  induction ts with
  | nil => rfl
  | cons c t ih =>
    show (Jvm.Cond.and c (allAtoms t)).before a st = _
    rw [Jvm.Cond.before_and, ih, List.all_cons]
def words1 : List Jvm.Cond := Jvm.Cond.code x code maxLocals ret :: tables_1
/-- a 'code' word, met by the world's own term for the bytes: nothing is compared byte by byte -/
theorem code_word {y : MethodName} {bytes : ByteArray} {mx : Nat} {rt : Option FieldType} {a : Array Value} {s : State} {m : MethodId} {meth : Method} {c : Code} (h1 : s.methodNamed? y = some m) (h2 : s.vm.method? m = some meth) (h3 : meth.code = some c) (h4 : c.code = bytes)
    (h5 : (c.maxLocals == mx && c.exceptionTable.isEmpty && decide (c.maxStack ≤ mostOperands) && decide (meth.sig.returnType = rt) && !meth.locks && decide (parseMethodDescriptor y.desc = some meth.sig)) = true) : (Jvm.Cond.code y bytes mx rt).before a s = true := by
  simp only [Bool.and_eq_true, beq_iff_eq, Bool.not_eq_true', decide_eq_true_eq] at h5
  obtain ⟨⟨⟨⟨⟨g1, g2⟩, g3⟩, g4⟩, g5⟩, g6⟩ := h5
  simp [Cond.before, Cond.holds, Cond.value, h1, h2, h3, h4, g1, g2, g3, g4, g5, g6]
def isCode : Jvm.Cond → Bool
  | .code _ _ _ _ => true
  | _ => false
theorem all_split {L : List Jvm.Cond} {P : Jvm.Cond → Bool} (h1 : L.all (fun c => isCode c || P c) = true) (h2 : ∀ c ∈ L.filter isCode, P c = true) : L.all P = true := by
  refine List.all_eq_true.mpr fun c hc => ?_
  have h := List.all_eq_true.mp h1 c hc
  rcases Bool.eq_false_or_eq_true (isCode c) with hi | hi
  · exact h2 c (List.mem_filter.mpr ⟨hc, hi⟩)
  · simpa [hi] using h
set_option maxRecDepth 65536 in
theorem w_c0 : (Jvm.Cond.code x code maxLocals ret).before args0 about1 = true := code_word (m := ⟨1, 1⟩) (meth := k1m1) (c := k1c1) (by decide +kernel) rfl rfl rfl (by decide +kernel)
set_option maxRecDepth 65536 in
theorem w_c1 : (Jvm.Cond.code ({ cls := "com/example/typelattice/typelattice/Occurrence", name := "allows", desc := "(I)Z" } : Jvm.MethodName) prog_99_method_5_code (2 : Nat) (Option.some Jvm.ClassFile.FieldType.boolean)).before args0 about1 = true := code_word (m := ⟨6, 0⟩) (meth := k6m0) (c := k6c0) (by decide +kernel) rfl rfl rfl (by decide +kernel)
def codes1 : List Jvm.Cond := [Jvm.Cond.code x code maxLocals ret, Jvm.Cond.code ({ cls := "com/example/typelattice/typelattice/Occurrence", name := "allows", desc := "(I)Z" } : Jvm.MethodName) prog_99_method_5_code (2 : Nat) (Option.some Jvm.ClassFile.FieldType.boolean)]
set_option maxRecDepth 65536 in
theorem codes_eq : words1.filter isCode = codes1 := rfl
theorem w_codes : ∀ c ∈ words1.filter isCode, c.before args0 about1 = true := by
  rw [codes_eq]
  intro c hc
  simp only [codes1, List.mem_cons, List.not_mem_nil, or_false] at hc
  rcases hc with rfl | rfl
  · exact w_c0
  · exact w_c1
set_option maxRecDepth 65536 in
theorem w_t1 : words1.all (fun c => isCode c || c.before args0 about1) = true := by decide +kernel
theorem w_tables : (allAtoms (Jvm.Cond.code x code maxLocals ret :: tables_1)).before args0 about1 = true := by
  rw [allAtoms_all]
  show words1.all (fun c => c.before args0 about1) = true
  refine all_split ?_ w_codes
  rw [w_t1]
set_option maxRecDepth 65536 in
theorem w_case : (Jvm.Cond.and given_1 narrow_1).before args0 about1 = true := by decide +kernel
theorem w_applies : (headSpec (Jvm.Cond.code x code maxLocals ret :: tables_1) room_1).applies x e0.platform about1 = true :=
  (Spec.applies_iff w_frames).mpr ⟨w_running, w_runnable, w_alone, w_named, w_hears, w_ripe, w_room, w_tables⟩
theorem atStart : AtStart classFile x code maxLocals ret World_1 tables_1 room_1 Calls_1 rest_1 Pre_1 launch0 p0 e0 about1 theMethod args0 below0 :=
  ⟨lists_1, trivial, launch0.admits_env _ _ _, launch0.least_env, fairChoices_fair.cas, fairChoices_fair.clock, w_frames, w_args, w_heap, w_applies, trivial, trivial, w_case⟩
end start1
theorem witness_1 : WitnessClaimed_1 := ⟨start1.p0, start1.e0, start1.about1, start1.theMethod, start1.args0, start1.below0, start1.atStart⟩
end Jvm.Pilot.@@N@@
