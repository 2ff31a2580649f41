import JvmDerived
import JvmDerived.Pilot.@@N@@Statement
import JvmDerived.Pilot.@@N@@Code
set_option linter.unusedVariables false
set_option linter.unusedSimpArgs false
namespace Jvm.Pilot.@@N@@
open Jvm Jvm.ClassFile Sem Op Lib Jvm.Free Jvm.Stand Jvm.LawKit Jvm.RoadKit Bundle Jvm.Pilot.@@N@@.Jvm.D
section OwnKit
/-- from S the run comes to an end that G takes -/
def own_Fin (tb : Tables) (e : Env) (below : List Frame) (G : State → Outcome → Prop) (S : State) : Prop := ∃ s₂ o, Steps tb e below S s₂ ∧ s₂.status = .running ∧ Ended s₂ below o ∧ G s₂ o
theorem own_go {tb : Tables} {e : Env} {below : List Frame} {G : State → Outcome → Prop} {S S' : State} (k : ∀ t, Steps tb e below S' t → Steps tb e below S t) (h : own_Fin tb e below G S') : own_Fin tb e below G S := by
  obtain ⟨t, o, a, b⟩ := h
  exact ⟨t, o, k t a, b⟩
theorem own_at {Z : State} {a0 : Array Value} {ws : List Jvm.Cond} (hw : ∀ d ∈ ws, d.before a0 Z = true) (i : Nat) {d : Jvm.Cond} (h : ws[i]? = some d) : d.before a0 Z = true := hw _ (List.mem_of_getElem? h)
def own_bi : Bool → Int32
  | true => 1
  | false => 0
theorem own_bi0 {b : Bool} (h : b = false) : own_bi b = 0 := by rw [h]; rfl
theorem own_bi1 {b : Bool} (h : b = true) : ¬ own_bi b = 0 := by rw [h]; decide
theorem own_dT {P : Prop} [Decidable P] (h : P) : (1 : Int32) = own_bi (decide P) := by rw [decide_eq_true h]; rfl
theorem own_dF {P : Prop} [Decidable P] (h : ¬ P) : (0 : Int32) = own_bi (decide P) := by rw [decide_eq_false h]; rfl
theorem own_tf (b : Bool) : b = true ∨ b = false := by cases b <;> simp
theorem own_nb (b : Bool) : narrow .boolean (.int (own_bi b)) = .int (own_bi b) := by cases b <;> rfl
theorem own_fb (b : Bool) : fits .boolean (.int (own_bi b)) = true := by cases b <;> rfl
theorem own_nr {t : FieldType} {v : Value} (h : v.isRef = true) : narrow t v = v := by cases v <;> first | (simp [Value.isRef] at h; done) | (cases t <;> rfl)
theorem own_store {l l' : Array Slot} {i : Nat} {v : Value} {o : Slot} (hold : l[i]? = some o) (ho : o = .unset ∨ ∃ w, o = .val w ∧ w.category = 1) (hv : v.category = 1) (e : l.setIfInBounds i (.val v) = l') : storeLocals l i v = some l' := e ▸ XS.store1 hold ho hv
theorem own_eqI {args : Array Value} {s : State} {t : Term} {k : Int32} (h : (Jvm.Cond.eq t (Term.int k)).value args s none s [] = some true) : t.eval args s none [] s = some (.int k) := by
  simp only [Jvm.Cond.value, Term.eval] at h
  cases ht : t.eval args s none [] s with
  | none => simp [ht] at h
  | some x => cases x <;> simp [ht] at h ⊢; exact h
theorem own_eqR {args : Array Value} {s : State} {t u : Term} {a : Addr} (h : (Jvm.Cond.eq t u).value args s none s [] = some true) (hu : u.eval args s none [] s = some (.ref a)) : t.eval args s none [] s = some (.ref a) := by
  simp only [Jvm.Cond.value, hu] at h
  cases ht : t.eval args s none [] s with
  | none => simp [ht] at h
  | some x => cases x <;> simp [ht] at h ⊢; exact h
theorem own_size {Z : State} {n0 : Nat} {h : Heap} (X : Old Z n0 h) : n0 ≤ h.size := X.1 ▸ X.2.1
section
variable {p : Program} {l : Launch} {e : Env} {R : Room} {s : State} {m : MethodId} {args : Array Value} {below : List Frame} {meth : Method} {c : Code} {T : State} {locs : List Loc} {cells slots : Nat}
theorem own_mono (X : Stand p l e R s m args below meth c T locs cells slots) {k n : Nat} (hk : cells ≤ k) (hn : slots ≤ n) : Stand p l e R s m args below meth c T locs k n := { X with same := X.same.mono hk hn }
theorem own_rv (X : Stand p l e R s m args below meth c T locs cells slots) (hx : p.tables.exec = Jvm.exec) {pc : Nat} {Ls : Array Slot} {w : Value} {t : FieldType} {i : Instr} {rest : List Value} (hret : meth.sig.returnType = some t) (hn : narrow t w = w)
    (hi : (i = .ireturn ∧ (t = .int ∨ t = .boolean ∨ t = .byte ∨ t = .char ∨ t = .short) ∧ ∃ z, w = .int z) ∨ (i = .lreturn ∧ t = .long ∧ ∃ z, w = .long z) ∨ (i = .dreturn ∧ t = .double ∧ ∃ z, w = .double z) ∨ (i = .freturn ∧ t = .float ∧ ∃ z, w = .float z) ∨ (i = .areturn ∧ t.isReference = true ∧ w.isRef = true))
    (hd : decode c.code pc = .ok (i, 1)) (hlocks : meth.locks = false) {Q : Option Value → Heap → List Loc → Prop} {k n : Nat} (h1 : cells ≤ k) (h2 : slots ≤ n) (hQ : Q (some w) T.heap locs) :
    own_Fin p.tables e below (fun s₂ o => ∃ v L, o = .returned v ∧ Q v s₂.heap L ∧ FrameEnd s o s₂ L k n) (T.setTop (mkF m pc Ls (w :: rest))) := by
  obtain ⟨fs, hr, hrun, hended, hW, hsame⟩ := X.leave (v := some w) (fun h => by rw [hret] at h; cases h) hlocks
  exact ⟨_, _, retOut X hx hret hn hi hd hr, hrun, hended, _, _, rfl, hQ, ⟨_, rfl⟩, hW, hsame.mono h1 h2⟩
theorem own_r0 (X : Stand p l e R s m args below meth c T locs cells slots) (hx : p.tables.exec = Jvm.exec) {pc : Nat} {Ls : Array Slot} (hret : meth.sig.returnType = none)
    (hd : decode c.code pc = .ok (.return_, 1)) (hlocks : meth.locks = false) {Q : Option Value → Heap → List Loc → Prop} {k n : Nat} (h1 : cells ≤ k) (h2 : slots ≤ n) (hQ : Q none T.heap locs) :
    own_Fin p.tables e below (fun s₂ o => ∃ v L, o = .returned v ∧ Q v s₂.heap L ∧ FrameEnd s o s₂ L k n) (T.setTop (mkF m pc Ls [])) := by
  obtain ⟨fs, hr, hrun, hended, hW, hsame⟩ := X.leave (v := none) (fun _ => rfl) hlocks
  exact ⟨_, _, X.returnOut hx hret hd hr, hrun, hended, _, _, rfl, hQ, ⟨_, rfl⟩, hW, hsame.mono h1 h2⟩
theorem own_rvW {vm₁ : Vm} (X : Stand p l e R (s.setVm vm₁) m args below meth c T locs cells slots) {kk : Nat} (hS : s.Since vm₁ kk) (hk : kk ≤ T.heap.size) (hx : p.tables.exec = Jvm.exec) {pc : Nat} {Ls : Array Slot} {w : Value} {t : FieldType} {i : Instr} {rest : List Value} (hret : meth.sig.returnType = some t) (hn : narrow t w = w)
    (hi : (i = .ireturn ∧ (t = .int ∨ t = .boolean ∨ t = .byte ∨ t = .char ∨ t = .short) ∧ ∃ z, w = .int z) ∨ (i = .lreturn ∧ t = .long ∧ ∃ z, w = .long z) ∨ (i = .dreturn ∧ t = .double ∧ ∃ z, w = .double z) ∨ (i = .freturn ∧ t = .float ∧ ∃ z, w = .float z) ∨ (i = .areturn ∧ t.isReference = true ∧ w.isRef = true))
    (hd : decode c.code pc = .ok (i, 1)) (hlocks : meth.locks = false) {Q : Option Value → Heap → List Loc → Prop} {k n : Nat} (h1 : cells ≤ k) (h2 : slots ≤ n) (hQ : Q (some w) T.heap locs) :
    own_Fin p.tables e below (fun s₂ o => ∃ v L, o = .returned v ∧ Q v s₂.heap L ∧ ReturnedEndW s o s₂ L k n) (T.setTop (mkF m pc Ls (w :: rest))) := by
  obtain ⟨fs, hr, hrun, hended, q1, q2, q3, q4⟩ := leaveW X hS hk (v := some w) (fun h => by rw [hret] at h; cases h) hlocks
  exact ⟨_, _, retOut X hx hret hn hi hd hr, hrun, hended, _, _, rfl, hQ, q1, q2, q3, q4.mono h1 h2⟩
theorem own_r0W {vm₁ : Vm} (X : Stand p l e R (s.setVm vm₁) m args below meth c T locs cells slots) {kk : Nat} (hS : s.Since vm₁ kk) (hk : kk ≤ T.heap.size) (hx : p.tables.exec = Jvm.exec) {pc : Nat} {Ls : Array Slot} (hret : meth.sig.returnType = none)
    (hd : decode c.code pc = .ok (.return_, 1)) (hlocks : meth.locks = false) {Q : Option Value → Heap → List Loc → Prop} {k n : Nat} (h1 : cells ≤ k) (h2 : slots ≤ n) (hQ : Q none T.heap locs) :
    own_Fin p.tables e below (fun s₂ o => ∃ v L, o = .returned v ∧ Q v s₂.heap L ∧ ReturnedEndW s o s₂ L k n) (T.setTop (mkF m pc Ls [])) := by
  obtain ⟨fs, hr, hrun, hended, q1, q2, q3, q4⟩ := leaveW X hS hk (v := none) (fun _ => rfl) hlocks
  exact ⟨_, _, X.returnOut hx hret hd hr, hrun, hended, _, _, rfl, hQ, q1, q2, q3, q4.mono h1 h2⟩
theorem own_rvH {Z : State} {a0 : Array Value} {EL : List (String × Nat)} {h0 h : Heap} {vm₁ : Vm} (X : Stand p l e R (s.setVm vm₁) m args below meth c T locs cells slots) {kk : Nat} (hS : s.Since vm₁ kk) (hk : kk ≤ T.heap.size) (hZ : Z.Warmed39 vm₁) (hEL : EW Z a0 EL) (hh : s.heap = h0) (eT : T.heap = h) (CH : CHr Z EL s.vm h0 vm₁ h) (hx : p.tables.exec = Jvm.exec) {pc : Nat} {Ls : Array Slot} {w : Value} {t : FieldType} {i : Instr} {rest : List Value} (hret : meth.sig.returnType = some t) (hn : narrow t w = w)
    (hi : (i = .ireturn ∧ (t = .int ∨ t = .boolean ∨ t = .byte ∨ t = .char ∨ t = .short) ∧ ∃ z, w = .int z) ∨ (i = .lreturn ∧ t = .long ∧ ∃ z, w = .long z) ∨ (i = .dreturn ∧ t = .double ∧ ∃ z, w = .double z) ∨ (i = .freturn ∧ t = .float ∧ ∃ z, w = .float z) ∨ (i = .areturn ∧ t.isReference = true ∧ w.isRef = true))
    (hd : decode c.code pc = .ok (i, 1)) (hlocks : meth.locks = false) {Q : Option Value → Heap → List Loc → Prop} {k n : Nat} (h1 : cells ≤ k) (h2 : slots ≤ n) (hQ : Q (some w) T.heap locs) :
    own_Fin p.tables e below (fun s₂ o => ∃ v L, o = .returned v ∧ Q v s₂.heap L ∧ CHr Z EL s.vm s.heap s₂.vm s₂.heap ∧ ReturnedEndW s o s₂ L k n) (T.setTop (mkF m pc Ls (w :: rest))) := by
  obtain ⟨fs, hr, hrun, hended, q1, q2, q3, q4⟩ := leaveW X hS hk (v := some w) (fun h => by rw [hret] at h; cases h) hlocks
  subst eT hh
  have A := CH.trans (CHv.at X hZ hEL CH.1)
  exact ⟨_, _, retOut X hx hret hn hi hd hr, hrun, hended, _, _, rfl, hQ, A, q1, q2, q3, q4.mono h1 h2⟩
theorem own_r0H {Z : State} {a0 : Array Value} {EL : List (String × Nat)} {h0 h : Heap} {vm₁ : Vm} (X : Stand p l e R (s.setVm vm₁) m args below meth c T locs cells slots) {kk : Nat} (hS : s.Since vm₁ kk) (hk : kk ≤ T.heap.size) (hZ : Z.Warmed39 vm₁) (hEL : EW Z a0 EL) (hh : s.heap = h0) (eT : T.heap = h) (CH : CHr Z EL s.vm h0 vm₁ h) (hx : p.tables.exec = Jvm.exec) {pc : Nat} {Ls : Array Slot} (hret : meth.sig.returnType = none)
    (hd : decode c.code pc = .ok (.return_, 1)) (hlocks : meth.locks = false) {Q : Option Value → Heap → List Loc → Prop} {k n : Nat} (h1 : cells ≤ k) (h2 : slots ≤ n) (hQ : Q none T.heap locs) :
    own_Fin p.tables e below (fun s₂ o => ∃ v L, o = .returned v ∧ Q v s₂.heap L ∧ CHr Z EL s.vm s.heap s₂.vm s₂.heap ∧ ReturnedEndW s o s₂ L k n) (T.setTop (mkF m pc Ls [])) := by
  obtain ⟨fs, hr, hrun, hended, q1, q2, q3, q4⟩ := leaveW X hS hk (v := none) (fun _ => rfl) hlocks
  subst eT hh
  have A := CH.trans (CHv.at X hZ hEL CH.1)
  exact ⟨_, _, X.returnOut hx hret hd hr, hrun, hended, _, _, rfl, hQ, A, q1, q2, q3, q4.mono h1 h2⟩
theorem own_hk {h : Heap} {k : Nat} (e : T.heap = h) (hk : k ≤ h.size) : k ≤ T.heap.size := e ▸ hk
theorem own_rebZ {Z : State} {vm0 vm1 : Vm} {n : Nat} (hZ : Z.Warmed39 vm0) (h : (s.setVm vm0).Since vm1 n) : Z.Warmed39 vm1 := State.Warmed39.trans (t := s.setVm vm0) hZ h.1
theorem own_rebO {vm0 vm1 : Vm} {n : Nat} {own : String} {k : ClassId} (hown : vm0.findClass own = some k) (h : (s.setVm vm0).Since vm1 n) : vm1.findClass own = some k := by rw [h.1.alike.findClass]; exact hown
theorem own_noCast {Z : State} {a0 : Array Value} {X Y : String} {t : List String} {n : Nat} (hw : ∀ w ∈ Jvm.Cond.chainWords (X :: t), w.before a0 Z = true) (hY : (Jvm.Cond.instantiable Y n).before a0 Z = true) (hn : Y ∉ X :: t) : ∃ c t, Z.vm.findClass X = some c ∧ Z.vm.findClass Y = some t ∧ Z.vm.assignable c t = false := by
  obtain ⟨cx, k, hx, -, -, -⟩ := Cond.chain_head hw
  obtain ⟨cy, ky, hy, h2, h3, h4, -⟩ := Cond.instantiable_spec hY
  simp only [Bool.or_eq_false_iff] at h4
  exact ⟨cx, cy, hx, hy, Vm.notAssignable_of_chain hx hy h2 h3 h4.1 hw hn⟩
end
end OwnKit
def own_pick (o0 o1 o2 o3 o4 : Addr) (k : Int32) : Addr := if k = 0 then o0 else if k = 1 then o1 else if k = 2 then o2 else if k = 3 then o3 else o4
def own_counts (k : Int32) : Int32 := if k = 0 then 1 else if k = 1 then 2 else if k = 2 then 3 else if k = 3 then 7 else 6
def own_mn (k : Int32) : Int32 := if k = 0 then 0 else if k = 1 then 1 else if k = 2 then 0 else if k = 3 then 0 else 1
def own_mx (k : Int32) : Int32 := if k = 0 then 0 else if k = 1 then 1 else if k = 2 then 1 else if k = 3 then 2147483647 else 2147483647
theorem own_five (k : Int32) : k = 0 ∨ k = 1 ∨ k = 2 ∨ k = 3 ∨ (¬ k = 0 ∧ ¬ k = 1 ∧ ¬ k = 2 ∧ ¬ k = 3) := by
  by_cases h0 : k = 0 <;> by_cases h1 : k = 1 <;> by_cases h2 : k = 2 <;> by_cases h3 : k = 3 <;> simp [h0, h1, h2, h3]
theorem own_val (k : Int32) : (own_counts k = 1 ∧ own_mn k = 0 ∧ own_mx k = 0) ∨ (own_counts k = 2 ∧ own_mn k = 1 ∧ own_mx k = 1) ∨ (own_counts k = 3 ∧ own_mn k = 0 ∧ own_mx k = 1) ∨ (own_counts k = 7 ∧ own_mn k = 0 ∧ own_mx k = 2147483647) ∨ (own_counts k = 6 ∧ own_mn k = 1 ∧ own_mx k = 2147483647) := by
  rcases own_five k with h | h | h | h | ⟨h0, h1, h2, h3⟩
  · subst h; decide
  · subst h; decide
  · subst h; decide
  · subst h; decide
  · simp [own_counts, own_mn, own_mx, h0, h1, h2, h3]
theorem own_same (i j : Int32) : own_bi (!decide (own_mn i < own_mn j) && !decide (own_mx j < own_mx i)) = own_bi (decide (own_counts i &&& (own_counts j ^^^ -1) = 0)) := by
  rcases own_val i with ⟨a, b, c⟩ | ⟨a, b, c⟩ | ⟨a, b, c⟩ | ⟨a, b, c⟩ | ⟨a, b, c⟩ <;> rcases own_val j with ⟨d, e, f⟩ | ⟨d, e, f⟩ | ⟨d, e, f⟩ | ⟨d, e, f⟩ | ⟨d, e, f⟩ <;> rw [a, b, c, d, e, f] <;> decide
theorem own_pickF {Z : State} {h : Heap} {o0 o1 o2 o3 o4 : Addr} {i : Int32} (E0 : Exa Z h o0 "com/example/typelattice/typelattice/Occurrence") (Fm0 : Fld Z h o0 "com/example/typelattice/typelattice/Occurrence" "min" "I" (.int (0 : Int32))) (Fx0 : Fld Z h o0 "com/example/typelattice/typelattice/Occurrence" "max" "I" (.int (0 : Int32))) (E1 : Exa Z h o1 "com/example/typelattice/typelattice/Occurrence") (Fm1 : Fld Z h o1 "com/example/typelattice/typelattice/Occurrence" "min" "I" (.int (1 : Int32))) (Fx1 : Fld Z h o1 "com/example/typelattice/typelattice/Occurrence" "max" "I" (.int (1 : Int32))) (E2 : Exa Z h o2 "com/example/typelattice/typelattice/Occurrence") (Fm2 : Fld Z h o2 "com/example/typelattice/typelattice/Occurrence" "min" "I" (.int (0 : Int32))) (Fx2 : Fld Z h o2 "com/example/typelattice/typelattice/Occurrence" "max" "I" (.int (1 : Int32))) (E3 : Exa Z h o3 "com/example/typelattice/typelattice/Occurrence") (Fm3 : Fld Z h o3 "com/example/typelattice/typelattice/Occurrence" "min" "I" (.int (0 : Int32))) (Fx3 : Fld Z h o3 "com/example/typelattice/typelattice/Occurrence" "max" "I" (.int (2147483647 : Int32))) (E4 : Exa Z h o4 "com/example/typelattice/typelattice/Occurrence") (Fm4 : Fld Z h o4 "com/example/typelattice/typelattice/Occurrence" "min" "I" (.int (1 : Int32))) (Fx4 : Fld Z h o4 "com/example/typelattice/typelattice/Occurrence" "max" "I" (.int (2147483647 : Int32))) : Exa Z h (own_pick o0 o1 o2 o3 o4 i) "com/example/typelattice/typelattice/Occurrence" ∧ Fld Z h (own_pick o0 o1 o2 o3 o4 i) "com/example/typelattice/typelattice/Occurrence" "min" "I" (.int (own_mn i)) ∧ Fld Z h (own_pick o0 o1 o2 o3 o4 i) "com/example/typelattice/typelattice/Occurrence" "max" "I" (.int (own_mx i)) := by
  rcases own_five i with q | q | q | q | ⟨q0, q1, q2, q3⟩
  · subst q; exact ⟨E0, Fm0, Fx0⟩
  · subst q; exact ⟨E1, Fm1, Fx1⟩
  · subst q; exact ⟨E2, Fm2, Fx2⟩
  · subst q; exact ⟨E3, Fm3, Fx3⟩
  · simp only [own_pick, own_mn, own_mx, q0, q1, q2, q3, if_false]; exact ⟨E4, Fm4, Fx4⟩
theorem own_ef_own_lies (m : MethodId) (a1 : Addr) (a2 : Addr)  : entryFrame m #[(.ref a1), (.ref a2)] 2 = (mkF m 0 #[.val (.ref a1), .val (.ref a2)] []) := by first | (simp [entryFrame, mkF, argsToLocals, Value.category]; done) | rfl
theorem own_pn0 : plainName "com/example/typelattice/typelattice/Occurrence" = true := by first | (simp [plainName, overriddenIn]; done) | decide +kernel
theorem own_d0_0 : decode prog_99_method_6_code 0 = .ok (.aload_n 0, 1) := by decide +kernel
theorem own_d0_1 : decode prog_99_method_6_code 1 = .ok (.getfield 42, 3) := by decide +kernel
theorem own_d0_4 : decode prog_99_method_6_code 4 = .ok (.aload_n 1, 1) := by decide +kernel
theorem own_d0_5 : decode prog_99_method_6_code 5 = .ok (.getfield 42, 3) := by decide +kernel
theorem own_d0_8 : decode prog_99_method_6_code 8 = .ok (.if_icmp .lt 18, 3) := by decide +kernel
theorem own_d0_26 : decode prog_99_method_6_code 26 = .ok (.iconst 0, 1) := by decide +kernel
theorem own_d0_27 : decode prog_99_method_6_code 27 = .ok (.ireturn, 1) := by decide +kernel
theorem own_d0_11 : decode prog_99_method_6_code 11 = .ok (.aload_n 0, 1) := by decide +kernel
theorem own_d0_12 : decode prog_99_method_6_code 12 = .ok (.getfield 46, 3) := by decide +kernel
theorem own_d0_15 : decode prog_99_method_6_code 15 = .ok (.aload_n 1, 1) := by decide +kernel
theorem own_d0_16 : decode prog_99_method_6_code 16 = .ok (.getfield 46, 3) := by decide +kernel
theorem own_d0_19 : decode prog_99_method_6_code 19 = .ok (.if_icmp .gt 7, 3) := by decide +kernel
theorem own_d0_22 : decode prog_99_method_6_code 22 = .ok (.iconst 1, 1) := by decide +kernel
theorem own_d0_23 : decode prog_99_method_6_code 23 = .ok (.goto 4, 3) := by decide +kernel
def own_Q_own_lies (Z : State) (a1 : Addr) (a2 : Addr) (n1 : Int32) (x1 : Int32) (n2 : Int32) (x2 : Int32) (h0 : Heap) (n0 : Nat) (v : Option Value) (h : Heap) (L : List Loc) : Prop := v = some (.int (own_bi (!decide (n1 < n2) && !decide (x2 < x1)))) ∧ Fr n0 L ∧ h = h0
set_option maxRecDepth 65536 in
set_option maxHeartbeats 40000000 in
theorem own_lies (l : Launch) (Z : State) (a0 : Array Value) (hw : ∀ d ∈ tables_1, d.before a0 Z = true) (ws : List Jvm.Cond) (a1 : Addr) (a2 : Addr) (n1 : Int32) (x1 : Int32) (n2 : Int32) (x2 : Int32) (h0 : Heap) (n0 : Nat) (O0 : Old Z n0 h0) (Fn1 : Fld Z h0 a1 "com/example/typelattice/typelattice/Occurrence" "min" "I" (.int n1)) (Fx1 : Fld Z h0 a1 "com/example/typelattice/typelattice/Occurrence" "max" "I" (.int x1)) (Fn2 : Fld Z h0 a2 "com/example/typelattice/typelattice/Occurrence" "min" "I" (.int n2)) (Fx2 : Fld Z h0 a2 "com/example/typelattice/typelattice/Occurrence" "max" "I" (.int x2)) :
    MetFree l (⟨"com/example/typelattice/typelattice/Occurrence", "liesWithin", "(Lcom/example/typelattice/typelattice/Occurrence;)Z"⟩ : MethodName) (head1 (Jvm.Cond.code (⟨"com/example/typelattice/typelattice/Occurrence", "liesWithin", "(Lcom/example/typelattice/typelattice/Occurrence;)Z"⟩ : MethodName) prog_99_method_6_code 2 (some .boolean) :: ws) ({ frames := 0, cells := 0, slots := 0, locals := 0 } : Room)) (fun a U => a = #[(.ref a1), (.ref a2)] ∧ Z.Warmed39 U.vm ∧ U.heap = h0) (fun _ _ _ _ _ => True) (fun _ U o U' => ∃ v L, o = .returned v ∧ own_Q_own_lies Z a1 a2 n1 x1 n2 x2 h0 n0 v U'.heap L ∧ FrameEnd U o U' L ({ frames := 0, cells := 0, slots := 0, locals := 0 } : Room).cells ({ frames := 0, cells := 0, slots := 0, locals := 0 } : Room).slots) := by
  refine MetFree.of_bodySF (plainFor_of_name own_pn0) hisR ?_
  intro p e s m args below meth c s₁ Bd hml0 hP hK
  obtain ⟨rfl, hZ, hh⟩ := hP
  have hx := Bd.exec
  have hby := Bd.bytes
  have hml : c.maxLocals = 2 := hml0
  have hown : s.vm.findClass "com/example/typelattice/typelattice/Occurrence" = some m.cls := findClass_of_methodNamed Bd.named
  have hnm := (name_of_methodNamed Bd.named Bd.method).1
  have X0 : Stand p l e ({ frames := 0, cells := 0, slots := 0, locals := 0 } : Room) s m #[(.ref a1), (.ref a2)] below meth c s₁ [] 0 0 := Stand.of_body Bd
  have e0 : s₁.heap = h0 := by rw [← hh, Bd.state]; rfl
  have N0 := Fr.nil n0
  show own_Fin p.tables e below (fun s₂ o => ∃ v L, o = .returned v ∧ own_Q_own_lies Z a1 a2 n1 x1 n2 x2 h0 n0 v s₂.heap L ∧ FrameEnd s o s₂ L ({ frames := 0, cells := 0, slots := 0, locals := 0 } : Room).cells ({ frames := 0, cells := 0, slots := 0, locals := 0 } : Room).slots) _
  generalize hG : (fun (s₂ : State) (o : Outcome) => ∃ v L, o = Outcome.returned v ∧ own_Q_own_lies Z a1 a2 n1 x1 n2 x2 h0 n0 v s₂.heap L ∧ FrameEnd s o s₂ L ({ frames := 0, cells := 0, slots := 0, locals := 0 } : Room).cells ({ frames := 0, cells := 0, slots := 0, locals := 0 } : Room).slots) = G
  refine own_go (fun _ k => castTop (own_ef_own_lies m a1 a2) k) ?_
  show own_Fin p.tables e below G (s₁.setTop (mkF m 0 #[.val (.ref a1), .val (.ref a2)] []))
  refine own_go (fun _ k => XS.aloadN X0.here hx rfl (hb hby own_d0_0) rfl rfl k) ?_
  show own_Fin p.tables e below G (s₁.setTop (mkF m 1 #[.val (.ref a1), .val (.ref a2)] [(.ref a1)]))
  obtain ⟨T1, X1, e1, st1⟩ := getF X0 hx hZ hown (host := "") (Or.inl (own_at hw 18 rfl)) Via.refl e0 Fn1 (g := (mkF m 1 #[.val (.ref a1), .val (.ref a2)] [(.ref a1)])) rfl rfl (hb hby own_d0_1)
  refine own_go st1 ?_
  show own_Fin p.tables e below G (T1.setTop (mkF m 4 #[.val (.ref a1), .val (.ref a2)] [(.int n1)]))
  refine own_go (fun _ k => XS.aloadN X1.here hx rfl (hb hby own_d0_4) rfl rfl k) ?_
  show own_Fin p.tables e below G (T1.setTop (mkF m 5 #[.val (.ref a1), .val (.ref a2)] [(.ref a2), (.int n1)]))
  obtain ⟨T2, X2, e2, st2⟩ := getF X1 hx hZ hown (host := "") (Or.inl (own_at hw 18 rfl)) Via.refl e1 Fn2 (g := (mkF m 5 #[.val (.ref a1), .val (.ref a2)] [(.ref a2), (.int n1)])) rfl rfl (hb hby own_d0_5)
  refine own_go st2 ?_
  show own_Fin p.tables e below G (T2.setTop (mkF m 8 #[.val (.ref a1), .val (.ref a2)] [(.int n2), (.int n1)]))
  by_cases hc8 : n1 < n2
  · refine own_go (fun _ k => XS.icmpYes X2.here hx rfl (pc0 := 8) (pc' := 26) rfl (hb hby own_d0_8) rfl (Jvm.Free.XT.ii_lt_t hc8) (by decide) (by decide) k) ?_
    show own_Fin p.tables e below G (T2.setTop (mkF m 26 #[.val (.ref a1), .val (.ref a2)] []))
    refine own_go (fun _ k => XS.iconst X2.here hx rfl (hb hby own_d0_26)  k) ?_
    show own_Fin p.tables e below G (T2.setTop (mkF m 27 #[.val (.ref a1), .val (.ref a2)] [(.int (0 : Int32))]))
    subst hG
    exact own_rv X2 hx (t := .boolean) Bd.returns rfl (Or.inl ⟨rfl, Or.inr (Or.inl rfl), _, rfl⟩) (hb hby own_d0_27) Bd.notSynchronized (by decide) (by decide) ⟨by simp [own_bi, hc8], N0, e2⟩
  · refine own_go (fun _ k => XS.icmpNo X2.here hx rfl (hb hby own_d0_8) rfl (Jvm.Free.XT.ii_lt_f hc8) k) ?_
    show own_Fin p.tables e below G (T2.setTop (mkF m 11 #[.val (.ref a1), .val (.ref a2)] []))
    refine own_go (fun _ k => XS.aloadN X2.here hx rfl (hb hby own_d0_11) rfl rfl k) ?_
    show own_Fin p.tables e below G (T2.setTop (mkF m 12 #[.val (.ref a1), .val (.ref a2)] [(.ref a1)]))
    obtain ⟨T3, X3, e3, st3⟩ := getF X2 hx hZ hown (host := "") (Or.inl (own_at hw 20 rfl)) Via.refl e2 Fx1 (g := (mkF m 12 #[.val (.ref a1), .val (.ref a2)] [(.ref a1)])) rfl rfl (hb hby own_d0_12)
    refine own_go st3 ?_
    show own_Fin p.tables e below G (T3.setTop (mkF m 15 #[.val (.ref a1), .val (.ref a2)] [(.int x1)]))
    refine own_go (fun _ k => XS.aloadN X3.here hx rfl (hb hby own_d0_15) rfl rfl k) ?_
    show own_Fin p.tables e below G (T3.setTop (mkF m 16 #[.val (.ref a1), .val (.ref a2)] [(.ref a2), (.int x1)]))
    obtain ⟨T4, X4, e4, st4⟩ := getF X3 hx hZ hown (host := "") (Or.inl (own_at hw 20 rfl)) Via.refl e3 Fx2 (g := (mkF m 16 #[.val (.ref a1), .val (.ref a2)] [(.ref a2), (.int x1)])) rfl rfl (hb hby own_d0_16)
    refine own_go st4 ?_
    show own_Fin p.tables e below G (T4.setTop (mkF m 19 #[.val (.ref a1), .val (.ref a2)] [(.int x2), (.int x1)]))
    by_cases hc19 : x2 < x1
    · refine own_go (fun _ k => XS.icmpYes X4.here hx rfl (pc0 := 19) (pc' := 26) rfl (hb hby own_d0_19) rfl (Jvm.Free.XT.ii_gt_t hc19) (by decide) (by decide) k) ?_
      show own_Fin p.tables e below G (T4.setTop (mkF m 26 #[.val (.ref a1), .val (.ref a2)] []))
      refine own_go (fun _ k => XS.iconst X4.here hx rfl (hb hby own_d0_26)  k) ?_
      show own_Fin p.tables e below G (T4.setTop (mkF m 27 #[.val (.ref a1), .val (.ref a2)] [(.int (0 : Int32))]))
      subst hG
      exact own_rv X4 hx (t := .boolean) Bd.returns rfl (Or.inl ⟨rfl, Or.inr (Or.inl rfl), _, rfl⟩) (hb hby own_d0_27) Bd.notSynchronized (by decide) (by decide) ⟨by simp [own_bi, hc8, hc19], N0, e4⟩
    · refine own_go (fun _ k => XS.icmpNo X4.here hx rfl (hb hby own_d0_19) rfl (Jvm.Free.XT.ii_gt_f hc19) k) ?_
      show own_Fin p.tables e below G (T4.setTop (mkF m 22 #[.val (.ref a1), .val (.ref a2)] []))
      refine own_go (fun _ k => XS.iconst X4.here hx rfl (hb hby own_d0_22)  k) ?_
      show own_Fin p.tables e below G (T4.setTop (mkF m 23 #[.val (.ref a1), .val (.ref a2)] [(.int (1 : Int32))]))
      refine own_go (fun _ k => XS.goto X4.here hx rfl (pc0 := 23) (pc' := 27) rfl (hb hby own_d0_23) (by decide) (by decide) k) ?_
      show own_Fin p.tables e below G (T4.setTop (mkF m 27 #[.val (.ref a1), .val (.ref a2)] [(.int (1 : Int32))]))
      subst hG
      exact own_rv X4 hx (t := .boolean) Bd.returns rfl (Or.inl ⟨rfl, Or.inr (Or.inl rfl), _, rfl⟩) (hb hby own_d0_27) Bd.notSynchronized (by decide) (by decide) ⟨by simp [own_bi, hc8, hc19], N0, e4⟩
theorem own_ef_own_pk (m : MethodId) (p1 : Int32)  : entryFrame m #[(.int p1)] 1 = (mkF m 0 #[.val (.int p1)] []) := by first | (simp [entryFrame, mkF, argsToLocals, Value.category]; done) | rfl
theorem own_pn1 : plainName "com/example/typelattice/typelattice/OccurrenceLiesWithinPinLaw" = true := by first | (simp [plainName, overriddenIn]; done) | decide +kernel
theorem own_d1_0 : decode method_2_code 0 = .ok (.iload_n 0, 1) := by decide +kernel
theorem own_d1_1 : decode method_2_code 1 = .ok (.ifCond .ne 7, 3) := by decide +kernel
theorem own_d1_4 : decode method_2_code 4 = .ok (.getstatic 7, 3) := by decide +kernel
theorem own_d1_7 : decode method_2_code 7 = .ok (.areturn, 1) := by decide +kernel
theorem own_d1_8 : decode method_2_code 8 = .ok (.iload_n 0, 1) := by decide +kernel
theorem own_d1_9 : decode method_2_code 9 = .ok (.iconst 1, 1) := by decide +kernel
theorem own_d1_10 : decode method_2_code 10 = .ok (.if_icmp .ne 7, 3) := by decide +kernel
theorem own_d1_13 : decode method_2_code 13 = .ok (.getstatic 13, 3) := by decide +kernel
theorem own_d1_16 : decode method_2_code 16 = .ok (.areturn, 1) := by decide +kernel
theorem own_d1_17 : decode method_2_code 17 = .ok (.iload_n 0, 1) := by decide +kernel
theorem own_d1_18 : decode method_2_code 18 = .ok (.iconst 2, 1) := by decide +kernel
theorem own_d1_19 : decode method_2_code 19 = .ok (.if_icmp .ne 7, 3) := by decide +kernel
theorem own_d1_22 : decode method_2_code 22 = .ok (.getstatic 16, 3) := by decide +kernel
theorem own_d1_25 : decode method_2_code 25 = .ok (.areturn, 1) := by decide +kernel
theorem own_d1_26 : decode method_2_code 26 = .ok (.iload_n 0, 1) := by decide +kernel
theorem own_d1_27 : decode method_2_code 27 = .ok (.iconst 3, 1) := by decide +kernel
theorem own_d1_28 : decode method_2_code 28 = .ok (.if_icmp .ne 7, 3) := by decide +kernel
theorem own_d1_31 : decode method_2_code 31 = .ok (.getstatic 19, 3) := by decide +kernel
theorem own_d1_34 : decode method_2_code 34 = .ok (.areturn, 1) := by decide +kernel
theorem own_d1_35 : decode method_2_code 35 = .ok (.getstatic 22, 3) := by decide +kernel
theorem own_d1_38 : decode method_2_code 38 = .ok (.areturn, 1) := by decide +kernel
def own_Q_own_pk (Z : State) (p1 : Int32) (o0 : Addr) (o1 : Addr) (o2 : Addr) (o3 : Addr) (o4 : Addr) (h0 : Heap) (n0 : Nat) (v : Option Value) (h : Heap) (L : List Loc) : Prop := v = some (.ref (own_pick o0 o1 o2 o3 o4 p1)) ∧ Fr n0 L ∧ h = h0
set_option maxRecDepth 65536 in
set_option maxHeartbeats 40000000 in
theorem own_pk (l : Launch) (Z : State) (a0 : Array Value) (hw : ∀ d ∈ tables_1, d.before a0 Z = true) (ws : List Jvm.Cond) (p1 : Int32) (o0 : Addr) (o1 : Addr) (o2 : Addr) (o3 : Addr) (o4 : Addr) (h0 : Heap) (n0 : Nat) (O0 : Old Z n0 h0) (S0 : Sta Z h0 "com/example/typelattice/typelattice/Occurrence" "EMPTY" "Lcom/example/typelattice/typelattice/Occurrence;" (.ref o0)) (S1 : Sta Z h0 "com/example/typelattice/typelattice/Occurrence" "EXACTLY_ONE" "Lcom/example/typelattice/typelattice/Occurrence;" (.ref o1)) (S2 : Sta Z h0 "com/example/typelattice/typelattice/Occurrence" "ZERO_OR_ONE" "Lcom/example/typelattice/typelattice/Occurrence;" (.ref o2)) (S3 : Sta Z h0 "com/example/typelattice/typelattice/Occurrence" "ZERO_OR_MORE" "Lcom/example/typelattice/typelattice/Occurrence;" (.ref o3)) (S4 : Sta Z h0 "com/example/typelattice/typelattice/Occurrence" "ONE_OR_MORE" "Lcom/example/typelattice/typelattice/Occurrence;" (.ref o4)) :
    MetFree l (⟨"com/example/typelattice/typelattice/OccurrenceLiesWithinPinLaw", "pick", "(I)Lcom/example/typelattice/typelattice/Occurrence;"⟩ : MethodName) (head1 (Jvm.Cond.code (⟨"com/example/typelattice/typelattice/OccurrenceLiesWithinPinLaw", "pick", "(I)Lcom/example/typelattice/typelattice/Occurrence;"⟩ : MethodName) method_2_code 1 (some (.object "com/example/typelattice/typelattice/Occurrence")) :: ws) ({ frames := 0, cells := 0, slots := 0, locals := 0 } : Room)) (fun a U => a = #[(.int p1)] ∧ Z.Warmed39 U.vm ∧ U.heap = h0) (fun _ _ _ _ _ => True) (fun _ U o U' => ∃ v L, o = .returned v ∧ own_Q_own_pk Z p1 o0 o1 o2 o3 o4 h0 n0 v U'.heap L ∧ FrameEnd U o U' L ({ frames := 0, cells := 0, slots := 0, locals := 0 } : Room).cells ({ frames := 0, cells := 0, slots := 0, locals := 0 } : Room).slots) := by
  refine MetFree.of_bodySF (plainFor_of_name own_pn1) hisR ?_
  intro p e s m args below meth c s₁ Bd hml0 hP hK
  obtain ⟨rfl, hZ, hh⟩ := hP
  have hx := Bd.exec
  have hby := Bd.bytes
  have hml : c.maxLocals = 1 := hml0
  have hown : s.vm.findClass "com/example/typelattice/typelattice/OccurrenceLiesWithinPinLaw" = some m.cls := findClass_of_methodNamed Bd.named
  have hnm := (name_of_methodNamed Bd.named Bd.method).1
  have X0 : Stand p l e ({ frames := 0, cells := 0, slots := 0, locals := 0 } : Room) s m #[(.int p1)] below meth c s₁ [] 0 0 := Stand.of_body Bd
  have e0 : s₁.heap = h0 := by rw [← hh, Bd.state]; rfl
  have N0 := Fr.nil n0
  show own_Fin p.tables e below (fun s₂ o => ∃ v L, o = .returned v ∧ own_Q_own_pk Z p1 o0 o1 o2 o3 o4 h0 n0 v s₂.heap L ∧ FrameEnd s o s₂ L ({ frames := 0, cells := 0, slots := 0, locals := 0 } : Room).cells ({ frames := 0, cells := 0, slots := 0, locals := 0 } : Room).slots) _
  generalize hG : (fun (s₂ : State) (o : Outcome) => ∃ v L, o = Outcome.returned v ∧ own_Q_own_pk Z p1 o0 o1 o2 o3 o4 h0 n0 v s₂.heap L ∧ FrameEnd s o s₂ L ({ frames := 0, cells := 0, slots := 0, locals := 0 } : Room).cells ({ frames := 0, cells := 0, slots := 0, locals := 0 } : Room).slots) = G
  refine own_go (fun _ k => castTop (own_ef_own_pk m p1) k) ?_
  show own_Fin p.tables e below G (s₁.setTop (mkF m 0 #[.val (.int p1)] []))
  refine own_go (fun _ k => XS.iloadN X0.here hx rfl (hb hby own_d1_0) rfl k) ?_
  show own_Fin p.tables e below G (s₁.setTop (mkF m 1 #[.val (.int p1)] [(.int p1)]))
  by_cases hc1 : p1 = 0
  · refine own_go (fun _ k => XS.ifNo X0.here hx rfl (hb hby own_d1_1) rfl (Jvm.Free.XT.i0_ne_f hc1) k) ?_
    show own_Fin p.tables e below G (s₁.setTop (mkF m 4 #[.val (.int p1)] []))
    obtain ⟨T5, X5, e5, st5⟩ := getS2 X0 hx hZ hown (host := "") (Or.inl (own_at hw 5 rfl)) Via.refl e0 S0 (g := (mkF m 4 #[.val (.int p1)] [])) rfl (hb hby own_d1_4)
    refine own_go st5 ?_
    show own_Fin p.tables e below G (T5.setTop (mkF m 7 #[.val (.int p1)] [(.ref o0)]))
    subst hG
    exact own_rv X5 hx (t := (.object "com/example/typelattice/typelattice/Occurrence")) Bd.returns rfl (Or.inr (Or.inr (Or.inr (Or.inr ⟨rfl, rfl, rfl⟩)))) (hb hby own_d1_7) Bd.notSynchronized (by decide) (by decide) ⟨by simp [own_pick, hc1], N0, e5⟩
  · refine own_go (fun _ k => XS.ifYes X0.here hx rfl (pc0 := 1) (pc' := 8) rfl (hb hby own_d1_1) rfl (Jvm.Free.XT.i0_ne_t hc1) (by decide) (by decide) k) ?_
    show own_Fin p.tables e below G (s₁.setTop (mkF m 8 #[.val (.int p1)] []))
    refine own_go (fun _ k => XS.iloadN X0.here hx rfl (hb hby own_d1_8) rfl k) ?_
    show own_Fin p.tables e below G (s₁.setTop (mkF m 9 #[.val (.int p1)] [(.int p1)]))
    refine own_go (fun _ k => XS.iconst X0.here hx rfl (hb hby own_d1_9)  k) ?_
    show own_Fin p.tables e below G (s₁.setTop (mkF m 10 #[.val (.int p1)] [(.int (1 : Int32)), (.int p1)]))
    by_cases hc10 : p1 = (1 : Int32)
    · refine own_go (fun _ k => XS.icmpNo X0.here hx rfl (hb hby own_d1_10) rfl (Jvm.Free.XT.ii_ne_f hc10) k) ?_
      show own_Fin p.tables e below G (s₁.setTop (mkF m 13 #[.val (.int p1)] []))
      obtain ⟨T6, X6, e6, st6⟩ := getS2 X0 hx hZ hown (host := "") (Or.inl (own_at hw 24 rfl)) Via.refl e0 S1 (g := (mkF m 13 #[.val (.int p1)] [])) rfl (hb hby own_d1_13)
      refine own_go st6 ?_
      show own_Fin p.tables e below G (T6.setTop (mkF m 16 #[.val (.int p1)] [(.ref o1)]))
      subst hG
      exact own_rv X6 hx (t := (.object "com/example/typelattice/typelattice/Occurrence")) Bd.returns rfl (Or.inr (Or.inr (Or.inr (Or.inr ⟨rfl, rfl, rfl⟩)))) (hb hby own_d1_16) Bd.notSynchronized (by decide) (by decide) ⟨by simp [own_pick, hc1, hc10], N0, e6⟩
    · refine own_go (fun _ k => XS.icmpYes X0.here hx rfl (pc0 := 10) (pc' := 17) rfl (hb hby own_d1_10) rfl (Jvm.Free.XT.ii_ne_t hc10) (by decide) (by decide) k) ?_
      show own_Fin p.tables e below G (s₁.setTop (mkF m 17 #[.val (.int p1)] []))
      refine own_go (fun _ k => XS.iloadN X0.here hx rfl (hb hby own_d1_17) rfl k) ?_
      show own_Fin p.tables e below G (s₁.setTop (mkF m 18 #[.val (.int p1)] [(.int p1)]))
      refine own_go (fun _ k => XS.iconst X0.here hx rfl (hb hby own_d1_18)  k) ?_
      show own_Fin p.tables e below G (s₁.setTop (mkF m 19 #[.val (.int p1)] [(.int (2 : Int32)), (.int p1)]))
      by_cases hc19 : p1 = (2 : Int32)
      · refine own_go (fun _ k => XS.icmpNo X0.here hx rfl (hb hby own_d1_19) rfl (Jvm.Free.XT.ii_ne_f hc19) k) ?_
        show own_Fin p.tables e below G (s₁.setTop (mkF m 22 #[.val (.int p1)] []))
        obtain ⟨T7, X7, e7, st7⟩ := getS2 X0 hx hZ hown (host := "") (Or.inl (own_at hw 26 rfl)) Via.refl e0 S2 (g := (mkF m 22 #[.val (.int p1)] [])) rfl (hb hby own_d1_22)
        refine own_go st7 ?_
        show own_Fin p.tables e below G (T7.setTop (mkF m 25 #[.val (.int p1)] [(.ref o2)]))
        subst hG
        exact own_rv X7 hx (t := (.object "com/example/typelattice/typelattice/Occurrence")) Bd.returns rfl (Or.inr (Or.inr (Or.inr (Or.inr ⟨rfl, rfl, rfl⟩)))) (hb hby own_d1_25) Bd.notSynchronized (by decide) (by decide) ⟨by simp [own_pick, hc1, hc10, hc19], N0, e7⟩
      · refine own_go (fun _ k => XS.icmpYes X0.here hx rfl (pc0 := 19) (pc' := 26) rfl (hb hby own_d1_19) rfl (Jvm.Free.XT.ii_ne_t hc19) (by decide) (by decide) k) ?_
        show own_Fin p.tables e below G (s₁.setTop (mkF m 26 #[.val (.int p1)] []))
        refine own_go (fun _ k => XS.iloadN X0.here hx rfl (hb hby own_d1_26) rfl k) ?_
        show own_Fin p.tables e below G (s₁.setTop (mkF m 27 #[.val (.int p1)] [(.int p1)]))
        refine own_go (fun _ k => XS.iconst X0.here hx rfl (hb hby own_d1_27)  k) ?_
        show own_Fin p.tables e below G (s₁.setTop (mkF m 28 #[.val (.int p1)] [(.int (3 : Int32)), (.int p1)]))
        by_cases hc28 : p1 = (3 : Int32)
        · refine own_go (fun _ k => XS.icmpNo X0.here hx rfl (hb hby own_d1_28) rfl (Jvm.Free.XT.ii_ne_f hc28) k) ?_
          show own_Fin p.tables e below G (s₁.setTop (mkF m 31 #[.val (.int p1)] []))
          obtain ⟨T8, X8, e8, st8⟩ := getS2 X0 hx hZ hown (host := "") (Or.inl (own_at hw 8 rfl)) Via.refl e0 S3 (g := (mkF m 31 #[.val (.int p1)] [])) rfl (hb hby own_d1_31)
          refine own_go st8 ?_
          show own_Fin p.tables e below G (T8.setTop (mkF m 34 #[.val (.int p1)] [(.ref o3)]))
          subst hG
          exact own_rv X8 hx (t := (.object "com/example/typelattice/typelattice/Occurrence")) Bd.returns rfl (Or.inr (Or.inr (Or.inr (Or.inr ⟨rfl, rfl, rfl⟩)))) (hb hby own_d1_34) Bd.notSynchronized (by decide) (by decide) ⟨by simp [own_pick, hc1, hc10, hc19, hc28], N0, e8⟩
        · refine own_go (fun _ k => XS.icmpYes X0.here hx rfl (pc0 := 28) (pc' := 35) rfl (hb hby own_d1_28) rfl (Jvm.Free.XT.ii_ne_t hc28) (by decide) (by decide) k) ?_
          show own_Fin p.tables e below G (s₁.setTop (mkF m 35 #[.val (.int p1)] []))
          obtain ⟨T9, X9, e9, st9⟩ := getS2 X0 hx hZ hown (host := "") (Or.inl (own_at hw 22 rfl)) Via.refl e0 S4 (g := (mkF m 35 #[.val (.int p1)] [])) rfl (hb hby own_d1_35)
          refine own_go st9 ?_
          show own_Fin p.tables e below G (T9.setTop (mkF m 38 #[.val (.int p1)] [(.ref o4)]))
          subst hG
          exact own_rv X9 hx (t := (.object "com/example/typelattice/typelattice/Occurrence")) Bd.returns rfl (Or.inr (Or.inr (Or.inr (Or.inr ⟨rfl, rfl, rfl⟩)))) (hb hby own_d1_38) Bd.notSynchronized (by decide) (by decide) ⟨by simp [own_pick, hc1, hc10, hc19, hc28], N0, e9⟩
theorem own_ef_own_cn (m : MethodId) (p1 : Int32)  : entryFrame m #[(.int p1)] 1 = (mkF m 0 #[.val (.int p1)] []) := by first | (simp [entryFrame, mkF, argsToLocals, Value.category]; done) | rfl
theorem own_d2_0 : decode method_3_code 0 = .ok (.iload_n 0, 1) := by decide +kernel
theorem own_d2_1 : decode method_3_code 1 = .ok (.ifCond .ne 5, 3) := by decide +kernel
theorem own_d2_4 : decode method_3_code 4 = .ok (.iconst 1, 1) := by decide +kernel
theorem own_d2_5 : decode method_3_code 5 = .ok (.ireturn, 1) := by decide +kernel
theorem own_d2_6 : decode method_3_code 6 = .ok (.iload_n 0, 1) := by decide +kernel
theorem own_d2_7 : decode method_3_code 7 = .ok (.iconst 1, 1) := by decide +kernel
theorem own_d2_8 : decode method_3_code 8 = .ok (.if_icmp .ne 5, 3) := by decide +kernel
theorem own_d2_11 : decode method_3_code 11 = .ok (.iconst 2, 1) := by decide +kernel
theorem own_d2_12 : decode method_3_code 12 = .ok (.ireturn, 1) := by decide +kernel
theorem own_d2_13 : decode method_3_code 13 = .ok (.iload_n 0, 1) := by decide +kernel
theorem own_d2_14 : decode method_3_code 14 = .ok (.iconst 2, 1) := by decide +kernel
theorem own_d2_15 : decode method_3_code 15 = .ok (.if_icmp .ne 5, 3) := by decide +kernel
theorem own_d2_18 : decode method_3_code 18 = .ok (.iconst 3, 1) := by decide +kernel
theorem own_d2_19 : decode method_3_code 19 = .ok (.ireturn, 1) := by decide +kernel
theorem own_d2_20 : decode method_3_code 20 = .ok (.iload_n 0, 1) := by decide +kernel
theorem own_d2_21 : decode method_3_code 21 = .ok (.iconst 3, 1) := by decide +kernel
theorem own_d2_22 : decode method_3_code 22 = .ok (.if_icmp .ne 6, 3) := by decide +kernel
theorem own_d2_25 : decode method_3_code 25 = .ok (.bipush 7, 2) := by decide +kernel
theorem own_d2_27 : decode method_3_code 27 = .ok (.ireturn, 1) := by decide +kernel
theorem own_d2_28 : decode method_3_code 28 = .ok (.bipush 6, 2) := by decide +kernel
theorem own_d2_30 : decode method_3_code 30 = .ok (.ireturn, 1) := by decide +kernel
def own_Q_own_cn (Z : State) (p1 : Int32) (h0 : Heap) (n0 : Nat) (v : Option Value) (h : Heap) (L : List Loc) : Prop := v = some (.int (own_counts p1)) ∧ Fr n0 L ∧ h = h0
set_option maxRecDepth 65536 in
set_option maxHeartbeats 40000000 in
theorem own_cn (l : Launch) (Z : State) (a0 : Array Value) (hw : ∀ d ∈ tables_1, d.before a0 Z = true) (ws : List Jvm.Cond) (p1 : Int32) (h0 : Heap) (n0 : Nat) (O0 : Old Z n0 h0) :
    MetFree l (⟨"com/example/typelattice/typelattice/OccurrenceLiesWithinPinLaw", "counts", "(I)I"⟩ : MethodName) (head1 (Jvm.Cond.code (⟨"com/example/typelattice/typelattice/OccurrenceLiesWithinPinLaw", "counts", "(I)I"⟩ : MethodName) method_3_code 1 (some .int) :: ws) ({ frames := 0, cells := 0, slots := 0, locals := 0 } : Room)) (fun a U => a = #[(.int p1)] ∧ Z.Warmed39 U.vm ∧ U.heap = h0) (fun _ _ _ _ _ => True) (fun _ U o U' => ∃ v L, o = .returned v ∧ own_Q_own_cn Z p1 h0 n0 v U'.heap L ∧ FrameEnd U o U' L ({ frames := 0, cells := 0, slots := 0, locals := 0 } : Room).cells ({ frames := 0, cells := 0, slots := 0, locals := 0 } : Room).slots) := by
  refine MetFree.of_bodySF (plainFor_of_name own_pn1) hisR ?_
  intro p e s m args below meth c s₁ Bd hml0 hP hK
  obtain ⟨rfl, hZ, hh⟩ := hP
  have hx := Bd.exec
  have hby := Bd.bytes
  have hml : c.maxLocals = 1 := hml0
  have hown : s.vm.findClass "com/example/typelattice/typelattice/OccurrenceLiesWithinPinLaw" = some m.cls := findClass_of_methodNamed Bd.named
  have hnm := (name_of_methodNamed Bd.named Bd.method).1
  have X0 : Stand p l e ({ frames := 0, cells := 0, slots := 0, locals := 0 } : Room) s m #[(.int p1)] below meth c s₁ [] 0 0 := Stand.of_body Bd
  have e0 : s₁.heap = h0 := by rw [← hh, Bd.state]; rfl
  have N0 := Fr.nil n0
  show own_Fin p.tables e below (fun s₂ o => ∃ v L, o = .returned v ∧ own_Q_own_cn Z p1 h0 n0 v s₂.heap L ∧ FrameEnd s o s₂ L ({ frames := 0, cells := 0, slots := 0, locals := 0 } : Room).cells ({ frames := 0, cells := 0, slots := 0, locals := 0 } : Room).slots) _
  generalize hG : (fun (s₂ : State) (o : Outcome) => ∃ v L, o = Outcome.returned v ∧ own_Q_own_cn Z p1 h0 n0 v s₂.heap L ∧ FrameEnd s o s₂ L ({ frames := 0, cells := 0, slots := 0, locals := 0 } : Room).cells ({ frames := 0, cells := 0, slots := 0, locals := 0 } : Room).slots) = G
  refine own_go (fun _ k => castTop (own_ef_own_cn m p1) k) ?_
  show own_Fin p.tables e below G (s₁.setTop (mkF m 0 #[.val (.int p1)] []))
  refine own_go (fun _ k => XS.iloadN X0.here hx rfl (hb hby own_d2_0) rfl k) ?_
  show own_Fin p.tables e below G (s₁.setTop (mkF m 1 #[.val (.int p1)] [(.int p1)]))
  by_cases hc1 : p1 = 0
  · refine own_go (fun _ k => XS.ifNo X0.here hx rfl (hb hby own_d2_1) rfl (Jvm.Free.XT.i0_ne_f hc1) k) ?_
    show own_Fin p.tables e below G (s₁.setTop (mkF m 4 #[.val (.int p1)] []))
    refine own_go (fun _ k => XS.iconst X0.here hx rfl (hb hby own_d2_4)  k) ?_
    show own_Fin p.tables e below G (s₁.setTop (mkF m 5 #[.val (.int p1)] [(.int (1 : Int32))]))
    subst hG
    exact own_rv X0 hx (t := .int) Bd.returns rfl (Or.inl ⟨rfl, Or.inl rfl, _, rfl⟩) (hb hby own_d2_5) Bd.notSynchronized (by decide) (by decide) ⟨by simp [own_counts, hc1], N0, e0⟩
  · refine own_go (fun _ k => XS.ifYes X0.here hx rfl (pc0 := 1) (pc' := 6) rfl (hb hby own_d2_1) rfl (Jvm.Free.XT.i0_ne_t hc1) (by decide) (by decide) k) ?_
    show own_Fin p.tables e below G (s₁.setTop (mkF m 6 #[.val (.int p1)] []))
    refine own_go (fun _ k => XS.iloadN X0.here hx rfl (hb hby own_d2_6) rfl k) ?_
    show own_Fin p.tables e below G (s₁.setTop (mkF m 7 #[.val (.int p1)] [(.int p1)]))
    refine own_go (fun _ k => XS.iconst X0.here hx rfl (hb hby own_d2_7)  k) ?_
    show own_Fin p.tables e below G (s₁.setTop (mkF m 8 #[.val (.int p1)] [(.int (1 : Int32)), (.int p1)]))
    by_cases hc8 : p1 = (1 : Int32)
    · refine own_go (fun _ k => XS.icmpNo X0.here hx rfl (hb hby own_d2_8) rfl (Jvm.Free.XT.ii_ne_f hc8) k) ?_
      show own_Fin p.tables e below G (s₁.setTop (mkF m 11 #[.val (.int p1)] []))
      refine own_go (fun _ k => XS.iconst X0.here hx rfl (hb hby own_d2_11)  k) ?_
      show own_Fin p.tables e below G (s₁.setTop (mkF m 12 #[.val (.int p1)] [(.int (2 : Int32))]))
      subst hG
      exact own_rv X0 hx (t := .int) Bd.returns rfl (Or.inl ⟨rfl, Or.inl rfl, _, rfl⟩) (hb hby own_d2_12) Bd.notSynchronized (by decide) (by decide) ⟨by simp [own_counts, hc1, hc8], N0, e0⟩
    · refine own_go (fun _ k => XS.icmpYes X0.here hx rfl (pc0 := 8) (pc' := 13) rfl (hb hby own_d2_8) rfl (Jvm.Free.XT.ii_ne_t hc8) (by decide) (by decide) k) ?_
      show own_Fin p.tables e below G (s₁.setTop (mkF m 13 #[.val (.int p1)] []))
      refine own_go (fun _ k => XS.iloadN X0.here hx rfl (hb hby own_d2_13) rfl k) ?_
      show own_Fin p.tables e below G (s₁.setTop (mkF m 14 #[.val (.int p1)] [(.int p1)]))
      refine own_go (fun _ k => XS.iconst X0.here hx rfl (hb hby own_d2_14)  k) ?_
      show own_Fin p.tables e below G (s₁.setTop (mkF m 15 #[.val (.int p1)] [(.int (2 : Int32)), (.int p1)]))
      by_cases hc15 : p1 = (2 : Int32)
      · refine own_go (fun _ k => XS.icmpNo X0.here hx rfl (hb hby own_d2_15) rfl (Jvm.Free.XT.ii_ne_f hc15) k) ?_
        show own_Fin p.tables e below G (s₁.setTop (mkF m 18 #[.val (.int p1)] []))
        refine own_go (fun _ k => XS.iconst X0.here hx rfl (hb hby own_d2_18)  k) ?_
        show own_Fin p.tables e below G (s₁.setTop (mkF m 19 #[.val (.int p1)] [(.int (3 : Int32))]))
        subst hG
        exact own_rv X0 hx (t := .int) Bd.returns rfl (Or.inl ⟨rfl, Or.inl rfl, _, rfl⟩) (hb hby own_d2_19) Bd.notSynchronized (by decide) (by decide) ⟨by simp [own_counts, hc1, hc8, hc15], N0, e0⟩
      · refine own_go (fun _ k => XS.icmpYes X0.here hx rfl (pc0 := 15) (pc' := 20) rfl (hb hby own_d2_15) rfl (Jvm.Free.XT.ii_ne_t hc15) (by decide) (by decide) k) ?_
        show own_Fin p.tables e below G (s₁.setTop (mkF m 20 #[.val (.int p1)] []))
        refine own_go (fun _ k => XS.iloadN X0.here hx rfl (hb hby own_d2_20) rfl k) ?_
        show own_Fin p.tables e below G (s₁.setTop (mkF m 21 #[.val (.int p1)] [(.int p1)]))
        refine own_go (fun _ k => XS.iconst X0.here hx rfl (hb hby own_d2_21)  k) ?_
        show own_Fin p.tables e below G (s₁.setTop (mkF m 22 #[.val (.int p1)] [(.int (3 : Int32)), (.int p1)]))
        by_cases hc22 : p1 = (3 : Int32)
        · refine own_go (fun _ k => XS.icmpNo X0.here hx rfl (hb hby own_d2_22) rfl (Jvm.Free.XT.ii_ne_f hc22) k) ?_
          show own_Fin p.tables e below G (s₁.setTop (mkF m 25 #[.val (.int p1)] []))
          refine own_go (fun _ k => XS.bipush X0.here hx rfl (hb hby own_d2_25)  k) ?_
          show own_Fin p.tables e below G (s₁.setTop (mkF m 27 #[.val (.int p1)] [(.int (7 : Int32))]))
          subst hG
          exact own_rv X0 hx (t := .int) Bd.returns rfl (Or.inl ⟨rfl, Or.inl rfl, _, rfl⟩) (hb hby own_d2_27) Bd.notSynchronized (by decide) (by decide) ⟨by simp [own_counts, hc1, hc8, hc15, hc22], N0, e0⟩
        · refine own_go (fun _ k => XS.icmpYes X0.here hx rfl (pc0 := 22) (pc' := 28) rfl (hb hby own_d2_22) rfl (Jvm.Free.XT.ii_ne_t hc22) (by decide) (by decide) k) ?_
          show own_Fin p.tables e below G (s₁.setTop (mkF m 28 #[.val (.int p1)] []))
          refine own_go (fun _ k => XS.bipush X0.here hx rfl (hb hby own_d2_28)  k) ?_
          show own_Fin p.tables e below G (s₁.setTop (mkF m 30 #[.val (.int p1)] [(.int (6 : Int32))]))
          subst hG
          exact own_rv X0 hx (t := .int) Bd.returns rfl (Or.inl ⟨rfl, Or.inl rfl, _, rfl⟩) (hb hby own_d2_30) Bd.notSynchronized (by decide) (by decide) ⟨by simp [own_counts, hc1, hc8, hc15, hc22], N0, e0⟩
theorem own_ef_own_law (m : MethodId) (p1 : Int32) (p2 : Int32)  : entryFrame m #[(.int p1), (.int p2)] maxLocals = (mkF m 0 #[.val (.int p1), .val (.int p2), .unset, .unset, .unset, .unset, .unset] []) := by first | (simp [entryFrame, mkF, argsToLocals, Value.category, maxLocals]; done) | rfl
theorem own_pd0 : parseMethodDescriptor "(I)Lcom/example/typelattice/typelattice/Occurrence;" = some ⟨[.int], some (.object "com/example/typelattice/typelattice/Occurrence")⟩ := by decide +kernel
theorem own_pd1 : parseMethodDescriptor "(I)I" = some ⟨[.int], some .int⟩ := by decide +kernel
theorem own_pd2 : parseMethodDescriptor "(Lcom/example/typelattice/typelattice/Occurrence;)Z" = some ⟨[(.object "com/example/typelattice/typelattice/Occurrence")], some .boolean⟩ := by decide +kernel
def own_Q_own_law (Z : State) (p1 : Int32) (p2 : Int32) (o0 : Addr) (o1 : Addr) (o2 : Addr) (o3 : Addr) (o4 : Addr) (h0 : Heap) (n0 : Nat) (v : Option Value) (h : Heap) (L : List Loc) : Prop := v = some (.int (1 : Int32)) ∧ Fr n0 L
set_option maxRecDepth 65536 in
set_option maxHeartbeats 40000000 in
theorem own_law (l : Launch) (Z : State) (a0 : Array Value) (hw : ∀ d ∈ tables_1, d.before a0 Z = true) (ws : List Jvm.Cond) (p1 : Int32) (p2 : Int32) (o0 : Addr) (o1 : Addr) (o2 : Addr) (o3 : Addr) (o4 : Addr) (h0 : Heap) (n0 : Nat) (O0 : Old Z n0 h0) (S0 : Sta Z h0 "com/example/typelattice/typelattice/Occurrence" "EMPTY" "Lcom/example/typelattice/typelattice/Occurrence;" (.ref o0)) (S1 : Sta Z h0 "com/example/typelattice/typelattice/Occurrence" "EXACTLY_ONE" "Lcom/example/typelattice/typelattice/Occurrence;" (.ref o1)) (S2 : Sta Z h0 "com/example/typelattice/typelattice/Occurrence" "ZERO_OR_ONE" "Lcom/example/typelattice/typelattice/Occurrence;" (.ref o2)) (S3 : Sta Z h0 "com/example/typelattice/typelattice/Occurrence" "ZERO_OR_MORE" "Lcom/example/typelattice/typelattice/Occurrence;" (.ref o3)) (S4 : Sta Z h0 "com/example/typelattice/typelattice/Occurrence" "ONE_OR_MORE" "Lcom/example/typelattice/typelattice/Occurrence;" (.ref o4)) (E0 : Exa Z h0 o0 "com/example/typelattice/typelattice/Occurrence") (Fm0 : Fld Z h0 o0 "com/example/typelattice/typelattice/Occurrence" "min" "I" (.int (0 : Int32))) (Fx0 : Fld Z h0 o0 "com/example/typelattice/typelattice/Occurrence" "max" "I" (.int (0 : Int32))) (E1 : Exa Z h0 o1 "com/example/typelattice/typelattice/Occurrence") (Fm1 : Fld Z h0 o1 "com/example/typelattice/typelattice/Occurrence" "min" "I" (.int (1 : Int32))) (Fx1 : Fld Z h0 o1 "com/example/typelattice/typelattice/Occurrence" "max" "I" (.int (1 : Int32))) (E2 : Exa Z h0 o2 "com/example/typelattice/typelattice/Occurrence") (Fm2 : Fld Z h0 o2 "com/example/typelattice/typelattice/Occurrence" "min" "I" (.int (0 : Int32))) (Fx2 : Fld Z h0 o2 "com/example/typelattice/typelattice/Occurrence" "max" "I" (.int (1 : Int32))) (E3 : Exa Z h0 o3 "com/example/typelattice/typelattice/Occurrence") (Fm3 : Fld Z h0 o3 "com/example/typelattice/typelattice/Occurrence" "min" "I" (.int (0 : Int32))) (Fx3 : Fld Z h0 o3 "com/example/typelattice/typelattice/Occurrence" "max" "I" (.int (2147483647 : Int32))) (E4 : Exa Z h0 o4 "com/example/typelattice/typelattice/Occurrence") (Fm4 : Fld Z h0 o4 "com/example/typelattice/typelattice/Occurrence" "min" "I" (.int (1 : Int32))) (Fx4 : Fld Z h0 o4 "com/example/typelattice/typelattice/Occurrence" "max" "I" (.int (2147483647 : Int32))) :
    MetFree l x (head1 (Jvm.Cond.code x code maxLocals ret :: ws) room_1) (fun a U => a = #[(.int p1), (.int p2)] ∧ Z.Warmed39 U.vm ∧ U.heap = h0) (fun _ _ _ _ _ => True) (fun _ U o U' => ∃ v L, o = .returned v ∧ own_Q_own_law Z p1 p2 o0 o1 o2 o3 o4 h0 n0 v U'.heap L ∧ FrameEnd U o U' L room_1.cells room_1.slots) := by
  refine MetFree.of_bodySF (plainFor_of_name own_pn1) hisR ?_
  intro p e s m args below meth c s₁ Bd hml0 hP hK
  obtain ⟨rfl, hZ, hh⟩ := hP
  have hx := Bd.exec
  have hby := Bd.bytes
  have hml : c.maxLocals = 7 := hml0
  have hown : s.vm.findClass "com/example/typelattice/typelattice/OccurrenceLiesWithinPinLaw" = some m.cls := findClass_of_methodNamed Bd.named
  have hnm := (name_of_methodNamed Bd.named Bd.method).1
  have X0 : Stand p l e room_1 s m #[(.int p1), (.int p2)] below meth c s₁ [] 0 0 := Stand.of_body Bd
  have e0 : s₁.heap = h0 := by rw [← hh, Bd.state]; rfl
  have N0 := Fr.nil n0
  show own_Fin p.tables e below (fun s₂ o => ∃ v L, o = .returned v ∧ own_Q_own_law Z p1 p2 o0 o1 o2 o3 o4 h0 n0 v s₂.heap L ∧ FrameEnd s o s₂ L room_1.cells room_1.slots) _
  generalize hG : (fun (s₂ : State) (o : Outcome) => ∃ v L, o = Outcome.returned v ∧ own_Q_own_law Z p1 p2 o0 o1 o2 o3 o4 h0 n0 v s₂.heap L ∧ FrameEnd s o s₂ L room_1.cells room_1.slots) = G
  refine own_go (fun _ k => castTop (own_ef_own_law m p1 p2) k) ?_
  show own_Fin p.tables e below G (s₁.setTop (mkF m 0 #[.val (.int p1), .val (.int p2), .unset, .unset, .unset, .unset, .unset] []))
  refine own_go (fun _ k => XS.iloadN X0.here hx rfl (hb hby at_0) rfl k) ?_
  show own_Fin p.tables e below G (s₁.setTop (mkF m 1 #[.val (.int p1), .val (.int p2), .unset, .unset, .unset, .unset, .unset] [(.int p1)]))
  refine own_go (fun _ k => X0.ldcInt hx hown (mvT hZ (own_at hw 0 rfl)) (g := (mkF m 1 #[.val (.int p1), .val (.int p2), .unset, .unset, .unset, .unset, .unset] [(.int p1)])) rfl (hb hby at_1) _ k) ?_
  show own_Fin p.tables e below G (s₁.setTop (mkF m 3 #[.val (.int p1), .val (.int p2), .unset, .unset, .unset, .unset, .unset] [(.int (2147483647 : Int32)), (.int p1)]))
  refine own_go (fun _ k => XS.iand X0.here hx rfl (hb hby at_3) rfl k) ?_
  show own_Fin p.tables e below G (s₁.setTop (mkF m 4 #[.val (.int p1), .val (.int p2), .unset, .unset, .unset, .unset, .unset] [(.int (p1 &&& (2147483647 : Int32)))]))
  refine own_go (fun _ k => XS.iconst X0.here hx rfl (hb hby at_4)  k) ?_
  show own_Fin p.tables e below G (s₁.setTop (mkF m 5 #[.val (.int p1), .val (.int p2), .unset, .unset, .unset, .unset, .unset] [(.int (5 : Int32)), (.int (p1 &&& (2147483647 : Int32)))]))
  refine own_go (fun _ k => iremM X0 hx rfl (hb hby at_5) rfl (by decide) k) ?_
  show own_Fin p.tables e below G (s₁.setTop (mkF m 6 #[.val (.int p1), .val (.int p2), .unset, .unset, .unset, .unset, .unset] [(.int ((p1 &&& (2147483647 : Int32)) % (5 : Int32)))]))
  generalize ((p1 &&& (2147483647 : Int32)) % (5 : Int32)) = i
  refine own_go (fun _ k => XS.istoreN X0.here hx rfl (hb hby at_6) rfl (l' := #[.val (.int p1), .val (.int p2), .val (.int i), .unset, .unset, .unset, .unset]) rfl k) ?_
  show own_Fin p.tables e below G (s₁.setTop (mkF m 7 #[.val (.int p1), .val (.int p2), .val (.int i), .unset, .unset, .unset, .unset] []))
  refine own_go (fun _ k => XS.iloadN X0.here hx rfl (hb hby at_7) rfl k) ?_
  show own_Fin p.tables e below G (s₁.setTop (mkF m 8 #[.val (.int p1), .val (.int p2), .val (.int i), .unset, .unset, .unset, .unset] [(.int p2)]))
  refine own_go (fun _ k => X0.ldcInt hx hown (mvT hZ (own_at hw 0 rfl)) (g := (mkF m 8 #[.val (.int p1), .val (.int p2), .val (.int i), .unset, .unset, .unset, .unset] [(.int p2)])) rfl (hb hby at_8) _ k) ?_
  show own_Fin p.tables e below G (s₁.setTop (mkF m 10 #[.val (.int p1), .val (.int p2), .val (.int i), .unset, .unset, .unset, .unset] [(.int (2147483647 : Int32)), (.int p2)]))
  refine own_go (fun _ k => XS.iand X0.here hx rfl (hb hby at_10) rfl k) ?_
  show own_Fin p.tables e below G (s₁.setTop (mkF m 11 #[.val (.int p1), .val (.int p2), .val (.int i), .unset, .unset, .unset, .unset] [(.int (p2 &&& (2147483647 : Int32)))]))
  refine own_go (fun _ k => XS.iconst X0.here hx rfl (hb hby at_11)  k) ?_
  show own_Fin p.tables e below G (s₁.setTop (mkF m 12 #[.val (.int p1), .val (.int p2), .val (.int i), .unset, .unset, .unset, .unset] [(.int (5 : Int32)), (.int (p2 &&& (2147483647 : Int32)))]))
  refine own_go (fun _ k => iremM X0 hx rfl (hb hby at_12) rfl (by decide) k) ?_
  show own_Fin p.tables e below G (s₁.setTop (mkF m 13 #[.val (.int p1), .val (.int p2), .val (.int i), .unset, .unset, .unset, .unset] [(.int ((p2 &&& (2147483647 : Int32)) % (5 : Int32)))]))
  generalize ((p2 &&& (2147483647 : Int32)) % (5 : Int32)) = j
  refine own_go (fun _ k => XS.istoreN X0.here hx rfl (hb hby at_13) rfl (l' := #[.val (.int p1), .val (.int p2), .val (.int i), .val (.int j), .unset, .unset, .unset]) rfl k) ?_
  show own_Fin p.tables e below G (s₁.setTop (mkF m 14 #[.val (.int p1), .val (.int p2), .val (.int i), .val (.int j), .unset, .unset, .unset] []))
  refine own_go (fun _ k => XS.iloadN X0.here hx rfl (hb hby at_14) rfl k) ?_
  show own_Fin p.tables e below G (s₁.setTop (mkF m 15 #[.val (.int p1), .val (.int p2), .val (.int i), .val (.int j), .unset, .unset, .unset] [(.int i)]))
  obtain ⟨_, _, ⟨T10, L10, k10, n10⟩, -, X10, ⟨Lc10, hQ10, l10, y10, z10⟩, st10⟩ := Jvm.LawKit.callS X0 hx (y := (⟨"com/example/typelattice/typelattice/OccurrenceLiesWithinPinLaw", "pick", "(I)Lcom/example/typelattice/typelattice/Occurrence;"⟩ : MethodName)) hown (mvT hZ (own_at hw 1 rfl)) (mvT hZ (own_at hw 2 rfl)) (mvT hZ (own_at hw 3 rfl)) (mvT hZ (own_at hw 4 rfl)) (by decide) (backOf (W := 0) (own_pk l Z a0 hw [] i o0 o1 o2 o3 o4 h0 n0 O0 S0 S1 S2 S3 S4) hZ (own_at hw 4 rfl) (own_at hw 3 rfl) (by decide) (by decide)) (g := (mkF m 15 #[.val (.int p1), .val (.int p2), .val (.int i), .val (.int j), .unset, .unset, .unset] [(.int i)])) rfl (by rw [hml]; rfl) (argsL := [(.int i)]) (rest := []) (lenOf own_pd0 rfl) rfl (by show 2 * 0 + _ ≤ _; exact Nat.le_of_eq rfl) (hb hby at_15) (fun _ _ => ⟨rfl, e0, (by decide : 0 + 0 ≤ _), (by decide : 0 + 0 ≤ _)⟩)
  dsimp only [Pt.U, Pt.locs, Pt.cells, Pt.slots] at X10 l10 y10 z10 st10 hQ10
  subst l10 y10 z10
  obtain ⟨rfl, N10q, e10⟩ := hQ10
  have N10 := Fr.app N0 N10q
  refine own_go st10 ?_
  show own_Fin p.tables e below G (T10.setTop (mkF m 18 #[.val (.int p1), .val (.int p2), .val (.int i), .val (.int j), .unset, .unset, .unset] [(.ref (own_pick o0 o1 o2 o3 o4 i))]))
  refine own_go (fun _ k => XS.astore X10.here hx rfl (hb hby at_18) rfl rfl (l' := #[.val (.int p1), .val (.int p2), .val (.int i), .val (.int j), .val (.ref (own_pick o0 o1 o2 o3 o4 i)), .unset, .unset]) rfl k) ?_
  show own_Fin p.tables e below G (T10.setTop (mkF m 20 #[.val (.int p1), .val (.int p2), .val (.int i), .val (.int j), .val (.ref (own_pick o0 o1 o2 o3 o4 i)), .unset, .unset] []))
  refine own_go (fun _ k => XS.iloadN X10.here hx rfl (hb hby at_20) rfl k) ?_
  show own_Fin p.tables e below G (T10.setTop (mkF m 21 #[.val (.int p1), .val (.int p2), .val (.int i), .val (.int j), .val (.ref (own_pick o0 o1 o2 o3 o4 i)), .unset, .unset] [(.int j)]))
  obtain ⟨_, _, ⟨T11, L11, k11, n11⟩, -, X11, ⟨Lc11, hQ11, l11, y11, z11⟩, st11⟩ := Jvm.LawKit.callS X10 hx (y := (⟨"com/example/typelattice/typelattice/OccurrenceLiesWithinPinLaw", "pick", "(I)Lcom/example/typelattice/typelattice/Occurrence;"⟩ : MethodName)) hown (mvT hZ (own_at hw 1 rfl)) (mvT hZ (own_at hw 2 rfl)) (mvT hZ (own_at hw 3 rfl)) (mvT hZ (own_at hw 4 rfl)) (by decide) (backOf (W := 0) (own_pk l Z a0 hw [] j o0 o1 o2 o3 o4 h0 n0 O0 S0 S1 S2 S3 S4) hZ (own_at hw 4 rfl) (own_at hw 3 rfl) (by decide) (by decide)) (g := (mkF m 21 #[.val (.int p1), .val (.int p2), .val (.int i), .val (.int j), .val (.ref (own_pick o0 o1 o2 o3 o4 i)), .unset, .unset] [(.int j)])) rfl (by rw [hml]; rfl) (argsL := [(.int j)]) (rest := []) (lenOf own_pd0 rfl) rfl (by show 2 * 0 + _ ≤ _; exact Nat.le_of_eq rfl) (hb hby at_21) (fun _ _ => ⟨rfl, e10, (by decide : 0 + 0 ≤ _), (by decide : 0 + 0 ≤ _)⟩)
  dsimp only [Pt.U, Pt.locs, Pt.cells, Pt.slots] at X11 l11 y11 z11 st11 hQ11
  subst l11 y11 z11
  obtain ⟨rfl, N11q, e11⟩ := hQ11
  have N11 := Fr.app N10 N11q
  refine own_go st11 ?_
  show own_Fin p.tables e below G (T11.setTop (mkF m 24 #[.val (.int p1), .val (.int p2), .val (.int i), .val (.int j), .val (.ref (own_pick o0 o1 o2 o3 o4 i)), .unset, .unset] [(.ref (own_pick o0 o1 o2 o3 o4 j))]))
  refine own_go (fun _ k => XS.astore X11.here hx rfl (hb hby at_24) rfl rfl (l' := #[.val (.int p1), .val (.int p2), .val (.int i), .val (.int j), .val (.ref (own_pick o0 o1 o2 o3 o4 i)), .val (.ref (own_pick o0 o1 o2 o3 o4 j)), .unset]) rfl k) ?_
  show own_Fin p.tables e below G (T11.setTop (mkF m 26 #[.val (.int p1), .val (.int p2), .val (.int i), .val (.int j), .val (.ref (own_pick o0 o1 o2 o3 o4 i)), .val (.ref (own_pick o0 o1 o2 o3 o4 j)), .unset] []))
  refine own_go (fun _ k => XS.iloadN X11.here hx rfl (hb hby at_26) rfl k) ?_
  show own_Fin p.tables e below G (T11.setTop (mkF m 27 #[.val (.int p1), .val (.int p2), .val (.int i), .val (.int j), .val (.ref (own_pick o0 o1 o2 o3 o4 i)), .val (.ref (own_pick o0 o1 o2 o3 o4 j)), .unset] [(.int i)]))
  obtain ⟨_, _, ⟨T12, L12, k12, n12⟩, -, X12, ⟨Lc12, hQ12, l12, y12, z12⟩, st12⟩ := Jvm.LawKit.callS X11 hx (y := (⟨"com/example/typelattice/typelattice/OccurrenceLiesWithinPinLaw", "counts", "(I)I"⟩ : MethodName)) hown (mvT hZ (own_at hw 10 rfl)) (mvT hZ (own_at hw 11 rfl)) (mvT hZ (own_at hw 3 rfl)) (mvT hZ (own_at hw 12 rfl)) (by decide) (backOf (W := 0) (own_cn l Z a0 hw [] i h0 n0 O0) hZ (own_at hw 12 rfl) (own_at hw 3 rfl) (by decide) (by decide)) (g := (mkF m 27 #[.val (.int p1), .val (.int p2), .val (.int i), .val (.int j), .val (.ref (own_pick o0 o1 o2 o3 o4 i)), .val (.ref (own_pick o0 o1 o2 o3 o4 j)), .unset] [(.int i)])) rfl (by rw [hml]; rfl) (argsL := [(.int i)]) (rest := []) (lenOf own_pd1 rfl) rfl (by show 2 * 0 + _ ≤ _; exact Nat.le_of_eq rfl) (hb hby at_27) (fun _ _ => ⟨rfl, e11, (by decide : 0 + 0 ≤ _), (by decide : 0 + 0 ≤ _)⟩)
  dsimp only [Pt.U, Pt.locs, Pt.cells, Pt.slots] at X12 l12 y12 z12 st12 hQ12
  subst l12 y12 z12
  obtain ⟨rfl, N12q, e12⟩ := hQ12
  have N12 := Fr.app N11 N12q
  refine own_go st12 ?_
  show own_Fin p.tables e below G (T12.setTop (mkF m 30 #[.val (.int p1), .val (.int p2), .val (.int i), .val (.int j), .val (.ref (own_pick o0 o1 o2 o3 o4 i)), .val (.ref (own_pick o0 o1 o2 o3 o4 j)), .unset] [(.int (own_counts i))]))
  refine own_go (fun _ k => XS.iloadN X12.here hx rfl (hb hby at_30) rfl k) ?_
  show own_Fin p.tables e below G (T12.setTop (mkF m 31 #[.val (.int p1), .val (.int p2), .val (.int i), .val (.int j), .val (.ref (own_pick o0 o1 o2 o3 o4 i)), .val (.ref (own_pick o0 o1 o2 o3 o4 j)), .unset] [(.int j), (.int (own_counts i))]))
  obtain ⟨_, _, ⟨T13, L13, k13, n13⟩, -, X13, ⟨Lc13, hQ13, l13, y13, z13⟩, st13⟩ := Jvm.LawKit.callS X12 hx (y := (⟨"com/example/typelattice/typelattice/OccurrenceLiesWithinPinLaw", "counts", "(I)I"⟩ : MethodName)) hown (mvT hZ (own_at hw 10 rfl)) (mvT hZ (own_at hw 11 rfl)) (mvT hZ (own_at hw 3 rfl)) (mvT hZ (own_at hw 12 rfl)) (by decide) (backOf (W := 1) (own_cn l Z a0 hw [] j h0 n0 O0) hZ (own_at hw 12 rfl) (own_at hw 3 rfl) (by decide) (by decide)) (g := (mkF m 31 #[.val (.int p1), .val (.int p2), .val (.int i), .val (.int j), .val (.ref (own_pick o0 o1 o2 o3 o4 i)), .val (.ref (own_pick o0 o1 o2 o3 o4 j)), .unset] [(.int j), (.int (own_counts i))])) rfl (by rw [hml]; rfl) (argsL := [(.int j)]) (rest := [(.int (own_counts i))]) (lenOf own_pd1 rfl) rfl (by show 2 * 0 + _ ≤ _; exact Nat.le_of_eq rfl) (hb hby at_31) (fun _ _ => ⟨rfl, e12, (by decide : 0 + 0 ≤ _), (by decide : 0 + 0 ≤ _)⟩)
  dsimp only [Pt.U, Pt.locs, Pt.cells, Pt.slots] at X13 l13 y13 z13 st13 hQ13
  subst l13 y13 z13
  obtain ⟨rfl, N13q, e13⟩ := hQ13
  have N13 := Fr.app N12 N13q
  refine own_go st13 ?_
  show own_Fin p.tables e below G (T13.setTop (mkF m 34 #[.val (.int p1), .val (.int p2), .val (.int i), .val (.int j), .val (.ref (own_pick o0 o1 o2 o3 o4 i)), .val (.ref (own_pick o0 o1 o2 o3 o4 j)), .unset] [(.int (own_counts j)), (.int (own_counts i))]))
  refine own_go (fun _ k => XS.iconst X13.here hx rfl (hb hby at_34)  k) ?_
  show own_Fin p.tables e below G (T13.setTop (mkF m 35 #[.val (.int p1), .val (.int p2), .val (.int i), .val (.int j), .val (.ref (own_pick o0 o1 o2 o3 o4 i)), .val (.ref (own_pick o0 o1 o2 o3 o4 j)), .unset] [(.int (-1 : Int32)), (.int (own_counts j)), (.int (own_counts i))]))
  refine own_go (fun _ k => XS.ixor X13.here hx rfl (hb hby at_35) rfl k) ?_
  show own_Fin p.tables e below G (T13.setTop (mkF m 36 #[.val (.int p1), .val (.int p2), .val (.int i), .val (.int j), .val (.ref (own_pick o0 o1 o2 o3 o4 i)), .val (.ref (own_pick o0 o1 o2 o3 o4 j)), .unset] [(.int ((own_counts j) ^^^ (-1 : Int32))), (.int (own_counts i))]))
  refine own_go (fun _ k => XS.iand X13.here hx rfl (hb hby at_36) rfl k) ?_
  show own_Fin p.tables e below G (T13.setTop (mkF m 37 #[.val (.int p1), .val (.int p2), .val (.int i), .val (.int j), .val (.ref (own_pick o0 o1 o2 o3 o4 i)), .val (.ref (own_pick o0 o1 o2 o3 o4 j)), .unset] [(.int ((own_counts i) &&& ((own_counts j) ^^^ (-1 : Int32))))]))
  suffices own_k45 : ∀ ex : Int32, ex = own_bi (decide (own_counts i &&& (own_counts j ^^^ -1) = 0)) → own_Fin p.tables e below G (T13.setTop (mkF m 45 #[.val (.int p1), .val (.int p2), .val (.int i), .val (.int j), .val (.ref (own_pick o0 o1 o2 o3 o4 i)), .val (.ref (own_pick o0 o1 o2 o3 o4 j)), .unset] [(.int ex)])) by
    by_cases hc37 : ((own_counts i) &&& ((own_counts j) ^^^ (-1 : Int32))) = 0
    · refine own_go (fun _ k => XS.ifNo X13.here hx rfl (hb hby at_37) rfl (Jvm.Free.XT.i0_ne_f hc37) k) ?_
      show own_Fin p.tables e below G (T13.setTop (mkF m 40 #[.val (.int p1), .val (.int p2), .val (.int i), .val (.int j), .val (.ref (own_pick o0 o1 o2 o3 o4 i)), .val (.ref (own_pick o0 o1 o2 o3 o4 j)), .unset] []))
      refine own_go (fun _ k => XS.iconst X13.here hx rfl (hb hby at_40)  k) ?_
      show own_Fin p.tables e below G (T13.setTop (mkF m 41 #[.val (.int p1), .val (.int p2), .val (.int i), .val (.int j), .val (.ref (own_pick o0 o1 o2 o3 o4 i)), .val (.ref (own_pick o0 o1 o2 o3 o4 j)), .unset] [(.int (1 : Int32))]))
      refine own_go (fun _ k => XS.goto X13.here hx rfl (pc0 := 41) (pc' := 45) rfl (hb hby at_41) (by decide) (by decide) k) ?_
      show own_Fin p.tables e below G (T13.setTop (mkF m 45 #[.val (.int p1), .val (.int p2), .val (.int i), .val (.int j), .val (.ref (own_pick o0 o1 o2 o3 o4 i)), .val (.ref (own_pick o0 o1 o2 o3 o4 j)), .unset] [(.int (1 : Int32))]))
      exact own_k45 _ (own_dT hc37)
    · refine own_go (fun _ k => XS.ifYes X13.here hx rfl (pc0 := 37) (pc' := 44) rfl (hb hby at_37) rfl (Jvm.Free.XT.i0_ne_t hc37) (by decide) (by decide) k) ?_
      show own_Fin p.tables e below G (T13.setTop (mkF m 44 #[.val (.int p1), .val (.int p2), .val (.int i), .val (.int j), .val (.ref (own_pick o0 o1 o2 o3 o4 i)), .val (.ref (own_pick o0 o1 o2 o3 o4 j)), .unset] []))
      refine own_go (fun _ k => XS.iconst X13.here hx rfl (hb hby at_44)  k) ?_
      show own_Fin p.tables e below G (T13.setTop (mkF m 45 #[.val (.int p1), .val (.int p2), .val (.int i), .val (.int j), .val (.ref (own_pick o0 o1 o2 o3 o4 i)), .val (.ref (own_pick o0 o1 o2 o3 o4 j)), .unset] [(.int (0 : Int32))]))
      exact own_k45 _ (own_dF hc37)
  intro ex hex
  obtain ⟨Ei, Fmi, Fxi⟩ := own_pickF (Z := Z) (h := h0) (i := i) E0 Fm0 Fx0 E1 Fm1 Fx1 E2 Fm2 Fx2 E3 Fm3 Fx3 E4 Fm4 Fx4
  obtain ⟨Ej, Fmj, Fxj⟩ := own_pickF (Z := Z) (h := h0) (i := j) E0 Fm0 Fx0 E1 Fm1 Fx1 E2 Fm2 Fx2 E3 Fm3 Fx3 E4 Fm4 Fx4
  refine own_go (fun _ k => XS.istore X13.here hx rfl (hb hby at_45) rfl (l' := #[.val (.int p1), .val (.int p2), .val (.int i), .val (.int j), .val (.ref (own_pick o0 o1 o2 o3 o4 i)), .val (.ref (own_pick o0 o1 o2 o3 o4 j)), .val (.int ex)]) rfl k) ?_
  show own_Fin p.tables e below G (T13.setTop (mkF m 47 #[.val (.int p1), .val (.int p2), .val (.int i), .val (.int j), .val (.ref (own_pick o0 o1 o2 o3 o4 i)), .val (.ref (own_pick o0 o1 o2 o3 o4 j)), .val (.int ex)] []))
  refine own_go (fun _ k => XS.aload X13.here hx rfl (hb hby at_47) rfl rfl k) ?_
  show own_Fin p.tables e below G (T13.setTop (mkF m 49 #[.val (.int p1), .val (.int p2), .val (.int i), .val (.int j), .val (.ref (own_pick o0 o1 o2 o3 o4 i)), .val (.ref (own_pick o0 o1 o2 o3 o4 j)), .val (.int ex)] [(.ref (own_pick o0 o1 o2 o3 o4 i))]))
  refine own_go (fun _ k => XS.aload X13.here hx rfl (hb hby at_49) rfl rfl k) ?_
  show own_Fin p.tables e below G (T13.setTop (mkF m 51 #[.val (.int p1), .val (.int p2), .val (.int i), .val (.int j), .val (.ref (own_pick o0 o1 o2 o3 o4 i)), .val (.ref (own_pick o0 o1 o2 o3 o4 j)), .val (.int ex)] [(.ref (own_pick o0 o1 o2 o3 o4 j)), (.ref (own_pick o0 o1 o2 o3 o4 i))]))
  obtain ⟨cq14, kq14, q14a, q14b, q14c⟩ := isOf hZ e13 Ei
  obtain ⟨_, _, ⟨T14, L14, k14, n14⟩, -, X14, ⟨Lc14, hQ14, l14, y14, z14⟩, st14⟩ := X13.virtualBack hx (y := (⟨"com/example/typelattice/typelattice/Occurrence", "liesWithin", "(Lcom/example/typelattice/typelattice/Occurrence;)Z"⟩ : MethodName)) (z := (⟨"com/example/typelattice/typelattice/Occurrence", "liesWithin", "(Lcom/example/typelattice/typelattice/Occurrence;)Z"⟩ : MethodName)) hown (mvT hZ (own_at hw 13 rfl)) (mvT hZ (own_at hw 14 rfl)) (notFace_of_selects (args := #[]) (mvT hZ (own_at hw 16 rfl))) (mvT hZ (own_at hw 16 rfl)) (mvT hZ (own_at hw 15 rfl)) (by decide) (backOf (W := 0) (own_lies l Z a0 hw [] (own_pick o0 o1 o2 o3 o4 i) (own_pick o0 o1 o2 o3 o4 j) (own_mn i) (own_mx i) (own_mn j) (own_mx j) h0 n0 O0 Fmi Fxi Fmj Fxj) hZ (own_at hw 17 rfl) (own_at hw 6 rfl) (by decide) (by decide)) q14a q14c (g := (mkF m 51 #[.val (.int p1), .val (.int p2), .val (.int i), .val (.int j), .val (.ref (own_pick o0 o1 o2 o3 o4 i)), .val (.ref (own_pick o0 o1 o2 o3 o4 j)), .val (.int ex)] [(.ref (own_pick o0 o1 o2 o3 o4 j)), (.ref (own_pick o0 o1 o2 o3 o4 i))])) rfl (by rw [hml]; rfl) (Steps.refl _) (argsL := [(.ref (own_pick o0 o1 o2 o3 o4 j))]) (rest := []) (lenOf own_pd2 rfl) rfl (by show 2 * 0 + _ ≤ _; exact Nat.le_of_eq rfl) (hb hby at_51) (fun _ _ => ⟨rfl, e13, (by decide : 0 + 0 ≤ _), (by decide : 0 + 0 ≤ _)⟩)
  dsimp only [Pt.U, Pt.locs, Pt.cells, Pt.slots] at X14 l14 y14 z14 st14 hQ14
  subst l14 y14 z14
  obtain ⟨rfl, N14q, e14⟩ := hQ14
  have N14 := Fr.app N13 N14q
  refine own_go (fun _ k => st14.trans k) ?_
  show own_Fin p.tables e below G (T14.setTop (mkF m 54 #[.val (.int p1), .val (.int p2), .val (.int i), .val (.int j), .val (.ref (own_pick o0 o1 o2 o3 o4 i)), .val (.ref (own_pick o0 o1 o2 o3 o4 j)), .val (.int ex)] [(.int (own_bi (!decide (own_mn i < own_mn j) && !decide (own_mx j < own_mx i))))]))
  refine own_go (fun _ k => XS.iload X14.here hx rfl (hb hby at_54) rfl k) ?_
  show own_Fin p.tables e below G (T14.setTop (mkF m 56 #[.val (.int p1), .val (.int p2), .val (.int i), .val (.int j), .val (.ref (own_pick o0 o1 o2 o3 o4 i)), .val (.ref (own_pick o0 o1 o2 o3 o4 j)), .val (.int ex)] [(.int ex), (.int (own_bi (!decide (own_mn i < own_mn j) && !decide (own_mx j < own_mx i))))]))
  refine own_go (fun _ k => XS.icmpNo X14.here hx rfl (hb hby at_56) rfl (Jvm.Free.XT.ii_ne_f ((own_same i j).trans hex.symm)) k) ?_
  show own_Fin p.tables e below G (T14.setTop (mkF m 59 #[.val (.int p1), .val (.int p2), .val (.int i), .val (.int j), .val (.ref (own_pick o0 o1 o2 o3 o4 i)), .val (.ref (own_pick o0 o1 o2 o3 o4 j)), .val (.int ex)] []))
  refine own_go (fun _ k => XS.iconst X14.here hx rfl (hb hby at_59)  k) ?_
  show own_Fin p.tables e below G (T14.setTop (mkF m 60 #[.val (.int p1), .val (.int p2), .val (.int i), .val (.int j), .val (.ref (own_pick o0 o1 o2 o3 o4 i)), .val (.ref (own_pick o0 o1 o2 o3 o4 j)), .val (.int ex)] [(.int (1 : Int32))]))
  refine own_go (fun _ k => XS.goto X14.here hx rfl (pc0 := 60) (pc' := 64) rfl (hb hby at_60) (by decide) (by decide) k) ?_
  show own_Fin p.tables e below G (T14.setTop (mkF m 64 #[.val (.int p1), .val (.int p2), .val (.int i), .val (.int j), .val (.ref (own_pick o0 o1 o2 o3 o4 i)), .val (.ref (own_pick o0 o1 o2 o3 o4 j)), .val (.int ex)] [(.int (1 : Int32))]))
  subst hG
  exact own_rv X14 hx (t := .boolean) Bd.returns rfl (Or.inl ⟨rfl, Or.inr (Or.inl rfl), _, rfl⟩) (hb hby at_64) Bd.notSynchronized (by decide) (by decide) ⟨rfl, N14⟩
set_option maxRecDepth 65536 in
set_option maxHeartbeats 40000000 in
theorem comes_1 {Post : Tables → Env → Array Value → State → Outcome → State → Prop} (hpost : ∀ tb e args s v u, (limb_1_1.after args s (.returned v) u = true ∧ limb_1_2.after args s (.returned v) u = true ∧ True) → FrameEnd s (.returned v) u (Jvm.fieldLocs frame_1_writes args s ++ Jvm.arrayLocs frame_1_arrays args s ++ Jvm.staticLocs frame_1_statics s) 0 0 → Post tb e args s (.returned v) u) :
    ArmFor flags0 classFile x code maxLocals ret World_1 tables_1 room_1 Calls_1 rest_1 Pre_1 Post := by
  intro l hfl _ _ p e ha hc hk s m args below hf hA hF happ hP
  obtain ⟨hcalls, hrest, hpre⟩ := hP
  obtain ⟨-, -, -, hnamed, -, -, -, hat⟩ := (Spec.applies_iff hf).mp happ
  obtain ⟨hg, hn⟩ := and_e (Cond.before_iff.mp (show (Jvm.Cond.and given_1 narrow_1).before args s = true from hpre))
  obtain ⟨g15, g16⟩ := and_e hg
  obtain ⟨g17, g18⟩ := and_e g16
  obtain ⟨g19, g20⟩ := and_e hn
  obtain ⟨g21, g22⟩ := and_e g20
  obtain ⟨g23, g24⟩ := and_e g22
  obtain ⟨g25, g26⟩ := and_e g24
  obtain ⟨g27, g28⟩ := and_e g26
  obtain ⟨g29, g30⟩ := and_e g28
  obtain ⟨g31, g32⟩ := and_e g30
  obtain ⟨g33, g34⟩ := and_e g32
  obtain ⟨g35, g36⟩ := and_e g34
  obtain ⟨g37, g38⟩ := and_e g36
  obtain ⟨g39, g40⟩ := and_e g38
  obtain ⟨g41, g42⟩ := and_e g40
  obtain ⟨g43, g44⟩ := and_e g42
  obtain ⟨g45, g46⟩ := and_e g44
  obtain ⟨w0, w1, rfl⟩ : ∃ w0 w1 : Value, args = #[w0, w1] := by
    have hs : args.size = 2 := by simpa [Cond.value, given_1] using g15
    obtain ⟨L⟩ := args
    match L, hs with
    | [w0, w1], _ => exact ⟨w0, w1, rfl⟩
  have hw := fun d (hd : d ∈ tables_1) => atoms_spec (ws := Jvm.Cond.code x code maxLocals ret :: tables_1) hat d (List.mem_cons_of_mem _ hd)
  have hfit : Fit s := fun {y c} hc i hi => by
    obtain ⟨ha, rfl⟩ := Array.getElem?_eq_some_iff.mp hc
    have q := List.all_eq_true.mp ((Array.all_eq_true_iff_forall_mem.mp hF) _ (Array.getElem_mem ha)) i (List.mem_range.mpr hi)
    simpa [Array.getElem?_eq_getElem hi] using q
  obtain ⟨i0, ei0⟩ := is_v g17
  obtain rfl : w0 = (.int i0) := Option.some.inj ei0
  obtain ⟨i1, ei1⟩ := is_v g18
  obtain rfl : w1 = (.int i1) := Option.some.inj ei1
  obtain ⟨o_Occurrence_EMPTY, v_Occurrence_EMPTY⟩ := exa_v g19
  have E_Occurrence_EMPTY := Exa.start v_Occurrence_EMPTY g19
  have S_Occurrence_EMPTY := Sta.start v_Occurrence_EMPTY (Or.inr ⟨(own_at hw 6 rfl), (own_at hw 7 rfl)⟩)
  obtain ⟨o_Occurrence_ZERO_OR_MORE, v_Occurrence_ZERO_OR_MORE⟩ := exa_v g21
  have E_Occurrence_ZERO_OR_MORE := Exa.start v_Occurrence_ZERO_OR_MORE g21
  have S_Occurrence_ZERO_OR_MORE := Sta.start v_Occurrence_ZERO_OR_MORE (Or.inr ⟨(own_at hw 6 rfl), (own_at hw 9 rfl)⟩)
  obtain ⟨o_Occurrence_ONE_OR_MORE, v_Occurrence_ONE_OR_MORE⟩ := exa_v g31
  have E_Occurrence_ONE_OR_MORE := Exa.start v_Occurrence_ONE_OR_MORE g31
  have S_Occurrence_ONE_OR_MORE := Sta.start v_Occurrence_ONE_OR_MORE (Or.inr ⟨(own_at hw 6 rfl), (own_at hw 23 rfl)⟩)
  obtain ⟨o_Occurrence_EXACTLY_ONE, v_Occurrence_EXACTLY_ONE⟩ := exa_v g33
  have E_Occurrence_EXACTLY_ONE := Exa.start v_Occurrence_EXACTLY_ONE g33
  have S_Occurrence_EXACTLY_ONE := Sta.start v_Occurrence_EXACTLY_ONE (Or.inr ⟨(own_at hw 6 rfl), (own_at hw 25 rfl)⟩)
  obtain ⟨o_Occurrence_ZERO_OR_ONE, v_Occurrence_ZERO_OR_ONE⟩ := exa_v g43
  have E_Occurrence_ZERO_OR_ONE := Exa.start v_Occurrence_ZERO_OR_ONE g43
  have S_Occurrence_ZERO_OR_ONE := Sta.start v_Occurrence_ZERO_OR_ONE (Or.inr ⟨(own_at hw 6 rfl), (own_at hw 27 rfl)⟩)
  have F_Occurrence_EMPTY_min := Fld.start ((fld_at v_Occurrence_EMPTY).symm.trans (own_eqI g23))
  have F_Occurrence_ZERO_OR_MORE_min := Fld.start ((fld_at v_Occurrence_ZERO_OR_MORE).symm.trans (own_eqI g25))
  have F_Occurrence_EMPTY_max := Fld.start ((fld_at v_Occurrence_EMPTY).symm.trans (own_eqI g27))
  have F_Occurrence_ZERO_OR_MORE_max := Fld.start ((fld_at v_Occurrence_ZERO_OR_MORE).symm.trans (own_eqI g29))
  have F_Occurrence_ONE_OR_MORE_min := Fld.start ((fld_at v_Occurrence_ONE_OR_MORE).symm.trans (own_eqI g35))
  have F_Occurrence_EXACTLY_ONE_min := Fld.start ((fld_at v_Occurrence_EXACTLY_ONE).symm.trans (own_eqI g37))
  have F_Occurrence_ONE_OR_MORE_max := Fld.start ((fld_at v_Occurrence_ONE_OR_MORE).symm.trans (own_eqI g39))
  have F_Occurrence_EXACTLY_ONE_max := Fld.start ((fld_at v_Occurrence_EXACTLY_ONE).symm.trans (own_eqI g41))
  have F_Occurrence_ZERO_OR_ONE_min := Fld.start ((fld_at v_Occurrence_ZERO_OR_ONE).symm.trans (own_eqI g45))
  have F_Occurrence_ZERO_OR_ONE_max := Fld.start ((fld_at v_Occurrence_ZERO_OR_ONE).symm.trans (own_eqI g46))
  obtain ⟨n, o, h1, h2, h3, _, L, rfl, ⟨rfl, N⟩, hq⟩ := own_law l s _ hw tables_1 i0 i1 o_Occurrence_EMPTY o_Occurrence_EXACTLY_ONE o_Occurrence_ZERO_OR_ONE o_Occurrence_ZERO_OR_MORE o_Occurrence_ONE_OR_MORE s.heap s.heap.size (Old.start s) S_Occurrence_EMPTY S_Occurrence_EXACTLY_ONE S_Occurrence_ZERO_OR_ONE S_Occurrence_ZERO_OR_MORE S_Occurrence_ONE_OR_MORE E_Occurrence_EMPTY F_Occurrence_EMPTY_min F_Occurrence_EMPTY_max E_Occurrence_EXACTLY_ONE F_Occurrence_EXACTLY_ONE_min F_Occurrence_EXACTLY_ONE_max E_Occurrence_ZERO_OR_ONE F_Occurrence_ZERO_OR_ONE_min F_Occurrence_ZERO_OR_ONE_max E_Occurrence_ZERO_OR_MORE F_Occurrence_ZERO_OR_MORE_min F_Occurrence_ZERO_OR_MORE_max E_Occurrence_ONE_OR_MORE F_Occurrence_ONE_OR_MORE_min F_Occurrence_ONE_OR_MORE_max p e ha hc hk s m _ below hf ((Spec.applies_iff_loose hf).mp happ).1 ⟨rfl, State.Warmed39.refl s, rfl⟩ trivial
  refine ⟨n, _, h1, h2, h3, hpost _ _ _ _ _ _ ⟨Cond.after_iff.mpr rfl, Cond.after_iff.mpr (eq_i res_at (Term.int_eval (1)) rfl), trivial⟩ ⟨hq.1, hq.2.1, (hq.2.2.sift fun y hy => Or.inr (N y hy)).mono (by decide) (by decide)⟩⟩
theorem main_1_1 : Claimed_1_1 := comes_1 fun _ _ _ _ _ _ h hF => ⟨h.1, hF⟩
theorem main_1_2 : Claimed_1_2 := comes_1 fun _ _ _ _ _ _ h hF => ⟨h.2.1, hF⟩
end Jvm.Pilot.@@N@@
namespace Jvm.Pilot.@@N@@
open Jvm Jvm.ClassFile Sem Op Lib Jvm.Free Jvm.Stand Jvm.Pilot.@@N@@.Jvm.D
/-! MADE BY PROGRAM (witnessworld.py) out of the Statement's table words and the real class files: 12 classes; the members and pool entries that the words name. The judged class is class 1, her method 3. -/
namespace start1
open Jvm.ClassFile
def u (s : String) : CpInfo := .utf8 (stringToUtf16 s)
/-- a pool by its gaps: so many unusable entries, then the entry; so many at the end -/
def gap : Nat → List CpInfo → List CpInfo
  | 0, r => r
  | n + 1, r => .unusable :: gap n r
def poolList (es : List (Nat × CpInfo)) (last : Nat) : List CpInfo := es.foldr (fun e r => gap e.1 (e.2 :: r)) (gap last [])
def pool (es : List (Nat × CpInfo)) (last : Nat) : Array CpInfo := ⟨poolList es last⟩
def fileOf (pool : Array CpInfo) (this : Nat) (attrs : Array Attribute := #[]) (ms : Array MethodInfo := #[]) (fl : Nat := 33) (sup : Nat := 0) (ifs : Array Nat := #[]) (fds : Array FieldInfo := #[]) : ClassFile where
  minorVersion := 0
  majorVersion := 65
  constantPool := pool
  accessFlags := fl
  thisClass := this
  superClass := sup
  interfaces := ifs
  fields := fds
  methods := ms
  attributes := attrs
def plain (name : String) (sup : Option ClassId) : Class where
  name := name
  kind := .ordinary
  loader := none
  accessFlags := 33
  super := sup
  interfaces := #[]
  cf := none
  fields := #[]
  methods := #[]
  instanceTypes := #[]
  staticTypes := #[]
  resolved := #[]
  callSites := []
  init := .initialized
  statics := none
  mirror := none

def pool0 : Array CpInfo := pool [(5, u "<init>"), (0, u "()V"), (1, .class_ 10), (1, u "java/lang/Object")] 113

def k0m0 : Method := { name := "<init>", desc := "()V", sig := { parameters := [], returnType := none }, accessFlags := 1, code := none }
/-- java/lang/Object -/
def k0 : Class := { plain "java/lang/Object" none with
  accessFlags := 33
  interfaces := #[]
  cf := some (fileOf pool0 8 #[] #[{ accessFlags := 1, nameIndex := 5, descriptorIndex := 6, attributes := #[] }] 33 0 #[] #[])
  fields := #[]
  methods := #[k0m0]
  instanceTypes := #[]
  staticTypes := #[]
  resolved := Array.replicate 124 none
  statics := none }

def pool1 : Array CpInfo := pool [(2, .class_ 4), (1, u "java/lang/Object"), (0, u "<init>"), (0, u "()V"), (0, .fieldref 8 9), (0, .class_ 10), (0, .nameAndType 11 12), (0, u "com/example/typelattice/typelattice/Occurrence"), (0, u "EMPTY"), (0, u "Lcom/example/typelattice/typelattice/Occurrence;"), (0, .fieldref 8 14), (0, .nameAndType 15 12), (0, u "EXACTLY_ONE"), (0, .fieldref 8 17), (0, .nameAndType 18 12), (0, u "ZERO_OR_ONE"), (0, .fieldref 8 20), (0, .nameAndType 21 12), (0, u "ZERO_OR_MORE"), (0, .fieldref 8 23), (0, .nameAndType 24 12), (0, u "ONE_OR_MORE"), (0, .integer 2147483647), (0, .methodref 27 28), (0, .class_ 29), (0, .nameAndType 30 31), (0, u "com/example/typelattice/typelattice/OccurrenceLiesWithinPinLaw"), (0, u "pick"), (0, u "(I)Lcom/example/typelattice/typelattice/Occurrence;"), (0, .methodref 27 33), (0, .nameAndType 34 35), (0, u "counts"), (0, u "(I)I"), (0, .methodref 8 37), (0, .nameAndType 38 39), (0, u "liesWithin"), (0, u "(Lcom/example/typelattice/typelattice/Occurrence;)Z"), (3, u "law"), (0, u "(II)Z")] 2

def k1m0 : Method := { name := "<init>", desc := "()V", sig := { parameters := [], returnType := none }, accessFlags := 2, code := none }
def k1c1 : Code := { maxStack := 2, maxLocals := 1, code := method_2_code, exceptionTable := #[], attributes := #[] }
def k1m1 : Method := { name := "pick", desc := "(I)Lcom/example/typelattice/typelattice/Occurrence;", sig := { parameters := [.int], returnType := some (.object "com/example/typelattice/typelattice/Occurrence") }, accessFlags := 10, code := some k1c1 }
def k1c2 : Code := { maxStack := 2, maxLocals := 1, code := method_3_code, exceptionTable := #[], attributes := #[] }
def k1m2 : Method := { name := "counts", desc := "(I)I", sig := { parameters := [.int], returnType := some .int }, accessFlags := 10, code := some k1c2 }
def k1c3 : Code := { maxStack := 3, maxLocals := 7, code := code, exceptionTable := #[], attributes := #[] }
def k1m3 : Method := { name := "law", desc := "(II)Z", sig := { parameters := [.int, .int], returnType := some .boolean }, accessFlags := 9, code := some k1c3 }
/-- com/example/typelattice/typelattice/OccurrenceLiesWithinPinLaw -/
def k1 : Class := { plain "com/example/typelattice/typelattice/OccurrenceLiesWithinPinLaw" (some 0) with
  accessFlags := 49
  interfaces := #[]
  cf := some (fileOf pool1 27 #[] #[{ accessFlags := 2, nameIndex := 5, descriptorIndex := 6, attributes := #[] }, { accessFlags := 10, nameIndex := 30, descriptorIndex := 31, attributes := #[] }, { accessFlags := 10, nameIndex := 34, descriptorIndex := 35, attributes := #[] }, { accessFlags := 9, nameIndex := 43, descriptorIndex := 44, attributes := #[] }] 49 2 #[] #[])
  fields := #[]
  methods := #[k1m0, k1m1, k1m2, k1m3]
  instanceTypes := #[]
  staticTypes := #[]
  resolved := Array.replicate 47 none
  statics := none }

def pool2 : Array CpInfo := pool [(1, .class_ 2), (0, u "java/lang/constant/Constable"), (0, .class_ 4), (0, u "java/lang/Object")] 6

/-- java/lang/constant/Constable -/
def k2 : Class := { plain "java/lang/constant/Constable" (some 0) with
  accessFlags := 1537
  interfaces := #[]
  cf := some (fileOf pool2 1 #[] #[] 1537 3 #[] #[])
  fields := #[]
  methods := #[]
  instanceTypes := #[]
  staticTypes := #[]
  resolved := Array.replicate 11 none
  statics := none }

def pool3 : Array CpInfo := pool [(1, .class_ 2), (0, u "java/lang/Comparable"), (0, .class_ 4), (0, u "java/lang/Object")] 7

/-- java/lang/Comparable -/
def k3 : Class := { plain "java/lang/Comparable" (some 0) with
  accessFlags := 1537
  interfaces := #[]
  cf := some (fileOf pool3 1 #[] #[] 1537 3 #[] #[])
  fields := #[]
  methods := #[]
  instanceTypes := #[]
  staticTypes := #[]
  resolved := Array.replicate 12 none
  statics := none }

def pool4 : Array CpInfo := pool [(1, .class_ 2), (0, u "java/io/Serializable"), (0, .class_ 4), (0, u "java/lang/Object")] 2

/-- java/io/Serializable -/
def k4 : Class := { plain "java/io/Serializable" (some 0) with
  accessFlags := 1537
  interfaces := #[]
  cf := some (fileOf pool4 1 #[] #[] 1537 3 #[] #[])
  fields := #[]
  methods := #[]
  instanceTypes := #[]
  staticTypes := #[]
  resolved := Array.replicate 7 none
  statics := none }

def pool5 : Array CpInfo := pool [(2, .class_ 4), (1, u "java/lang/Enum"), (0, u "name"), (0, u "Ljava/lang/String;"), (2, u "ordinal"), (0, u "I"), (1, .class_ 14), (1, u "java/lang/Object"), (4, u "hash"), (86, .class_ 108), (1, u "java/lang/Enum$EnumDesc"), (2, .class_ 112), (0, u "java/lang/constant/Constable"), (0, .class_ 114), (0, u "java/lang/Comparable"), (0, .class_ 116), (0, u "java/io/Serializable")] 87

/-- java/lang/Enum -/
def k5 : Class := { plain "java/lang/Enum" (some 0) with
  accessFlags := 1057
  interfaces := #[2, 3, 4]
  cf := some (fileOf pool5 2 #[.nestMembers #[106]] #[] 1057 12 #[111, 113, 115] #[{ accessFlags := 18, nameIndex := 5, descriptorIndex := 6, attributes := #[] }, { accessFlags := 18, nameIndex := 9, descriptorIndex := 10, attributes := #[] }, { accessFlags := 2, nameIndex := 19, descriptorIndex := 10, attributes := #[] }])
  fields := #[{ name := "name", type := (.object "java/lang/String"), accessFlags := 18, slot := 0, constantValue := 0 }, { name := "ordinal", type := .int, accessFlags := 18, slot := 1, constantValue := 0 }, { name := "hash", type := .int, accessFlags := 2, slot := 2, constantValue := 0 }]
  methods := #[]
  instanceTypes := #[(.object "java/lang/String"), .int, .int]
  staticTypes := #[]
  resolved := Array.replicate 204 none
  statics := none }

def pool6 : Array CpInfo := pool [(1, .class_ 2), (0, u "com/example/typelattice/typelattice/Occurrence"), (2, u "EMPTY"), (0, u "Lcom/example/typelattice/typelattice/Occurrence;"), (2, u "EXACTLY_ONE"), (2, u "ZERO_OR_ONE"), (2, u "ZERO_OR_MORE"), (2, u "ONE_OR_MORE"), (2, u "$VALUES"), (0, u "[Lcom/example/typelattice/typelattice/Occurrence;"), (6, .class_ 31), (1, u "java/lang/Enum"), (8, u "indicator"), (0, u "Ljava/lang/String;"), (0, .fieldref 1 43), (0, .nameAndType 44 45), (0, u "min"), (0, u "I"), (0, .fieldref 1 47), (0, .nameAndType 48 45), (0, u "max"), (34, u "liesWithin"), (0, u "(Lcom/example/typelattice/typelattice/Occurrence;)Z")] 5

def k6c0 : Code := { maxStack := 2, maxLocals := 2, code := prog_99_method_6_code, exceptionTable := #[], attributes := #[] }
def k6m0 : Method := { name := "liesWithin", desc := "(Lcom/example/typelattice/typelattice/Occurrence;)Z", sig := { parameters := [(.object "com/example/typelattice/typelattice/Occurrence")], returnType := some .boolean }, accessFlags := 0, code := some k6c0 }
/-- com/example/typelattice/typelattice/Occurrence -/
def k6 : Class := { plain "com/example/typelattice/typelattice/Occurrence" (some 5) with
  accessFlags := 16432
  interfaces := #[]
  cf := some (fileOf pool6 1 #[] #[{ accessFlags := 0, nameIndex := 83, descriptorIndex := 84, attributes := #[] }] 16432 29 #[] #[{ accessFlags := 16409, nameIndex := 5, descriptorIndex := 6, attributes := #[] }, { accessFlags := 16409, nameIndex := 9, descriptorIndex := 6, attributes := #[] }, { accessFlags := 16409, nameIndex := 12, descriptorIndex := 6, attributes := #[] }, { accessFlags := 16409, nameIndex := 15, descriptorIndex := 6, attributes := #[] }, { accessFlags := 16409, nameIndex := 18, descriptorIndex := 6, attributes := #[] }, { accessFlags := 18, nameIndex := 40, descriptorIndex := 41, attributes := #[] }, { accessFlags := 18, nameIndex := 44, descriptorIndex := 45, attributes := #[] }, { accessFlags := 18, nameIndex := 48, descriptorIndex := 45, attributes := #[] }, { accessFlags := 4122, nameIndex := 21, descriptorIndex := 22, attributes := #[] }])
  fields := #[{ name := "EMPTY", type := (.object "com/example/typelattice/typelattice/Occurrence"), accessFlags := 16409, slot := 0, constantValue := 0 }, { name := "EXACTLY_ONE", type := (.object "com/example/typelattice/typelattice/Occurrence"), accessFlags := 16409, slot := 1, constantValue := 0 }, { name := "ZERO_OR_ONE", type := (.object "com/example/typelattice/typelattice/Occurrence"), accessFlags := 16409, slot := 2, constantValue := 0 }, { name := "ZERO_OR_MORE", type := (.object "com/example/typelattice/typelattice/Occurrence"), accessFlags := 16409, slot := 3, constantValue := 0 }, { name := "ONE_OR_MORE", type := (.object "com/example/typelattice/typelattice/Occurrence"), accessFlags := 16409, slot := 4, constantValue := 0 }, { name := "indicator", type := (.object "java/lang/String"), accessFlags := 18, slot := 3, constantValue := 0 }, { name := "min", type := .int, accessFlags := 18, slot := 4, constantValue := 0 }, { name := "max", type := .int, accessFlags := 18, slot := 5, constantValue := 0 }, { name := "$VALUES", type := (.array (.object "com/example/typelattice/typelattice/Occurrence")), accessFlags := 4122, slot := 5, constantValue := 0 }]
  methods := #[k6m0]
  instanceTypes := #[(.object "java/lang/String"), .int, .int, (.object "java/lang/String"), .int, .int]
  staticTypes := #[(.object "com/example/typelattice/typelattice/Occurrence"), (.object "com/example/typelattice/typelattice/Occurrence"), (.object "com/example/typelattice/typelattice/Occurrence"), (.object "com/example/typelattice/typelattice/Occurrence"), (.object "com/example/typelattice/typelattice/Occurrence"), (.array (.object "com/example/typelattice/typelattice/Occurrence"))]
  resolved := Array.replicate 90 none
  statics := some 0 }

def pool7 : Array CpInfo := pool [(1, u "java/lang/Cloneable"), (0, .class_ 1), (0, u "java/lang/Object"), (0, .class_ 3)] 3

/-- java/lang/Cloneable -/
def k7 : Class := { plain "java/lang/Cloneable" (some 0) with
  accessFlags := 1537
  interfaces := #[]
  cf := some (fileOf pool7 2 #[] #[] 1537 4 #[] #[])
  fields := #[]
  methods := #[]
  instanceTypes := #[]
  staticTypes := #[]
  resolved := Array.replicate 8 none
  statics := none }

/-- the primitive byte -/
def k8 : Class := { plain "byte" none with kind := .primitive 'B', accessFlags := 0x411 }
/-- [B -/
def k9 : Class := { plain "[B" (some 0) with kind := .array 8 .byte, interfaces := #[7, 4], accessFlags := 1041 }

/-- the primitive int -/
def k10 : Class := { plain "int" none with kind := .primitive 'I', accessFlags := 0x411 }
/-- [I -/
def k11 : Class := { plain "[I" (some 0) with kind := .array 10 .int, interfaces := #[7, 4], accessFlags := 1041 }

def heap : Heap := #[{ cls := 6, slots := #[.ref 1, .ref 2, .ref 3, .ref 4, .ref 5, .null], vm := .statics 6 },
  { cls := 6, slots := #[.null, .int 0, .int 0, .null, .int 0, .int 0], vm := .none },
  { cls := 6, slots := #[.null, .int 1, .int 0, .null, .int 1, .int 1], vm := .none },
  { cls := 6, slots := #[.null, .int 2, .int 0, .null, .int 0, .int 1], vm := .none },
  { cls := 6, slots := #[.null, .int 3, .int 0, .null, .int 0, .int 2147483647], vm := .none },
  { cls := 6, slots := #[.null, .int 4, .int 0, .null, .int 1, .int 2147483647], vm := .none }]
def classes : Array Class := #[k0, k1, k2, k3, k4, k5, k6, k7, k8, k9, k10, k11]
def interned : List (Array UInt16 × Addr) := []
def slotsUsed : Nat := 36
def theMethod : MethodId := ⟨1, 3⟩
def args0 : Array Value := #[.int 0, .int 0]
def aboutOver (below : List Frame) : State where
  vm := { classes := classes, interned := interned.toArray }
  heap := heap
  slotsUsed := slotsUsed
  threads := #[{ frames := .invoking theMethod args0 :: below }]
def below0 : List Frame := [.native { method := ⟨0, 0⟩, args := #[] }]
def about1 : State := aboutOver below0
def p0 : Program := .bare "" "" ""
def e0 : Env := launch0.env 0 0 0
theorem w_frames : about1.frames = Frame.invoking theMethod args0 :: below0 := rfl
set_option maxRecDepth 65536 in
theorem w_args : argsFit about1.vm theMethod args0 = true := by decide +kernel
set_option maxRecDepth 65536 in
theorem w_heap : heapFits about1 = true := by decide +kernel
set_option maxRecDepth 65536 in
theorem w_runnable : about1.curStatus? = some .runnable := by decide +kernel
set_option maxRecDepth 65536 in
theorem w_alone : about1.alone = true := by decide +kernel
set_option maxRecDepth 65536 in
theorem w_named : about1.methodNamed? x = some theMethod := by decide +kernel
set_option maxRecDepth 65536 in
theorem w_hears : about1.hears theMethod below0 = true := by decide +kernel
set_option maxRecDepth 65536 in
theorem w_ripe : about1.ripe theMethod args0 below0 = true := by decide +kernel
theorem w_running : about1.status = .running := rfl
set_option maxRecDepth 65536 in
theorem w_room : about1.hasRoom e0.platform room_1 = true :=
  launch0.hasRoom_least _ room_1 (by decide +kernel) (by decide +kernel) (by decide +kernel) (by decide +kernel) (by decide +kernel) (by decide +kernel)
theorem allAtoms_all (ts : List Jvm.Cond) (a : Array Jvm.Value) (st : Jvm.State) : (allAtoms ts).before a st = ts.all (fun c => c.before a st) := by
  induction ts with
  | nil => rfl
  | cons c t ih =>
    show (Jvm.Cond.and c (allAtoms t)).before a st = _
    rw [Jvm.Cond.before_and, ih, List.all_cons]
def words1 : List Jvm.Cond := Jvm.Cond.code x code maxLocals ret :: tables_1
/-- a 'code' word, met by the world's own term for the bytes: nothing is compared byte by byte -/
theorem code_word {y : MethodName} {bytes : ByteArray} {mx : Nat} {rt : Option FieldType} {a : Array Value} {s : State} {m : MethodId} {meth : Method} {c : Code} (h1 : s.methodNamed? y = some m) (h2 : s.vm.method? m = some meth) (h3 : meth.code = some c) (h4 : c.code = bytes)
    (h5 : (c.maxLocals == mx && c.exceptionTable.isEmpty && decide (c.maxStack ≤ mostOperands) && decide (meth.sig.returnType = rt) && !meth.locks && decide (parseMethodDescriptor y.desc = some meth.sig)) = true) : (Jvm.Cond.code y bytes mx rt).before a s = true := by
  simp only [Bool.and_eq_true, beq_iff_eq, Bool.not_eq_true', decide_eq_true_eq] at h5
  obtain ⟨⟨⟨⟨⟨g1, g2⟩, g3⟩, g4⟩, g5⟩, g6⟩ := h5
  simp [Cond.before, Cond.holds, Cond.value, h1, h2, h3, h4, g1, g2, g3, g4, g5, g6]
def isCode : Jvm.Cond → Bool
  | .code _ _ _ _ => true
  | _ => false
theorem all_split {L : List Jvm.Cond} {P : Jvm.Cond → Bool} (h1 : L.all (fun c => isCode c || P c) = true) (h2 : ∀ c ∈ L.filter isCode, P c = true) : L.all P = true := by
  refine List.all_eq_true.mpr fun c hc => ?_
  have h := List.all_eq_true.mp h1 c hc
  rcases Bool.eq_false_or_eq_true (isCode c) with hi | hi
  · exact h2 c (List.mem_filter.mpr ⟨hc, hi⟩)
  · simpa [hi] using h
set_option maxRecDepth 65536 in
theorem w_c0 : (Jvm.Cond.code x code maxLocals ret).before args0 about1 = true := code_word (m := ⟨1, 3⟩) (meth := k1m3) (c := k1c3) (by decide +kernel) rfl rfl rfl (by decide +kernel)
set_option maxRecDepth 65536 in
theorem w_c1 : (Jvm.Cond.code ({ cls := "com/example/typelattice/typelattice/OccurrenceLiesWithinPinLaw", name := "pick", desc := "(I)Lcom/example/typelattice/typelattice/Occurrence;" } : Jvm.MethodName) method_2_code (1 : Nat) (Option.some (Jvm.ClassFile.FieldType.object "com/example/typelattice/typelattice/Occurrence"))).before args0 about1 = true := code_word (m := ⟨1, 1⟩) (meth := k1m1) (c := k1c1) (by decide +kernel) rfl rfl rfl (by decide +kernel)
set_option maxRecDepth 65536 in
theorem w_c2 : (Jvm.Cond.code ({ cls := "com/example/typelattice/typelattice/OccurrenceLiesWithinPinLaw", name := "counts", desc := "(I)I" } : Jvm.MethodName) method_3_code (1 : Nat) (Option.some Jvm.ClassFile.FieldType.int)).before args0 about1 = true := code_word (m := ⟨1, 2⟩) (meth := k1m2) (c := k1c2) (by decide +kernel) rfl rfl rfl (by decide +kernel)
set_option maxRecDepth 65536 in
theorem w_c3 : (Jvm.Cond.code ({ cls := "com/example/typelattice/typelattice/Occurrence", name := "liesWithin", desc := "(Lcom/example/typelattice/typelattice/Occurrence;)Z" } : Jvm.MethodName) prog_99_method_6_code (2 : Nat) (Option.some Jvm.ClassFile.FieldType.boolean)).before args0 about1 = true := code_word (m := ⟨6, 0⟩) (meth := k6m0) (c := k6c0) (by decide +kernel) rfl rfl rfl (by decide +kernel)
def codes1 : List Jvm.Cond := [Jvm.Cond.code x code maxLocals ret, Jvm.Cond.code ({ cls := "com/example/typelattice/typelattice/OccurrenceLiesWithinPinLaw", name := "pick", desc := "(I)Lcom/example/typelattice/typelattice/Occurrence;" } : Jvm.MethodName) method_2_code (1 : Nat) (Option.some (Jvm.ClassFile.FieldType.object "com/example/typelattice/typelattice/Occurrence")), Jvm.Cond.code ({ cls := "com/example/typelattice/typelattice/OccurrenceLiesWithinPinLaw", name := "counts", desc := "(I)I" } : Jvm.MethodName) method_3_code (1 : Nat) (Option.some Jvm.ClassFile.FieldType.int), Jvm.Cond.code ({ cls := "com/example/typelattice/typelattice/Occurrence", name := "liesWithin", desc := "(Lcom/example/typelattice/typelattice/Occurrence;)Z" } : Jvm.MethodName) prog_99_method_6_code (2 : Nat) (Option.some Jvm.ClassFile.FieldType.boolean)]
set_option maxRecDepth 65536 in
theorem codes_eq : words1.filter isCode = codes1 := rfl
theorem w_codes : ∀ c ∈ words1.filter isCode, c.before args0 about1 = true := by
  rw [codes_eq]
  intro c hc
  simp only [codes1, List.mem_cons, List.not_mem_nil, or_false] at hc
  rcases hc with rfl | rfl | rfl | rfl
  · exact w_c0
  · exact w_c1
  · exact w_c2
  · exact w_c3
set_option maxRecDepth 65536 in
theorem w_t1 : (words1.take 24).all (fun c => isCode c || c.before args0 about1) = true := by decide +kernel
set_option maxRecDepth 65536 in
theorem w_t2 : (words1.drop 24).all (fun c => isCode c || c.before args0 about1) = true := by decide +kernel
theorem w_tables : (allAtoms (Jvm.Cond.code x code maxLocals ret :: tables_1)).before args0 about1 = true := by
  rw [allAtoms_all]
  show words1.all (fun c => c.before args0 about1) = true
  refine all_split ?_ w_codes
  rw [← List.take_append_drop 24 words1, List.all_append, w_t1, w_t2]
  rfl
set_option maxRecDepth 65536 in
theorem w_case : (Jvm.Cond.and given_1 narrow_1).before args0 about1 = true := by decide +kernel
theorem w_applies : (headSpec (Jvm.Cond.code x code maxLocals ret :: tables_1) room_1).applies x e0.platform about1 = true :=
  (Spec.applies_iff w_frames).mpr ⟨w_running, w_runnable, w_alone, w_named, w_hears, w_ripe, w_room, w_tables⟩
theorem atStart : AtStart classFile x code maxLocals ret World_1 tables_1 room_1 Calls_1 rest_1 Pre_1 launch0 p0 e0 about1 theMethod args0 below0 :=
  ⟨lists_1, trivial, launch0.admits_env _ _ _, launch0.least_env, fairChoices_fair.cas, fairChoices_fair.clock, w_frames, w_args, w_heap, w_applies, trivial, trivial, w_case⟩
end start1
theorem witness_1 : WitnessClaimed_1 := ⟨start1.p0, start1.e0, start1.about1, start1.theMethod, start1.args0, start1.below0, start1.atStart⟩
end Jvm.Pilot.@@N@@
