import JvmDerived
import JvmDerived.Pilot.@@N@@Statement
import JvmDerived.Pilot.@@N@@Code
set_option linter.unusedVariables false
set_option linter.unusedSimpArgs false
namespace Jvm.Pilot.@@N@@
open Jvm Jvm.ClassFile Sem Op Lib Jvm.Free Jvm.Stand Jvm.LawKit Jvm.RoadKit Bundle Jvm.Pilot.@@N@@.Jvm.D
section OwnKit
/-- from S the run comes to an end that G takes -/
def own_Fin (tb : Tables) (e : Env) (below : List Frame) (G : State → Outcome → Prop) (S : State) : Prop := ∃ s₂ o, Steps tb e below S s₂ ∧ s₂.status = .running ∧ Ended s₂ below o ∧ G s₂ o
theorem own_go {tb : Tables} {e : Env} {below : List Frame} {G : State → Outcome → Prop} {S S' : State} (k : ∀ t, Steps tb e below S' t → Steps tb e below S t) (h : own_Fin tb e below G S') : own_Fin tb e below G S := by
  obtain ⟨t, o, a, b⟩ := h
  exact ⟨t, o, k t a, b⟩
theorem own_at {Z : State} {a0 : Array Value} {ws : List Jvm.Cond} (hw : ∀ d ∈ ws, d.before a0 Z = true) (i : Nat) {d : Jvm.Cond} (h : ws[i]? = some d) : d.before a0 Z = true := hw _ (List.mem_of_getElem? h)
def own_bi : Bool → Int32
  | true => 1
  | false => 0
theorem own_bi0 {b : Bool} (h : b = false) : own_bi b = 0 := by rw [h]; rfl
theorem own_bi1 {b : Bool} (h : b = true) : ¬ own_bi b = 0 := by rw [h]; decide
theorem own_dT {P : Prop} [Decidable P] (h : P) : (1 : Int32) = own_bi (decide P) := by rw [decide_eq_true h]; rfl
theorem own_dF {P : Prop} [Decidable P] (h : ¬ P) : (0 : Int32) = own_bi (decide P) := by rw [decide_eq_false h]; rfl
theorem own_tf (b : Bool) : b = true ∨ b = false := by cases b <;> simp
theorem own_nb (b : Bool) : narrow .boolean (.int (own_bi b)) = .int (own_bi b) := by cases b <;> rfl
theorem own_fb (b : Bool) : fits .boolean (.int (own_bi b)) = true := by cases b <;> rfl
theorem own_nr {t : FieldType} {v : Value} (h : v.isRef = true) : narrow t v = v := by cases v <;> first | (simp [Value.isRef] at h; done) | (cases t <;> rfl)
theorem own_store {l l' : Array Slot} {i : Nat} {v : Value} {o : Slot} (hold : l[i]? = some o) (ho : o = .unset ∨ ∃ w, o = .val w ∧ w.category = 1) (hv : v.category = 1) (e : l.setIfInBounds i (.val v) = l') : storeLocals l i v = some l' := e ▸ XS.store1 hold ho hv
theorem own_eqI {args : Array Value} {s : State} {t : Term} {k : Int32} (h : (Jvm.Cond.eq t (Term.int k)).value args s none s [] = some true) : t.eval args s none [] s = some (.int k) := by
  simp only [Jvm.Cond.value, Term.eval] at h
  cases ht : t.eval args s none [] s with
  | none => simp [ht] at h
  | some x => cases x <;> simp [ht] at h ⊢; exact h
theorem own_eqR {args : Array Value} {s : State} {t u : Term} {a : Addr} (h : (Jvm.Cond.eq t u).value args s none s [] = some true) (hu : u.eval args s none [] s = some (.ref a)) : t.eval args s none [] s = some (.ref a) := by
  simp only [Jvm.Cond.value, hu] at h
  cases ht : t.eval args s none [] s with
  | none => simp [ht] at h
  | some x => cases x <;> simp [ht] at h ⊢; exact h
theorem own_size {Z : State} {n0 : Nat} {h : Heap} (X : Old Z n0 h) : n0 ≤ h.size := X.1 ▸ X.2.1
section
variable {p : Program} {l : Launch} {e : Env} {R : Room} {s : State} {m : MethodId} {args : Array Value} {below : List Frame} {meth : Method} {c : Code} {T : State} {locs : List Loc} {cells slots : Nat}
theorem own_mono (X : Stand p l e R s m args below meth c T locs cells slots) {k n : Nat} (hk : cells ≤ k) (hn : slots ≤ n) : Stand p l e R s m args below meth c T locs k n := { X with same := X.same.mono hk hn }
theorem own_rv (X : Stand p l e R s m args below meth c T locs cells slots) (hx : p.tables.exec = Jvm.exec) {pc : Nat} {Ls : Array Slot} {w : Value} {t : FieldType} {i : Instr} {rest : List Value} (hret : meth.sig.returnType = some t) (hn : narrow t w = w)
    (hi : (i = .ireturn ∧ (t = .int ∨ t = .boolean ∨ t = .byte ∨ t = .char ∨ t = .short) ∧ ∃ z, w = .int z) ∨ (i = .lreturn ∧ t = .long ∧ ∃ z, w = .long z) ∨ (i = .dreturn ∧ t = .double ∧ ∃ z, w = .double z) ∨ (i = .freturn ∧ t = .float ∧ ∃ z, w = .float z) ∨ (i = .areturn ∧ t.isReference = true ∧ w.isRef = true))
    (hd : decode c.code pc = .ok (i, 1)) (hlocks : meth.locks = false) {Q : Option Value → Heap → List Loc → Prop} {k n : Nat} (h1 : cells ≤ k) (h2 : slots ≤ n) (hQ : Q (some w) T.heap locs) :
    own_Fin p.tables e below (fun s₂ o => ∃ v L, o = .returned v ∧ Q v s₂.heap L ∧ FrameEnd s o s₂ L k n) (T.setTop (mkF m pc Ls (w :: rest))) := by
  obtain ⟨fs, hr, hrun, hended, hW, hsame⟩ := X.leave (v := some w) (fun h => by rw [hret] at h; cases h) hlocks
  exact ⟨_, _, retOut X hx hret hn hi hd hr, hrun, hended, _, _, rfl, hQ, ⟨_, rfl⟩, hW, hsame.mono h1 h2⟩
theorem own_r0 (X : Stand p l e R s m args below meth c T locs cells slots) (hx : p.tables.exec = Jvm.exec) {pc : Nat} {Ls : Array Slot} (hret : meth.sig.returnType = none)
    (hd : decode c.code pc = .ok (.return_, 1)) (hlocks : meth.locks = false) {Q : Option Value → Heap → List Loc → Prop} {k n : Nat} (h1 : cells ≤ k) (h2 : slots ≤ n) (hQ : Q none T.heap locs) :
    own_Fin p.tables e below (fun s₂ o => ∃ v L, o = .returned v ∧ Q v s₂.heap L ∧ FrameEnd s o s₂ L k n) (T.setTop (mkF m pc Ls [])) := by
  obtain ⟨fs, hr, hrun, hended, hW, hsame⟩ := X.leave (v := none) (fun _ => rfl) hlocks
  exact ⟨_, _, X.returnOut hx hret hd hr, hrun, hended, _, _, rfl, hQ, ⟨_, rfl⟩, hW, hsame.mono h1 h2⟩
theorem own_rvW {vm₁ : Vm} (X : Stand p l e R (s.setVm vm₁) m args below meth c T locs cells slots) {kk : Nat} (hS : s.Since vm₁ kk) (hk : kk ≤ T.heap.size) (hx : p.tables.exec = Jvm.exec) {pc : Nat} {Ls : Array Slot} {w : Value} {t : FieldType} {i : Instr} {rest : List Value} (hret : meth.sig.returnType = some t) (hn : narrow t w = w)
    (hi : (i = .ireturn ∧ (t = .int ∨ t = .boolean ∨ t = .byte ∨ t = .char ∨ t = .short) ∧ ∃ z, w = .int z) ∨ (i = .lreturn ∧ t = .long ∧ ∃ z, w = .long z) ∨ (i = .dreturn ∧ t = .double ∧ ∃ z, w = .double z) ∨ (i = .freturn ∧ t = .float ∧ ∃ z, w = .float z) ∨ (i = .areturn ∧ t.isReference = true ∧ w.isRef = true))
    (hd : decode c.code pc = .ok (i, 1)) (hlocks : meth.locks = false) {Q : Option Value → Heap → List Loc → Prop} {k n : Nat} (h1 : cells ≤ k) (h2 : slots ≤ n) (hQ : Q (some w) T.heap locs) :
    own_Fin p.tables e below (fun s₂ o => ∃ v L, o = .returned v ∧ Q v s₂.heap L ∧ ReturnedEndW s o s₂ L k n) (T.setTop (mkF m pc Ls (w :: rest))) := by
  obtain ⟨fs, hr, hrun, hended, q1, q2, q3, q4⟩ := leaveW X hS hk (v := some w) (fun h => by rw [hret] at h; cases h) hlocks
  exact ⟨_, _, retOut X hx hret hn hi hd hr, hrun, hended, _, _, rfl, hQ, q1, q2, q3, q4.mono h1 h2⟩
theorem own_r0W {vm₁ : Vm} (X : Stand p l e R (s.setVm vm₁) m args below meth c T locs cells slots) {kk : Nat} (hS : s.Since vm₁ kk) (hk : kk ≤ T.heap.size) (hx : p.tables.exec = Jvm.exec) {pc : Nat} {Ls : Array Slot} (hret : meth.sig.returnType = none)
    (hd : decode c.code pc = .ok (.return_, 1)) (hlocks : meth.locks = false) {Q : Option Value → Heap → List Loc → Prop} {k n : Nat} (h1 : cells ≤ k) (h2 : slots ≤ n) (hQ : Q none T.heap locs) :
    own_Fin p.tables e below (fun s₂ o => ∃ v L, o = .returned v ∧ Q v s₂.heap L ∧ ReturnedEndW s o s₂ L k n) (T.setTop (mkF m pc Ls [])) := by
  obtain ⟨fs, hr, hrun, hended, q1, q2, q3, q4⟩ := leaveW X hS hk (v := none) (fun _ => rfl) hlocks
  exact ⟨_, _, X.returnOut hx hret hd hr, hrun, hended, _, _, rfl, hQ, q1, q2, q3, q4.mono h1 h2⟩
theorem own_rvH {Z : State} {a0 : Array Value} {EL : List (String × Nat)} {h0 h : Heap} {vm₁ : Vm} (X : Stand p l e R (s.setVm vm₁) m args below meth c T locs cells slots) {kk : Nat} (hS : s.Since vm₁ kk) (hk : kk ≤ T.heap.size) (hZ : Z.Warmed39 vm₁) (hEL : EW Z a0 EL) (hh : s.heap = h0) (eT : T.heap = h) (CH : CHr Z EL s.vm h0 vm₁ h) (hx : p.tables.exec = Jvm.exec) {pc : Nat} {Ls : Array Slot} {w : Value} {t : FieldType} {i : Instr} {rest : List Value} (hret : meth.sig.returnType = some t) (hn : narrow t w = w)
    (hi : (i = .ireturn ∧ (t = .int ∨ t = .boolean ∨ t = .byte ∨ t = .char ∨ t = .short) ∧ ∃ z, w = .int z) ∨ (i = .lreturn ∧ t = .long ∧ ∃ z, w = .long z) ∨ (i = .dreturn ∧ t = .double ∧ ∃ z, w = .double z) ∨ (i = .freturn ∧ t = .float ∧ ∃ z, w = .float z) ∨ (i = .areturn ∧ t.isReference = true ∧ w.isRef = true))
    (hd : decode c.code pc = .ok (i, 1)) (hlocks : meth.locks = false) {Q : Option Value → Heap → List Loc → Prop} {k n : Nat} (h1 : cells ≤ k) (h2 : slots ≤ n) (hQ : Q (some w) T.heap locs) :
    own_Fin p.tables e below (fun s₂ o => ∃ v L, o = .returned v ∧ Q v s₂.heap L ∧ CHr Z EL s.vm s.heap s₂.vm s₂.heap ∧ ReturnedEndW s o s₂ L k n) (T.setTop (mkF m pc Ls (w :: rest))) := by
  obtain ⟨fs, hr, hrun, hended, q1, q2, q3, q4⟩ := leaveW X hS hk (v := some w) (fun h => by rw [hret] at h; cases h) hlocks
  subst eT hh
  have A := CH.trans (CHv.at X hZ hEL CH.1)
  exact ⟨_, _, retOut X hx hret hn hi hd hr, hrun, hended, _, _, rfl, hQ, A, q1, q2, q3, q4.mono h1 h2⟩
theorem own_r0H {Z : State} {a0 : Array Value} {EL : List (String × Nat)} {h0 h : Heap} {vm₁ : Vm} (X : Stand p l e R (s.setVm vm₁) m args below meth c T locs cells slots) {kk : Nat} (hS : s.Since vm₁ kk) (hk : kk ≤ T.heap.size) (hZ : Z.Warmed39 vm₁) (hEL : EW Z a0 EL) (hh : s.heap = h0) (eT : T.heap = h) (CH : CHr Z EL s.vm h0 vm₁ h) (hx : p.tables.exec = Jvm.exec) {pc : Nat} {Ls : Array Slot} (hret : meth.sig.returnType = none)
    (hd : decode c.code pc = .ok (.return_, 1)) (hlocks : meth.locks = false) {Q : Option Value → Heap → List Loc → Prop} {k n : Nat} (h1 : cells ≤ k) (h2 : slots ≤ n) (hQ : Q none T.heap locs) :
    own_Fin p.tables e below (fun s₂ o => ∃ v L, o = .returned v ∧ Q v s₂.heap L ∧ CHr Z EL s.vm s.heap s₂.vm s₂.heap ∧ ReturnedEndW s o s₂ L k n) (T.setTop (mkF m pc Ls [])) := by
  obtain ⟨fs, hr, hrun, hended, q1, q2, q3, q4⟩ := leaveW X hS hk (v := none) (fun _ => rfl) hlocks
  subst eT hh
  have A := CH.trans (CHv.at X hZ hEL CH.1)
  exact ⟨_, _, X.returnOut hx hret hd hr, hrun, hended, _, _, rfl, hQ, A, q1, q2, q3, q4.mono h1 h2⟩
theorem own_hk {h : Heap} {k : Nat} (e : T.heap = h) (hk : k ≤ h.size) : k ≤ T.heap.size := e ▸ hk
theorem own_rebZ {Z : State} {vm0 vm1 : Vm} {n : Nat} (hZ : Z.Warmed39 vm0) (h : (s.setVm vm0).Since vm1 n) : Z.Warmed39 vm1 := State.Warmed39.trans (t := s.setVm vm0) hZ h.1
theorem own_rebO {vm0 vm1 : Vm} {n : Nat} {own : String} {k : ClassId} (hown : vm0.findClass own = some k) (h : (s.setVm vm0).Since vm1 n) : vm1.findClass own = some k := by rw [h.1.alike.findClass]; exact hown
theorem own_noCast {Z : State} {a0 : Array Value} {X Y : String} {t : List String} {n : Nat} (hw : ∀ w ∈ Jvm.Cond.chainWords (X :: t), w.before a0 Z = true) (hY : (Jvm.Cond.instantiable Y n).before a0 Z = true) (hn : Y ∉ X :: t) : ∃ c t, Z.vm.findClass X = some c ∧ Z.vm.findClass Y = some t ∧ Z.vm.assignable c t = false := by
  obtain ⟨cx, k, hx, -, -, -⟩ := Cond.chain_head hw
  obtain ⟨cy, ky, hy, h2, h3, h4, -⟩ := Cond.instantiable_spec hY
  simp only [Bool.or_eq_false_iff] at h4
  exact ⟨cx, cy, hx, hy, Vm.notAssignable_of_chain hx hy h2 h3 h4.1 hw hn⟩
end
end OwnKit
def own_pick (o0 o1 o2 o3 o4 o5 o6 o7 o8 : Addr) (k : Int32) : Addr := if k = 0 then o0 else if k = 1 then o1 else if k = 2 then o2 else if k = 3 then o3 else if k = 4 then o4 else if k = 5 then o5 else if k = 6 then o6 else if k = 7 then o7 else o8
def own_ch (o0 o1 o2 o3 o4 o5 o6 o7 o8 : Addr) (k : Int32) : List Addr := if k = 0 then [o0] else if k = 1 then [o1, o0] else [own_pick o0 o1 o2 o3 o4 o5 o6 o7 o8 k, o1, o0]
def own_Chain (Z : State) (h : Heap) : Value → List Addr → Prop
  | v, [] => v = .null
  | v, a :: r => v = .ref a ∧ ∃ w, Fld Z h a "com/example/typelattice/typelattice/ItemTest" "supertype" "Lcom/example/typelattice/typelattice/ItemTest;" w ∧ own_Chain Z h w r
theorem own_chain_ref {Z : State} {h : Heap} {v : Value} {ch : List Addr} (q : own_Chain Z h v ch) : v.isRef = true := by
  cases ch with
  | nil => obtain rfl : v = .null := q; rfl
  | cons a r => obtain ⟨rfl, -⟩ := q; rfl
theorem own_nine {k : Int32} (b : 0 ≤ k.toInt ∧ k.toInt < 9) : k = 0 ∨ k = 1 ∨ k = 2 ∨ k = 3 ∨ k = 4 ∨ k = 5 ∨ k = 6 ∨ k = 7 ∨ k = 8 := by
  simp only [← Int32.toInt_inj]
  have e0 : (0 : Int32).toInt = 0 := by decide
  have e1 : (1 : Int32).toInt = 1 := by decide
  have e2 : (2 : Int32).toInt = 2 := by decide
  have e3 : (3 : Int32).toInt = 3 := by decide
  have e4 : (4 : Int32).toInt = 4 := by decide
  have e5 : (5 : Int32).toInt = 5 := by decide
  have e6 : (6 : Int32).toInt = 6 := by decide
  have e7 : (7 : Int32).toInt = 7 := by decide
  have e8 : (8 : Int32).toInt = 8 := by decide
  omega
theorem own_mod9 (x : Int32) : 0 ≤ ((x &&& (2147483647 : Int32)) % (9 : Int32)).toInt ∧ ((x &&& (2147483647 : Int32)) % (9 : Int32)).toInt < 9 := by
  have h : ¬ (x &&& (2147483647 : Int32)) < 0 := by rw [Jvm.Free.XT.and_neg32]; exact fun q => absurd q.2 (by decide)
  rw [Jvm.Free.XT.negI32] at h
  have q := (c_irem (x &&& (2147483647 : Int32)) 9 9 (by decide)).1 (by omega)
  rw [q]; omega
theorem own_pickE {Z : State} {h : Heap} {o0 o1 o2 o3 o4 o5 o6 o7 o8 : Addr} {k : Int32} (E0 : Exa Z h o0 "com/example/typelattice/typelattice/ItemTest") (E1 : Exa Z h o1 "com/example/typelattice/typelattice/ItemTest") (E2 : Exa Z h o2 "com/example/typelattice/typelattice/ItemTest") (E3 : Exa Z h o3 "com/example/typelattice/typelattice/ItemTest") (E4 : Exa Z h o4 "com/example/typelattice/typelattice/ItemTest") (E5 : Exa Z h o5 "com/example/typelattice/typelattice/ItemTest") (E6 : Exa Z h o6 "com/example/typelattice/typelattice/ItemTest") (E7 : Exa Z h o7 "com/example/typelattice/typelattice/ItemTest") (E8 : Exa Z h o8 "com/example/typelattice/typelattice/ItemTest") : Exa Z h (own_pick o0 o1 o2 o3 o4 o5 o6 o7 o8 k) "com/example/typelattice/typelattice/ItemTest" := by
  unfold own_pick
  repeat' split
  all_goals assumption
theorem own_pickO {Z : State} {h : Heap} {o0 o1 o2 o3 o4 o5 o6 o7 o8 : Addr} {k : Int32} (b : 0 ≤ k.toInt ∧ k.toInt < 9) (F0 : Fld Z h o0 "java/lang/Enum" "ordinal" "I" (.int (0 : Int32))) (F1 : Fld Z h o1 "java/lang/Enum" "ordinal" "I" (.int (1 : Int32))) (F2 : Fld Z h o2 "java/lang/Enum" "ordinal" "I" (.int (2 : Int32))) (F3 : Fld Z h o3 "java/lang/Enum" "ordinal" "I" (.int (3 : Int32))) (F4 : Fld Z h o4 "java/lang/Enum" "ordinal" "I" (.int (4 : Int32))) (F5 : Fld Z h o5 "java/lang/Enum" "ordinal" "I" (.int (5 : Int32))) (F6 : Fld Z h o6 "java/lang/Enum" "ordinal" "I" (.int (6 : Int32))) (F7 : Fld Z h o7 "java/lang/Enum" "ordinal" "I" (.int (7 : Int32))) (F8 : Fld Z h o8 "java/lang/Enum" "ordinal" "I" (.int (8 : Int32))) : Fld Z h (own_pick o0 o1 o2 o3 o4 o5 o6 o7 o8 k) "java/lang/Enum" "ordinal" "I" (.int k) := by
  rcases own_nine b with q | q | q | q | q | q | q | q | q <;> subst q <;> simpa [own_pick] using (by assumption)
theorem own_pickC {Z : State} {h : Heap} {o0 o1 o2 o3 o4 o5 o6 o7 o8 : Addr} {k : Int32} (b : 0 ≤ k.toInt ∧ k.toInt < 9) (F0 : Fld Z h o0 "com/example/typelattice/typelattice/ItemTest" "supertype" "Lcom/example/typelattice/typelattice/ItemTest;" .null) (F1 : Fld Z h o1 "com/example/typelattice/typelattice/ItemTest" "supertype" "Lcom/example/typelattice/typelattice/ItemTest;" (.ref o0)) (F2 : Fld Z h o2 "com/example/typelattice/typelattice/ItemTest" "supertype" "Lcom/example/typelattice/typelattice/ItemTest;" (.ref o1)) (F3 : Fld Z h o3 "com/example/typelattice/typelattice/ItemTest" "supertype" "Lcom/example/typelattice/typelattice/ItemTest;" (.ref o1)) (F4 : Fld Z h o4 "com/example/typelattice/typelattice/ItemTest" "supertype" "Lcom/example/typelattice/typelattice/ItemTest;" (.ref o1)) (F5 : Fld Z h o5 "com/example/typelattice/typelattice/ItemTest" "supertype" "Lcom/example/typelattice/typelattice/ItemTest;" (.ref o1)) (F6 : Fld Z h o6 "com/example/typelattice/typelattice/ItemTest" "supertype" "Lcom/example/typelattice/typelattice/ItemTest;" (.ref o1)) (F7 : Fld Z h o7 "com/example/typelattice/typelattice/ItemTest" "supertype" "Lcom/example/typelattice/typelattice/ItemTest;" (.ref o1)) (F8 : Fld Z h o8 "com/example/typelattice/typelattice/ItemTest" "supertype" "Lcom/example/typelattice/typelattice/ItemTest;" (.ref o1)) : own_Chain Z h (.ref (own_pick o0 o1 o2 o3 o4 o5 o6 o7 o8 k)) (own_ch o0 o1 o2 o3 o4 o5 o6 o7 o8 k) := by
  have c0 : own_Chain Z h (.ref o0) [o0] := ⟨rfl, _, F0, rfl⟩
  have c1 : own_Chain Z h (.ref o1) [o1, o0] := ⟨rfl, _, F1, c0⟩
  rcases own_nine b with q | q | q | q | q | q | q | q | q <;> subst q
  · exact c0
  · exact c1
  · exact ⟨rfl, _, F2, c1⟩
  · exact ⟨rfl, _, F3, c1⟩
  · exact ⟨rfl, _, F4, c1⟩
  · exact ⟨rfl, _, F5, c1⟩
  · exact ⟨rfl, _, F6, c1⟩
  · exact ⟨rfl, _, F7, c1⟩
  · exact ⟨rfl, _, F8, c1⟩
theorem own_inj {Z : State} {h : Heap} {o0 o1 o2 o3 o4 o5 o6 o7 o8 : Addr} {i j : Int32} (bi : 0 ≤ i.toInt ∧ i.toInt < 9) (bj : 0 ≤ j.toInt ∧ j.toInt < 9) (F0 : Fld Z h o0 "java/lang/Enum" "ordinal" "I" (.int (0 : Int32))) (F1 : Fld Z h o1 "java/lang/Enum" "ordinal" "I" (.int (1 : Int32))) (F2 : Fld Z h o2 "java/lang/Enum" "ordinal" "I" (.int (2 : Int32))) (F3 : Fld Z h o3 "java/lang/Enum" "ordinal" "I" (.int (3 : Int32))) (F4 : Fld Z h o4 "java/lang/Enum" "ordinal" "I" (.int (4 : Int32))) (F5 : Fld Z h o5 "java/lang/Enum" "ordinal" "I" (.int (5 : Int32))) (F6 : Fld Z h o6 "java/lang/Enum" "ordinal" "I" (.int (6 : Int32))) (F7 : Fld Z h o7 "java/lang/Enum" "ordinal" "I" (.int (7 : Int32))) (F8 : Fld Z h o8 "java/lang/Enum" "ordinal" "I" (.int (8 : Int32))) : own_pick o0 o1 o2 o3 o4 o5 o6 o7 o8 i = own_pick o0 o1 o2 o3 o4 o5 o6 o7 o8 j ↔ i = j := by
  constructor
  · intro q
    refine Classical.byContradiction fun ne => ?_
    exact absurd q ((own_pickO bi F0 F1 F2 F3 F4 F5 F6 F7 F8).ne (own_pickO bj F0 F1 F2 F3 F4 F5 F6 F7 F8) (fun z => ne (Value.int.inj z)))
  · rintro rfl; rfl
theorem own_mem {Z : State} {h : Heap} {o0 o1 o2 o3 o4 o5 o6 o7 o8 : Addr} {i j : Int32} (bi : 0 ≤ i.toInt ∧ i.toInt < 9) (bj : 0 ≤ j.toInt ∧ j.toInt < 9) (F0 : Fld Z h o0 "java/lang/Enum" "ordinal" "I" (.int (0 : Int32))) (F1 : Fld Z h o1 "java/lang/Enum" "ordinal" "I" (.int (1 : Int32))) (F2 : Fld Z h o2 "java/lang/Enum" "ordinal" "I" (.int (2 : Int32))) (F3 : Fld Z h o3 "java/lang/Enum" "ordinal" "I" (.int (3 : Int32))) (F4 : Fld Z h o4 "java/lang/Enum" "ordinal" "I" (.int (4 : Int32))) (F5 : Fld Z h o5 "java/lang/Enum" "ordinal" "I" (.int (5 : Int32))) (F6 : Fld Z h o6 "java/lang/Enum" "ordinal" "I" (.int (6 : Int32))) (F7 : Fld Z h o7 "java/lang/Enum" "ordinal" "I" (.int (7 : Int32))) (F8 : Fld Z h o8 "java/lang/Enum" "ordinal" "I" (.int (8 : Int32))) : decide (own_pick o0 o1 o2 o3 o4 o5 o6 o7 o8 j ∈ own_ch o0 o1 o2 o3 o4 o5 o6 o7 o8 i) = (decide (i = j) || (decide (j = 0) || (decide (j = 1) && !decide (i = 0)))) := by
  have k0 : own_pick o0 o1 o2 o3 o4 o5 o6 o7 o8 j = o0 ↔ j = 0 := own_inj (j := 0) bj (by decide) F0 F1 F2 F3 F4 F5 F6 F7 F8
  have k1 : own_pick o0 o1 o2 o3 o4 o5 o6 o7 o8 j = o1 ↔ j = 1 := own_inj (j := 1) bj (by decide) F0 F1 F2 F3 F4 F5 F6 F7 F8
  have ki : own_pick o0 o1 o2 o3 o4 o5 o6 o7 o8 j = own_pick o0 o1 o2 o3 o4 o5 o6 o7 o8 i ↔ j = i := own_inj bj bi F0 F1 F2 F3 F4 F5 F6 F7 F8
  unfold own_ch
  by_cases i0 : i = 0
  · subst i0
    have : (0 : Int32) = j ↔ j = 0 := eq_comm
    simp [k0, this]
  · by_cases i1 : i = 1
    · subst i1
      have : (1 : Int32) = j ↔ j = 1 := eq_comm
      rw [Bool.eq_iff_iff]
      simp [k0, k1, this]
      by_cases a : j = 1 <;> by_cases b : j = 0 <;> simp [a, b]
    · have e : decide (i = j) = decide (j = i) := by simp [eq_comm]
      rw [e, if_neg i0, if_neg i1, Bool.eq_iff_iff]
      simp [k0, k1, ki, i0]
      by_cases a : j = 1 <;> by_cases b : j = 0 <;> simp [a, b]
theorem own_ef_own_pk (m : MethodId) (p1 : Int32)  : entryFrame m #[(.int p1)] 1 = (mkF m 0 #[.val (.int p1)] []) := by first | (simp [entryFrame, mkF, argsToLocals, Value.category]; done) | rfl
theorem own_pn0 : plainName "com/example/typelattice/typelattice/ItemTestIsWithinPinLaw" = true := by first | (simp [plainName, overriddenIn]; done) | decide +kernel
theorem own_d0_0 : decode method_2_code 0 = .ok (.iload_n 0, 1) := by decide +kernel
theorem own_d0_1 : decode method_2_code 1 = .ok (.ifCond .ne 7, 3) := by decide +kernel
theorem own_d0_4 : decode method_2_code 4 = .ok (.getstatic 7, 3) := by decide +kernel
theorem own_d0_7 : decode method_2_code 7 = .ok (.areturn, 1) := by decide +kernel
theorem own_d0_8 : decode method_2_code 8 = .ok (.iload_n 0, 1) := by decide +kernel
theorem own_d0_9 : decode method_2_code 9 = .ok (.iconst 1, 1) := by decide +kernel
theorem own_d0_10 : decode method_2_code 10 = .ok (.if_icmp .ne 7, 3) := by decide +kernel
theorem own_d0_13 : decode method_2_code 13 = .ok (.getstatic 13, 3) := by decide +kernel
theorem own_d0_16 : decode method_2_code 16 = .ok (.areturn, 1) := by decide +kernel
theorem own_d0_17 : decode method_2_code 17 = .ok (.iload_n 0, 1) := by decide +kernel
theorem own_d0_18 : decode method_2_code 18 = .ok (.iconst 2, 1) := by decide +kernel
theorem own_d0_19 : decode method_2_code 19 = .ok (.if_icmp .ne 7, 3) := by decide +kernel
theorem own_d0_22 : decode method_2_code 22 = .ok (.getstatic 16, 3) := by decide +kernel
theorem own_d0_25 : decode method_2_code 25 = .ok (.areturn, 1) := by decide +kernel
theorem own_d0_26 : decode method_2_code 26 = .ok (.iload_n 0, 1) := by decide +kernel
theorem own_d0_27 : decode method_2_code 27 = .ok (.iconst 3, 1) := by decide +kernel
theorem own_d0_28 : decode method_2_code 28 = .ok (.if_icmp .ne 7, 3) := by decide +kernel
theorem own_d0_31 : decode method_2_code 31 = .ok (.getstatic 19, 3) := by decide +kernel
theorem own_d0_34 : decode method_2_code 34 = .ok (.areturn, 1) := by decide +kernel
theorem own_d0_35 : decode method_2_code 35 = .ok (.iload_n 0, 1) := by decide +kernel
theorem own_d0_36 : decode method_2_code 36 = .ok (.iconst 4, 1) := by decide +kernel
theorem own_d0_37 : decode method_2_code 37 = .ok (.if_icmp .ne 7, 3) := by decide +kernel
theorem own_d0_40 : decode method_2_code 40 = .ok (.getstatic 22, 3) := by decide +kernel
theorem own_d0_43 : decode method_2_code 43 = .ok (.areturn, 1) := by decide +kernel
theorem own_d0_44 : decode method_2_code 44 = .ok (.iload_n 0, 1) := by decide +kernel
theorem own_d0_45 : decode method_2_code 45 = .ok (.iconst 5, 1) := by decide +kernel
theorem own_d0_46 : decode method_2_code 46 = .ok (.if_icmp .ne 7, 3) := by decide +kernel
theorem own_d0_49 : decode method_2_code 49 = .ok (.getstatic 25, 3) := by decide +kernel
theorem own_d0_52 : decode method_2_code 52 = .ok (.areturn, 1) := by decide +kernel
theorem own_d0_53 : decode method_2_code 53 = .ok (.iload_n 0, 1) := by decide +kernel
theorem own_d0_54 : decode method_2_code 54 = .ok (.bipush 6, 2) := by decide +kernel
theorem own_d0_56 : decode method_2_code 56 = .ok (.if_icmp .ne 7, 3) := by decide +kernel
theorem own_d0_59 : decode method_2_code 59 = .ok (.getstatic 28, 3) := by decide +kernel
theorem own_d0_62 : decode method_2_code 62 = .ok (.areturn, 1) := by decide +kernel
theorem own_d0_63 : decode method_2_code 63 = .ok (.iload_n 0, 1) := by decide +kernel
theorem own_d0_64 : decode method_2_code 64 = .ok (.bipush 7, 2) := by decide +kernel
theorem own_d0_66 : decode method_2_code 66 = .ok (.if_icmp .ne 7, 3) := by decide +kernel
theorem own_d0_69 : decode method_2_code 69 = .ok (.getstatic 31, 3) := by decide +kernel
theorem own_d0_72 : decode method_2_code 72 = .ok (.areturn, 1) := by decide +kernel
theorem own_d0_73 : decode method_2_code 73 = .ok (.getstatic 34, 3) := by decide +kernel
theorem own_d0_76 : decode method_2_code 76 = .ok (.areturn, 1) := by decide +kernel
def own_Q_own_pk (Z : State) (p1 : Int32) (o0 : Addr) (o1 : Addr) (o2 : Addr) (o3 : Addr) (o4 : Addr) (o5 : Addr) (o6 : Addr) (o7 : Addr) (o8 : Addr) (h0 : Heap) (n0 : Nat) (v : Option Value) (h : Heap) (L : List Loc) : Prop := v = some (.ref (own_pick o0 o1 o2 o3 o4 o5 o6 o7 o8 p1)) ∧ Fr n0 L ∧ h = h0
set_option maxRecDepth 65536 in
set_option maxHeartbeats 40000000 in
theorem own_pk (l : Launch) (Z : State) (a0 : Array Value) (hw : ∀ d ∈ tables_1, d.before a0 Z = true) (ws : List Jvm.Cond) (p1 : Int32) (o0 : Addr) (o1 : Addr) (o2 : Addr) (o3 : Addr) (o4 : Addr) (o5 : Addr) (o6 : Addr) (o7 : Addr) (o8 : Addr) (h0 : Heap) (n0 : Nat) (O0 : Old Z n0 h0) (S0 : Sta Z h0 "com/example/typelattice/typelattice/ItemTest" "ITEM" "Lcom/example/typelattice/typelattice/ItemTest;" (.ref o0)) (S1 : Sta Z h0 "com/example/typelattice/typelattice/ItemTest" "NODE" "Lcom/example/typelattice/typelattice/ItemTest;" (.ref o1)) (S2 : Sta Z h0 "com/example/typelattice/typelattice/ItemTest" "DOCUMENT_NODE" "Lcom/example/typelattice/typelattice/ItemTest;" (.ref o2)) (S3 : Sta Z h0 "com/example/typelattice/typelattice/ItemTest" "ELEMENT" "Lcom/example/typelattice/typelattice/ItemTest;" (.ref o3)) (S4 : Sta Z h0 "com/example/typelattice/typelattice/ItemTest" "ATTRIBUTE" "Lcom/example/typelattice/typelattice/ItemTest;" (.ref o4)) (S5 : Sta Z h0 "com/example/typelattice/typelattice/ItemTest" "TEXT" "Lcom/example/typelattice/typelattice/ItemTest;" (.ref o5)) (S6 : Sta Z h0 "com/example/typelattice/typelattice/ItemTest" "COMMENT" "Lcom/example/typelattice/typelattice/ItemTest;" (.ref o6)) (S7 : Sta Z h0 "com/example/typelattice/typelattice/ItemTest" "PROCESSING_INSTRUCTION" "Lcom/example/typelattice/typelattice/ItemTest;" (.ref o7)) (S8 : Sta Z h0 "com/example/typelattice/typelattice/ItemTest" "NAMESPACE_NODE" "Lcom/example/typelattice/typelattice/ItemTest;" (.ref o8)) :
    MetFree l (⟨"com/example/typelattice/typelattice/ItemTestIsWithinPinLaw", "pick", "(I)Lcom/example/typelattice/typelattice/ItemTest;"⟩ : MethodName) (head1 (Jvm.Cond.code (⟨"com/example/typelattice/typelattice/ItemTestIsWithinPinLaw", "pick", "(I)Lcom/example/typelattice/typelattice/ItemTest;"⟩ : MethodName) method_2_code 1 (some (.object "com/example/typelattice/typelattice/ItemTest")) :: ws) ({ frames := 0, cells := 0, slots := 0, locals := 0 } : Room)) (fun a U => a = #[(.int p1)] ∧ Z.Warmed39 U.vm ∧ U.heap = h0) (fun _ _ _ _ _ => True) (fun _ U o U' => ∃ v L, o = .returned v ∧ own_Q_own_pk Z p1 o0 o1 o2 o3 o4 o5 o6 o7 o8 h0 n0 v U'.heap L ∧ FrameEnd U o U' L ({ frames := 0, cells := 0, slots := 0, locals := 0 } : Room).cells ({ frames := 0, cells := 0, slots := 0, locals := 0 } : Room).slots) := by
  refine MetFree.of_bodySF (plainFor_of_name own_pn0) hisR ?_
  intro p e s m args below meth c s₁ Bd hml0 hP hK
  obtain ⟨rfl, hZ, hh⟩ := hP
  have hx := Bd.exec
  have hby := Bd.bytes
  have hml : c.maxLocals = 1 := hml0
  have hown : s.vm.findClass "com/example/typelattice/typelattice/ItemTestIsWithinPinLaw" = some m.cls := findClass_of_methodNamed Bd.named
  have hnm := (name_of_methodNamed Bd.named Bd.method).1
  have X0 : Stand p l e ({ frames := 0, cells := 0, slots := 0, locals := 0 } : Room) s m #[(.int p1)] below meth c s₁ [] 0 0 := Stand.of_body Bd
  have e0 : s₁.heap = h0 := by rw [← hh, Bd.state]; rfl
  have N0 := Fr.nil n0
  show own_Fin p.tables e below (fun s₂ o => ∃ v L, o = .returned v ∧ own_Q_own_pk Z p1 o0 o1 o2 o3 o4 o5 o6 o7 o8 h0 n0 v s₂.heap L ∧ FrameEnd s o s₂ L ({ frames := 0, cells := 0, slots := 0, locals := 0 } : Room).cells ({ frames := 0, cells := 0, slots := 0, locals := 0 } : Room).slots) _
  generalize hG : (fun (s₂ : State) (o : Outcome) => ∃ v L, o = Outcome.returned v ∧ own_Q_own_pk Z p1 o0 o1 o2 o3 o4 o5 o6 o7 o8 h0 n0 v s₂.heap L ∧ FrameEnd s o s₂ L ({ frames := 0, cells := 0, slots := 0, locals := 0 } : Room).cells ({ frames := 0, cells := 0, slots := 0, locals := 0 } : Room).slots) = G
  refine own_go (fun _ k => castTop (own_ef_own_pk m p1) k) ?_
  show own_Fin p.tables e below G (s₁.setTop (mkF m 0 #[.val (.int p1)] []))
  refine own_go (fun _ k => XS.iloadN X0.here hx rfl (hb hby own_d0_0) rfl k) ?_
  show own_Fin p.tables e below G (s₁.setTop (mkF m 1 #[.val (.int p1)] [(.int p1)]))
  by_cases hc1 : p1 = 0
  · refine own_go (fun _ k => XS.ifNo X0.here hx rfl (hb hby own_d0_1) rfl (Jvm.Free.XT.i0_ne_f hc1) k) ?_
    show own_Fin p.tables e below G (s₁.setTop (mkF m 4 #[.val (.int p1)] []))
    obtain ⟨T1, X1, e1, st1⟩ := getS2 X0 hx hZ hown (host := "") (Or.inl (own_at hw 5 rfl)) Via.refl e0 S0 (g := (mkF m 4 #[.val (.int p1)] [])) rfl (hb hby own_d0_4)
    refine own_go st1 ?_
    show own_Fin p.tables e below G (T1.setTop (mkF m 7 #[.val (.int p1)] [(.ref o0)]))
    subst hG
    exact own_rv X1 hx (t := (.object "com/example/typelattice/typelattice/ItemTest")) Bd.returns rfl (Or.inr (Or.inr (Or.inr (Or.inr ⟨rfl, rfl, rfl⟩)))) (hb hby own_d0_7) Bd.notSynchronized (by decide) (by decide) ⟨by simp [own_pick, hc1], N0, e1⟩
  · refine own_go (fun _ k => XS.ifYes X0.here hx rfl (pc0 := 1) (pc' := 8) rfl (hb hby own_d0_1) rfl (Jvm.Free.XT.i0_ne_t hc1) (by decide) (by decide) k) ?_
    show own_Fin p.tables e below G (s₁.setTop (mkF m 8 #[.val (.int p1)] []))
    refine own_go (fun _ k => XS.iloadN X0.here hx rfl (hb hby own_d0_8) rfl k) ?_
    show own_Fin p.tables e below G (s₁.setTop (mkF m 9 #[.val (.int p1)] [(.int p1)]))
    refine own_go (fun _ k => XS.iconst X0.here hx rfl (hb hby own_d0_9)  k) ?_
    show own_Fin p.tables e below G (s₁.setTop (mkF m 10 #[.val (.int p1)] [(.int (1 : Int32)), (.int p1)]))
    by_cases hc10 : p1 = (1 : Int32)
    · refine own_go (fun _ k => XS.icmpNo X0.here hx rfl (hb hby own_d0_10) rfl (Jvm.Free.XT.ii_ne_f hc10) k) ?_
      show own_Fin p.tables e below G (s₁.setTop (mkF m 13 #[.val (.int p1)] []))
      obtain ⟨T2, X2, e2, st2⟩ := getS2 X0 hx hZ hown (host := "") (Or.inl (own_at hw 19 rfl)) Via.refl e0 S1 (g := (mkF m 13 #[.val (.int p1)] [])) rfl (hb hby own_d0_13)
      refine own_go st2 ?_
      show own_Fin p.tables e below G (T2.setTop (mkF m 16 #[.val (.int p1)] [(.ref o1)]))
      subst hG
      exact own_rv X2 hx (t := (.object "com/example/typelattice/typelattice/ItemTest")) Bd.returns rfl (Or.inr (Or.inr (Or.inr (Or.inr ⟨rfl, rfl, rfl⟩)))) (hb hby own_d0_16) Bd.notSynchronized (by decide) (by decide) ⟨by simp [own_pick, hc1, hc10], N0, e2⟩
    · refine own_go (fun _ k => XS.icmpYes X0.here hx rfl (pc0 := 10) (pc' := 17) rfl (hb hby own_d0_10) rfl (Jvm.Free.XT.ii_ne_t hc10) (by decide) (by decide) k) ?_
      show own_Fin p.tables e below G (s₁.setTop (mkF m 17 #[.val (.int p1)] []))
      refine own_go (fun _ k => XS.iloadN X0.here hx rfl (hb hby own_d0_17) rfl k) ?_
      show own_Fin p.tables e below G (s₁.setTop (mkF m 18 #[.val (.int p1)] [(.int p1)]))
      refine own_go (fun _ k => XS.iconst X0.here hx rfl (hb hby own_d0_18)  k) ?_
      show own_Fin p.tables e below G (s₁.setTop (mkF m 19 #[.val (.int p1)] [(.int (2 : Int32)), (.int p1)]))
      by_cases hc19 : p1 = (2 : Int32)
      · refine own_go (fun _ k => XS.icmpNo X0.here hx rfl (hb hby own_d0_19) rfl (Jvm.Free.XT.ii_ne_f hc19) k) ?_
        show own_Fin p.tables e below G (s₁.setTop (mkF m 22 #[.val (.int p1)] []))
        obtain ⟨T3, X3, e3, st3⟩ := getS2 X0 hx hZ hown (host := "") (Or.inl (own_at hw 21 rfl)) Via.refl e0 S2 (g := (mkF m 22 #[.val (.int p1)] [])) rfl (hb hby own_d0_22)
        refine own_go st3 ?_
        show own_Fin p.tables e below G (T3.setTop (mkF m 25 #[.val (.int p1)] [(.ref o2)]))
        subst hG
        exact own_rv X3 hx (t := (.object "com/example/typelattice/typelattice/ItemTest")) Bd.returns rfl (Or.inr (Or.inr (Or.inr (Or.inr ⟨rfl, rfl, rfl⟩)))) (hb hby own_d0_25) Bd.notSynchronized (by decide) (by decide) ⟨by simp [own_pick, hc1, hc10, hc19], N0, e3⟩
      · refine own_go (fun _ k => XS.icmpYes X0.here hx rfl (pc0 := 19) (pc' := 26) rfl (hb hby own_d0_19) rfl (Jvm.Free.XT.ii_ne_t hc19) (by decide) (by decide) k) ?_
        show own_Fin p.tables e below G (s₁.setTop (mkF m 26 #[.val (.int p1)] []))
        refine own_go (fun _ k => XS.iloadN X0.here hx rfl (hb hby own_d0_26) rfl k) ?_
        show own_Fin p.tables e below G (s₁.setTop (mkF m 27 #[.val (.int p1)] [(.int p1)]))
        refine own_go (fun _ k => XS.iconst X0.here hx rfl (hb hby own_d0_27)  k) ?_
        show own_Fin p.tables e below G (s₁.setTop (mkF m 28 #[.val (.int p1)] [(.int (3 : Int32)), (.int p1)]))
        by_cases hc28 : p1 = (3 : Int32)
        · refine own_go (fun _ k => XS.icmpNo X0.here hx rfl (hb hby own_d0_28) rfl (Jvm.Free.XT.ii_ne_f hc28) k) ?_
          show own_Fin p.tables e below G (s₁.setTop (mkF m 31 #[.val (.int p1)] []))
          obtain ⟨T4, X4, e4, st4⟩ := getS2 X0 hx hZ hown (host := "") (Or.inl (own_at hw 8 rfl)) Via.refl e0 S3 (g := (mkF m 31 #[.val (.int p1)] [])) rfl (hb hby own_d0_31)
          refine own_go st4 ?_
          show own_Fin p.tables e below G (T4.setTop (mkF m 34 #[.val (.int p1)] [(.ref o3)]))
          subst hG
          exact own_rv X4 hx (t := (.object "com/example/typelattice/typelattice/ItemTest")) Bd.returns rfl (Or.inr (Or.inr (Or.inr (Or.inr ⟨rfl, rfl, rfl⟩)))) (hb hby own_d0_34) Bd.notSynchronized (by decide) (by decide) ⟨by simp [own_pick, hc1, hc10, hc19, hc28], N0, e4⟩
        · refine own_go (fun _ k => XS.icmpYes X0.here hx rfl (pc0 := 28) (pc' := 35) rfl (hb hby own_d0_28) rfl (Jvm.Free.XT.ii_ne_t hc28) (by decide) (by decide) k) ?_
          show own_Fin p.tables e below G (s₁.setTop (mkF m 35 #[.val (.int p1)] []))
          refine own_go (fun _ k => XS.iloadN X0.here hx rfl (hb hby own_d0_35) rfl k) ?_
          show own_Fin p.tables e below G (s₁.setTop (mkF m 36 #[.val (.int p1)] [(.int p1)]))
          refine own_go (fun _ k => XS.iconst X0.here hx rfl (hb hby own_d0_36)  k) ?_
          show own_Fin p.tables e below G (s₁.setTop (mkF m 37 #[.val (.int p1)] [(.int (4 : Int32)), (.int p1)]))
          by_cases hc37 : p1 = (4 : Int32)
          · refine own_go (fun _ k => XS.icmpNo X0.here hx rfl (hb hby own_d0_37) rfl (Jvm.Free.XT.ii_ne_f hc37) k) ?_
            show own_Fin p.tables e below G (s₁.setTop (mkF m 40 #[.val (.int p1)] []))
            obtain ⟨T5, X5, e5, st5⟩ := getS2 X0 hx hZ hown (host := "") (Or.inl (own_at hw 23 rfl)) Via.refl e0 S4 (g := (mkF m 40 #[.val (.int p1)] [])) rfl (hb hby own_d0_40)
            refine own_go st5 ?_
            show own_Fin p.tables e below G (T5.setTop (mkF m 43 #[.val (.int p1)] [(.ref o4)]))
            subst hG
            exact own_rv X5 hx (t := (.object "com/example/typelattice/typelattice/ItemTest")) Bd.returns rfl (Or.inr (Or.inr (Or.inr (Or.inr ⟨rfl, rfl, rfl⟩)))) (hb hby own_d0_43) Bd.notSynchronized (by decide) (by decide) ⟨by simp [own_pick, hc1, hc10, hc19, hc28, hc37], N0, e5⟩
          · refine own_go (fun _ k => XS.icmpYes X0.here hx rfl (pc0 := 37) (pc' := 44) rfl (hb hby own_d0_37) rfl (Jvm.Free.XT.ii_ne_t hc37) (by decide) (by decide) k) ?_
            show own_Fin p.tables e below G (s₁.setTop (mkF m 44 #[.val (.int p1)] []))
            refine own_go (fun _ k => XS.iloadN X0.here hx rfl (hb hby own_d0_44) rfl k) ?_
            show own_Fin p.tables e below G (s₁.setTop (mkF m 45 #[.val (.int p1)] [(.int p1)]))
            refine own_go (fun _ k => XS.iconst X0.here hx rfl (hb hby own_d0_45)  k) ?_
            show own_Fin p.tables e below G (s₁.setTop (mkF m 46 #[.val (.int p1)] [(.int (5 : Int32)), (.int p1)]))
            by_cases hc46 : p1 = (5 : Int32)
            · refine own_go (fun _ k => XS.icmpNo X0.here hx rfl (hb hby own_d0_46) rfl (Jvm.Free.XT.ii_ne_f hc46) k) ?_
              show own_Fin p.tables e below G (s₁.setTop (mkF m 49 #[.val (.int p1)] []))
              obtain ⟨T6, X6, e6, st6⟩ := getS2 X0 hx hZ hown (host := "") (Or.inl (own_at hw 17 rfl)) Via.refl e0 S5 (g := (mkF m 49 #[.val (.int p1)] [])) rfl (hb hby own_d0_49)
              refine own_go st6 ?_
              show own_Fin p.tables e below G (T6.setTop (mkF m 52 #[.val (.int p1)] [(.ref o5)]))
              subst hG
              exact own_rv X6 hx (t := (.object "com/example/typelattice/typelattice/ItemTest")) Bd.returns rfl (Or.inr (Or.inr (Or.inr (Or.inr ⟨rfl, rfl, rfl⟩)))) (hb hby own_d0_52) Bd.notSynchronized (by decide) (by decide) ⟨by simp [own_pick, hc1, hc10, hc19, hc28, hc37, hc46], N0, e6⟩
            · refine own_go (fun _ k => XS.icmpYes X0.here hx rfl (pc0 := 46) (pc' := 53) rfl (hb hby own_d0_46) rfl (Jvm.Free.XT.ii_ne_t hc46) (by decide) (by decide) k) ?_
              show own_Fin p.tables e below G (s₁.setTop (mkF m 53 #[.val (.int p1)] []))
              refine own_go (fun _ k => XS.iloadN X0.here hx rfl (hb hby own_d0_53) rfl k) ?_
              show own_Fin p.tables e below G (s₁.setTop (mkF m 54 #[.val (.int p1)] [(.int p1)]))
              refine own_go (fun _ k => XS.bipush X0.here hx rfl (hb hby own_d0_54)  k) ?_
              show own_Fin p.tables e below G (s₁.setTop (mkF m 56 #[.val (.int p1)] [(.int (6 : Int32)), (.int p1)]))
              by_cases hc56 : p1 = (6 : Int32)
              · refine own_go (fun _ k => XS.icmpNo X0.here hx rfl (hb hby own_d0_56) rfl (Jvm.Free.XT.ii_ne_f hc56) k) ?_
                show own_Fin p.tables e below G (s₁.setTop (mkF m 59 #[.val (.int p1)] []))
                obtain ⟨T7, X7, e7, st7⟩ := getS2 X0 hx hZ hown (host := "") (Or.inl (own_at hw 25 rfl)) Via.refl e0 S6 (g := (mkF m 59 #[.val (.int p1)] [])) rfl (hb hby own_d0_59)
                refine own_go st7 ?_
                show own_Fin p.tables e below G (T7.setTop (mkF m 62 #[.val (.int p1)] [(.ref o6)]))
                subst hG
                exact own_rv X7 hx (t := (.object "com/example/typelattice/typelattice/ItemTest")) Bd.returns rfl (Or.inr (Or.inr (Or.inr (Or.inr ⟨rfl, rfl, rfl⟩)))) (hb hby own_d0_62) Bd.notSynchronized (by decide) (by decide) ⟨by simp [own_pick, hc1, hc10, hc19, hc28, hc37, hc46, hc56], N0, e7⟩
              · refine own_go (fun _ k => XS.icmpYes X0.here hx rfl (pc0 := 56) (pc' := 63) rfl (hb hby own_d0_56) rfl (Jvm.Free.XT.ii_ne_t hc56) (by decide) (by decide) k) ?_
                show own_Fin p.tables e below G (s₁.setTop (mkF m 63 #[.val (.int p1)] []))
                refine own_go (fun _ k => XS.iloadN X0.here hx rfl (hb hby own_d0_63) rfl k) ?_
                show own_Fin p.tables e below G (s₁.setTop (mkF m 64 #[.val (.int p1)] [(.int p1)]))
                refine own_go (fun _ k => XS.bipush X0.here hx rfl (hb hby own_d0_64)  k) ?_
                show own_Fin p.tables e below G (s₁.setTop (mkF m 66 #[.val (.int p1)] [(.int (7 : Int32)), (.int p1)]))
                by_cases hc66 : p1 = (7 : Int32)
                · refine own_go (fun _ k => XS.icmpNo X0.here hx rfl (hb hby own_d0_66) rfl (Jvm.Free.XT.ii_ne_f hc66) k) ?_
                  show own_Fin p.tables e below G (s₁.setTop (mkF m 69 #[.val (.int p1)] []))
                  obtain ⟨T8, X8, e8, st8⟩ := getS2 X0 hx hZ hown (host := "") (Or.inl (own_at hw 29 rfl)) Via.refl e0 S7 (g := (mkF m 69 #[.val (.int p1)] [])) rfl (hb hby own_d0_69)
                  refine own_go st8 ?_
                  show own_Fin p.tables e below G (T8.setTop (mkF m 72 #[.val (.int p1)] [(.ref o7)]))
                  subst hG
                  exact own_rv X8 hx (t := (.object "com/example/typelattice/typelattice/ItemTest")) Bd.returns rfl (Or.inr (Or.inr (Or.inr (Or.inr ⟨rfl, rfl, rfl⟩)))) (hb hby own_d0_72) Bd.notSynchronized (by decide) (by decide) ⟨by simp [own_pick, hc1, hc10, hc19, hc28, hc37, hc46, hc56, hc66], N0, e8⟩
                · refine own_go (fun _ k => XS.icmpYes X0.here hx rfl (pc0 := 66) (pc' := 73) rfl (hb hby own_d0_66) rfl (Jvm.Free.XT.ii_ne_t hc66) (by decide) (by decide) k) ?_
                  show own_Fin p.tables e below G (s₁.setTop (mkF m 73 #[.val (.int p1)] []))
                  obtain ⟨T9, X9, e9, st9⟩ := getS2 X0 hx hZ hown (host := "") (Or.inl (own_at hw 27 rfl)) Via.refl e0 S8 (g := (mkF m 73 #[.val (.int p1)] [])) rfl (hb hby own_d0_73)
                  refine own_go st9 ?_
                  show own_Fin p.tables e below G (T9.setTop (mkF m 76 #[.val (.int p1)] [(.ref o8)]))
                  subst hG
                  exact own_rv X9 hx (t := (.object "com/example/typelattice/typelattice/ItemTest")) Bd.returns rfl (Or.inr (Or.inr (Or.inr (Or.inr ⟨rfl, rfl, rfl⟩)))) (hb hby own_d0_76) Bd.notSynchronized (by decide) (by decide) ⟨by simp [own_pick, hc1, hc10, hc19, hc28, hc37, hc46, hc56, hc66], N0, e9⟩
theorem own_ef_own_wi (m : MethodId) (a1 : Addr) (ob : Addr)  : entryFrame m #[(.ref a1), (.ref ob)] 3 = (mkF m 0 #[.val (.ref a1), .val (.ref ob), .unset] []) := by first | (simp [entryFrame, mkF, argsToLocals, Value.category]; done) | rfl
theorem own_pn1 : plainName "com/example/typelattice/typelattice/ItemTest" = true := by first | (simp [plainName, overriddenIn]; done) | decide +kernel
theorem own_d1_2 : decode prog_84_method_5_code 2 = .ok (.aload_n 2, 1) := by decide +kernel
theorem own_d1_3 : decode prog_84_method_5_code 3 = .ok (.ifnull 18, 3) := by decide +kernel
theorem own_d1_21 : decode prog_84_method_5_code 21 = .ok (.iconst 0, 1) := by decide +kernel
theorem own_d1_22 : decode prog_84_method_5_code 22 = .ok (.ireturn, 1) := by decide +kernel
theorem own_d1_6 : decode prog_84_method_5_code 6 = .ok (.aload_n 2, 1) := by decide +kernel
theorem own_d1_7 : decode prog_84_method_5_code 7 = .ok (.aload_n 1, 1) := by decide +kernel
theorem own_d1_8 : decode prog_84_method_5_code 8 = .ok (.if_acmp .ne 5, 3) := by decide +kernel
theorem own_d1_11 : decode prog_84_method_5_code 11 = .ok (.iconst 1, 1) := by decide +kernel
theorem own_d1_12 : decode prog_84_method_5_code 12 = .ok (.ireturn, 1) := by decide +kernel
theorem own_d1_13 : decode prog_84_method_5_code 13 = .ok (.aload_n 2, 1) := by decide +kernel
theorem own_d1_14 : decode prog_84_method_5_code 14 = .ok (.getfield 54, 3) := by decide +kernel
theorem own_d1_17 : decode prog_84_method_5_code 17 = .ok (.astore_n 2, 1) := by decide +kernel
theorem own_d1_18 : decode prog_84_method_5_code 18 = .ok (.goto (-16), 3) := by decide +kernel
theorem own_d1_0 : decode prog_84_method_5_code 0 = .ok (.aload_n 0, 1) := by decide +kernel
theorem own_d1_1 : decode prog_84_method_5_code 1 = .ok (.astore_n 2, 1) := by decide +kernel
def own_Q_own_wi (Z : State) (a1 : Addr) (ob : Addr) (ch0 : List Addr) (h0 : Heap) (n0 : Nat) (v : Option Value) (h : Heap) (L : List Loc) : Prop := v = some (.int (own_bi (decide (ob ∈ ch0)))) ∧ Fr n0 L ∧ h = h0
set_option maxRecDepth 65536 in
set_option maxHeartbeats 40000000 in
theorem own_wi (l : Launch) (Z : State) (a0 : Array Value) (hw : ∀ d ∈ tables_1, d.before a0 Z = true) (ws : List Jvm.Cond) (a1 : Addr) (ob : Addr) (ch0 : List Addr) (h0 : Heap) (n0 : Nat) (O0 : Old Z n0 h0) (hch0 : own_Chain Z h0 (.ref a1) ch0) :
    MetFree l (⟨"com/example/typelattice/typelattice/ItemTest", "isWithin", "(Lcom/example/typelattice/typelattice/ItemTest;)Z"⟩ : MethodName) (head1 (Jvm.Cond.code (⟨"com/example/typelattice/typelattice/ItemTest", "isWithin", "(Lcom/example/typelattice/typelattice/ItemTest;)Z"⟩ : MethodName) prog_84_method_5_code 3 (some .boolean) :: ws) ({ frames := 0, cells := 0, slots := 0, locals := 0 } : Room)) (fun a U => a = #[(.ref a1), (.ref ob)] ∧ Z.Warmed39 U.vm ∧ U.heap = h0) (fun _ _ _ _ _ => True) (fun _ U o U' => ∃ v L, o = .returned v ∧ own_Q_own_wi Z a1 ob ch0 h0 n0 v U'.heap L ∧ FrameEnd U o U' L ({ frames := 0, cells := 0, slots := 0, locals := 0 } : Room).cells ({ frames := 0, cells := 0, slots := 0, locals := 0 } : Room).slots) := by
  refine MetFree.of_bodySF (plainFor_of_name own_pn1) hisR ?_
  intro p e s m args below meth c s₁ Bd hml0 hP hK
  obtain ⟨rfl, hZ, hh⟩ := hP
  have hx := Bd.exec
  have hby := Bd.bytes
  have hml : c.maxLocals = 3 := hml0
  have hown : s.vm.findClass "com/example/typelattice/typelattice/ItemTest" = some m.cls := findClass_of_methodNamed Bd.named
  have hnm := (name_of_methodNamed Bd.named Bd.method).1
  have X0 : Stand p l e ({ frames := 0, cells := 0, slots := 0, locals := 0 } : Room) s m #[(.ref a1), (.ref ob)] below meth c s₁ [] 0 0 := Stand.of_body Bd
  have e0 : s₁.heap = h0 := by rw [← hh, Bd.state]; rfl
  have N0 := Fr.nil n0
  show own_Fin p.tables e below (fun s₂ o => ∃ v L, o = .returned v ∧ own_Q_own_wi Z a1 ob ch0 h0 n0 v s₂.heap L ∧ FrameEnd s o s₂ L ({ frames := 0, cells := 0, slots := 0, locals := 0 } : Room).cells ({ frames := 0, cells := 0, slots := 0, locals := 0 } : Room).slots) _
  generalize hG : (fun (s₂ : State) (o : Outcome) => ∃ v L, o = Outcome.returned v ∧ own_Q_own_wi Z a1 ob ch0 h0 n0 v s₂.heap L ∧ FrameEnd s o s₂ L ({ frames := 0, cells := 0, slots := 0, locals := 0 } : Room).cells ({ frames := 0, cells := 0, slots := 0, locals := 0 } : Room).slots) = G
  refine own_go (fun _ k => castTop (own_ef_own_wi m a1 ob) k) ?_
  show own_Fin p.tables e below G (s₁.setTop (mkF m 0 #[.val (.ref a1), .val (.ref ob), .unset] []))
  have own_loop : ∀ (ch : List Addr) (v : Value), own_Chain Z h0 v ch → decide (ob ∈ ch) = decide (ob ∈ ch0) → ∀ (T : State) (X : Stand p l e ({ frames := 0, cells := 0, slots := 0, locals := 0 } : Room) s m #[(.ref a1), (.ref ob)] below meth c T [] 0 0) (eT : T.heap = h0), own_Fin p.tables e below G (T.setTop (mkF m 2 #[.val (.ref a1), .val (.ref ob), .val v] [])) := by
    intro ch
    induction ch with
    | nil =>
      intro v hch hm T X eT
      obtain rfl : v = .null := hch
      show own_Fin p.tables e below G (T.setTop (mkF m 2 #[.val (.ref a1), .val (.ref ob), .val .null] []))
      refine own_go (fun _ k => XS.aloadN X.here hx rfl (hb hby own_d1_2) rfl rfl k) ?_
      show own_Fin p.tables e below G (T.setTop (mkF m 3 #[.val (.ref a1), .val (.ref ob), .val .null] [.null]))
      refine own_go (fun _ k => XS.ifnullYes X.here hx rfl (pc0 := 3) (pc' := 21) rfl (hb hby own_d1_3) rfl (by decide) (by decide) k) ?_
      show own_Fin p.tables e below G (T.setTop (mkF m 21 #[.val (.ref a1), .val (.ref ob), .val .null] []))
      refine own_go (fun _ k => XS.iconst X.here hx rfl (hb hby own_d1_21)  k) ?_
      show own_Fin p.tables e below G (T.setTop (mkF m 22 #[.val (.ref a1), .val (.ref ob), .val .null] [(.int (0 : Int32))]))
      subst hG
      exact own_rv X hx (t := .boolean) Bd.returns rfl (Or.inl ⟨rfl, Or.inr (Or.inl rfl), _, rfl⟩) (hb hby own_d1_22) Bd.notSynchronized (by decide) (by decide) ⟨by rw [← hm]; rfl, N0, eT⟩
    | cons a r ih =>
      intro v hch hm T X eT
      obtain ⟨rfl, wv, hF, hr⟩ := hch
      have hv := own_chain_ref hr
      show own_Fin p.tables e below G (T.setTop (mkF m 2 #[.val (.ref a1), .val (.ref ob), .val (.ref a)] []))
      refine own_go (fun _ k => XS.aloadN X.here hx rfl (hb hby own_d1_2) rfl rfl k) ?_
      show own_Fin p.tables e below G (T.setTop (mkF m 3 #[.val (.ref a1), .val (.ref ob), .val (.ref a)] [(.ref a)]))
      refine own_go (fun _ k => XS.ifnullNo X.here hx rfl (hb hby own_d1_3) rfl k) ?_
      show own_Fin p.tables e below G (T.setTop (mkF m 6 #[.val (.ref a1), .val (.ref ob), .val (.ref a)] []))
      refine own_go (fun _ k => XS.aloadN X.here hx rfl (hb hby own_d1_6) rfl rfl k) ?_
      show own_Fin p.tables e below G (T.setTop (mkF m 7 #[.val (.ref a1), .val (.ref ob), .val (.ref a)] [(.ref a)]))
      refine own_go (fun _ k => XS.aloadN X.here hx rfl (hb hby own_d1_7) rfl rfl k) ?_
      show own_Fin p.tables e below G (T.setTop (mkF m 8 #[.val (.ref a1), .val (.ref ob), .val (.ref a)] [(.ref ob), (.ref a)]))
      by_cases hc8 : (Value.ref a) = (Value.ref ob)
      · refine own_go (fun _ k => Jvm.Free.XT.acmpNo X.here hx rfl (hb hby own_d1_8) rfl rfl rfl (Jvm.Free.XT.aa_ne_f hc8) k) ?_
        show own_Fin p.tables e below G (T.setTop (mkF m 11 #[.val (.ref a1), .val (.ref ob), .val (.ref a)] []))
        refine own_go (fun _ k => XS.iconst X.here hx rfl (hb hby own_d1_11)  k) ?_
        show own_Fin p.tables e below G (T.setTop (mkF m 12 #[.val (.ref a1), .val (.ref ob), .val (.ref a)] [(.int (1 : Int32))]))
        simp only [Value.ref.injEq] at hc8
        subst hG
        exact own_rv X hx (t := .boolean) Bd.returns rfl (Or.inl ⟨rfl, Or.inr (Or.inl rfl), _, rfl⟩) (hb hby own_d1_12) Bd.notSynchronized (by decide) (by decide) ⟨by rw [← hm]; simp [own_bi, hc8], N0, eT⟩
      · refine own_go (fun _ k => Jvm.Free.XT.acmpYes X.here hx rfl (pc0 := 8) (pc' := 13) rfl (hb hby own_d1_8) rfl rfl rfl (Jvm.Free.XT.aa_ne_t hc8) (by decide) (by decide) k) ?_
        show own_Fin p.tables e below G (T.setTop (mkF m 13 #[.val (.ref a1), .val (.ref ob), .val (.ref a)] []))
        simp only [Value.ref.injEq] at hc8
        refine own_go (fun _ k => XS.aloadN X.here hx rfl (hb hby own_d1_13) rfl rfl k) ?_
        show own_Fin p.tables e below G (T.setTop (mkF m 14 #[.val (.ref a1), .val (.ref ob), .val (.ref a)] [(.ref a)]))
        obtain ⟨T10, X10, e10, st10⟩ := getF X hx hZ hown (host := "") (Or.inl (own_at hw 15 rfl)) Via.refl eT hF (g := (mkF m 14 #[.val (.ref a1), .val (.ref ob), .val (.ref a)] [(.ref a)])) rfl rfl (hb hby own_d1_14)
        refine own_go st10 ?_
        show own_Fin p.tables e below G (T10.setTop (mkF m 17 #[.val (.ref a1), .val (.ref ob), .val (.ref a)] [wv]))
        refine own_go (fun _ k => XS.astoreN X10.here hx rfl (hb hby own_d1_17) rfl hv (l' := #[.val (.ref a1), .val (.ref ob), .val wv]) (by rcases Jvm.Free.XT.refc hv with rfl | ⟨_, rfl⟩ <;> rfl) k) ?_
        show own_Fin p.tables e below G (T10.setTop (mkF m 18 #[.val (.ref a1), .val (.ref ob), .val wv] []))
        refine own_go (fun _ k => XS.goto X10.here hx rfl (pc0 := 18) (pc' := 2) rfl (hb hby own_d1_18) (by decide) (by decide) k) ?_
        show own_Fin p.tables e below G (T10.setTop (mkF m 2 #[.val (.ref a1), .val (.ref ob), .val wv] []))
        exact ih wv hr (by rw [← hm]; simp [Ne.symm hc8]) _ X10 e10
  refine own_go (fun _ k => XS.aloadN X0.here hx rfl (hb hby own_d1_0) rfl rfl k) ?_
  show own_Fin p.tables e below G (s₁.setTop (mkF m 1 #[.val (.ref a1), .val (.ref ob), .unset] [(.ref a1)]))
  refine own_go (fun _ k => XS.astoreN X0.here hx rfl (hb hby own_d1_1) rfl rfl (l' := #[.val (.ref a1), .val (.ref ob), .val (.ref a1)]) rfl k) ?_
  show own_Fin p.tables e below G (s₁.setTop (mkF m 2 #[.val (.ref a1), .val (.ref ob), .val (.ref a1)] []))
  exact own_loop ch0 _ hch0 rfl _ X0 e0
theorem own_ef_own_law (m : MethodId) (p1 : Int32) (p2 : Int32)  : entryFrame m #[(.int p1), (.int p2)] maxLocals = (mkF m 0 #[.val (.int p1), .val (.int p2), .unset, .unset, .unset, .unset, .unset] []) := by first | (simp [entryFrame, mkF, argsToLocals, Value.category, maxLocals]; done) | rfl
theorem own_pd0 : parseMethodDescriptor "(I)Lcom/example/typelattice/typelattice/ItemTest;" = some ⟨[.int], some (.object "com/example/typelattice/typelattice/ItemTest")⟩ := by decide +kernel
theorem own_pd1 : parseMethodDescriptor "(Lcom/example/typelattice/typelattice/ItemTest;)Z" = some ⟨[(.object "com/example/typelattice/typelattice/ItemTest")], some .boolean⟩ := by decide +kernel
def own_Q_own_law (Z : State) (p1 : Int32) (p2 : Int32) (o0 : Addr) (o1 : Addr) (o2 : Addr) (o3 : Addr) (o4 : Addr) (o5 : Addr) (o6 : Addr) (o7 : Addr) (o8 : Addr) (h0 : Heap) (n0 : Nat) (v : Option Value) (h : Heap) (L : List Loc) : Prop := v = some (.int (1 : Int32)) ∧ Fr n0 L
set_option maxRecDepth 65536 in
set_option maxHeartbeats 40000000 in
theorem own_law (l : Launch) (Z : State) (a0 : Array Value) (hw : ∀ d ∈ tables_1, d.before a0 Z = true) (ws : List Jvm.Cond) (p1 : Int32) (p2 : Int32) (o0 : Addr) (o1 : Addr) (o2 : Addr) (o3 : Addr) (o4 : Addr) (o5 : Addr) (o6 : Addr) (o7 : Addr) (o8 : Addr) (h0 : Heap) (n0 : Nat) (O0 : Old Z n0 h0) (S0 : Sta Z h0 "com/example/typelattice/typelattice/ItemTest" "ITEM" "Lcom/example/typelattice/typelattice/ItemTest;" (.ref o0)) (S1 : Sta Z h0 "com/example/typelattice/typelattice/ItemTest" "NODE" "Lcom/example/typelattice/typelattice/ItemTest;" (.ref o1)) (S2 : Sta Z h0 "com/example/typelattice/typelattice/ItemTest" "DOCUMENT_NODE" "Lcom/example/typelattice/typelattice/ItemTest;" (.ref o2)) (S3 : Sta Z h0 "com/example/typelattice/typelattice/ItemTest" "ELEMENT" "Lcom/example/typelattice/typelattice/ItemTest;" (.ref o3)) (S4 : Sta Z h0 "com/example/typelattice/typelattice/ItemTest" "ATTRIBUTE" "Lcom/example/typelattice/typelattice/ItemTest;" (.ref o4)) (S5 : Sta Z h0 "com/example/typelattice/typelattice/ItemTest" "TEXT" "Lcom/example/typelattice/typelattice/ItemTest;" (.ref o5)) (S6 : Sta Z h0 "com/example/typelattice/typelattice/ItemTest" "COMMENT" "Lcom/example/typelattice/typelattice/ItemTest;" (.ref o6)) (S7 : Sta Z h0 "com/example/typelattice/typelattice/ItemTest" "PROCESSING_INSTRUCTION" "Lcom/example/typelattice/typelattice/ItemTest;" (.ref o7)) (S8 : Sta Z h0 "com/example/typelattice/typelattice/ItemTest" "NAMESPACE_NODE" "Lcom/example/typelattice/typelattice/ItemTest;" (.ref o8)) (E0 : Exa Z h0 o0 "com/example/typelattice/typelattice/ItemTest") (E1 : Exa Z h0 o1 "com/example/typelattice/typelattice/ItemTest") (E2 : Exa Z h0 o2 "com/example/typelattice/typelattice/ItemTest") (E3 : Exa Z h0 o3 "com/example/typelattice/typelattice/ItemTest") (E4 : Exa Z h0 o4 "com/example/typelattice/typelattice/ItemTest") (E5 : Exa Z h0 o5 "com/example/typelattice/typelattice/ItemTest") (E6 : Exa Z h0 o6 "com/example/typelattice/typelattice/ItemTest") (E7 : Exa Z h0 o7 "com/example/typelattice/typelattice/ItemTest") (E8 : Exa Z h0 o8 "com/example/typelattice/typelattice/ItemTest") (Fo0 : Fld Z h0 o0 "java/lang/Enum" "ordinal" "I" (.int (0 : Int32))) (Fo1 : Fld Z h0 o1 "java/lang/Enum" "ordinal" "I" (.int (1 : Int32))) (Fo2 : Fld Z h0 o2 "java/lang/Enum" "ordinal" "I" (.int (2 : Int32))) (Fo3 : Fld Z h0 o3 "java/lang/Enum" "ordinal" "I" (.int (3 : Int32))) (Fo4 : Fld Z h0 o4 "java/lang/Enum" "ordinal" "I" (.int (4 : Int32))) (Fo5 : Fld Z h0 o5 "java/lang/Enum" "ordinal" "I" (.int (5 : Int32))) (Fo6 : Fld Z h0 o6 "java/lang/Enum" "ordinal" "I" (.int (6 : Int32))) (Fo7 : Fld Z h0 o7 "java/lang/Enum" "ordinal" "I" (.int (7 : Int32))) (Fo8 : Fld Z h0 o8 "java/lang/Enum" "ordinal" "I" (.int (8 : Int32))) (Fs0 : Fld Z h0 o0 "com/example/typelattice/typelattice/ItemTest" "supertype" "Lcom/example/typelattice/typelattice/ItemTest;" .null) (Fs1 : Fld Z h0 o1 "com/example/typelattice/typelattice/ItemTest" "supertype" "Lcom/example/typelattice/typelattice/ItemTest;" (.ref o0)) (Fs2 : Fld Z h0 o2 "com/example/typelattice/typelattice/ItemTest" "supertype" "Lcom/example/typelattice/typelattice/ItemTest;" (.ref o1)) (Fs3 : Fld Z h0 o3 "com/example/typelattice/typelattice/ItemTest" "supertype" "Lcom/example/typelattice/typelattice/ItemTest;" (.ref o1)) (Fs4 : Fld Z h0 o4 "com/example/typelattice/typelattice/ItemTest" "supertype" "Lcom/example/typelattice/typelattice/ItemTest;" (.ref o1)) (Fs5 : Fld Z h0 o5 "com/example/typelattice/typelattice/ItemTest" "supertype" "Lcom/example/typelattice/typelattice/ItemTest;" (.ref o1)) (Fs6 : Fld Z h0 o6 "com/example/typelattice/typelattice/ItemTest" "supertype" "Lcom/example/typelattice/typelattice/ItemTest;" (.ref o1)) (Fs7 : Fld Z h0 o7 "com/example/typelattice/typelattice/ItemTest" "supertype" "Lcom/example/typelattice/typelattice/ItemTest;" (.ref o1)) (Fs8 : Fld Z h0 o8 "com/example/typelattice/typelattice/ItemTest" "supertype" "Lcom/example/typelattice/typelattice/ItemTest;" (.ref o1)) :
    MetFree l x (head1 (Jvm.Cond.code x code maxLocals ret :: ws) room_1) (fun a U => a = #[(.int p1), (.int p2)] ∧ Z.Warmed39 U.vm ∧ U.heap = h0) (fun _ _ _ _ _ => True) (fun _ U o U' => ∃ v L, o = .returned v ∧ own_Q_own_law Z p1 p2 o0 o1 o2 o3 o4 o5 o6 o7 o8 h0 n0 v U'.heap L ∧ FrameEnd U o U' L room_1.cells room_1.slots) := by
  refine MetFree.of_bodySF (plainFor_of_name own_pn0) hisR ?_
  intro p e s m args below meth c s₁ Bd hml0 hP hK
  obtain ⟨rfl, hZ, hh⟩ := hP
  have hx := Bd.exec
  have hby := Bd.bytes
  have hml : c.maxLocals = 7 := hml0
  have hown : s.vm.findClass "com/example/typelattice/typelattice/ItemTestIsWithinPinLaw" = some m.cls := findClass_of_methodNamed Bd.named
  have hnm := (name_of_methodNamed Bd.named Bd.method).1
  have X0 : Stand p l e room_1 s m #[(.int p1), (.int p2)] below meth c s₁ [] 0 0 := Stand.of_body Bd
  have e0 : s₁.heap = h0 := by rw [← hh, Bd.state]; rfl
  have N0 := Fr.nil n0
  show own_Fin p.tables e below (fun s₂ o => ∃ v L, o = .returned v ∧ own_Q_own_law Z p1 p2 o0 o1 o2 o3 o4 o5 o6 o7 o8 h0 n0 v s₂.heap L ∧ FrameEnd s o s₂ L room_1.cells room_1.slots) _
  generalize hG : (fun (s₂ : State) (o : Outcome) => ∃ v L, o = Outcome.returned v ∧ own_Q_own_law Z p1 p2 o0 o1 o2 o3 o4 o5 o6 o7 o8 h0 n0 v s₂.heap L ∧ FrameEnd s o s₂ L room_1.cells room_1.slots) = G
  refine own_go (fun _ k => castTop (own_ef_own_law m p1 p2) k) ?_
  show own_Fin p.tables e below G (s₁.setTop (mkF m 0 #[.val (.int p1), .val (.int p2), .unset, .unset, .unset, .unset, .unset] []))
  refine own_go (fun _ k => XS.iloadN X0.here hx rfl (hb hby at_0) rfl k) ?_
  show own_Fin p.tables e below G (s₁.setTop (mkF m 1 #[.val (.int p1), .val (.int p2), .unset, .unset, .unset, .unset, .unset] [(.int p1)]))
  refine own_go (fun _ k => X0.ldcInt hx hown (mvT hZ (own_at hw 0 rfl)) (g := (mkF m 1 #[.val (.int p1), .val (.int p2), .unset, .unset, .unset, .unset, .unset] [(.int p1)])) rfl (hb hby at_1) _ k) ?_
  show own_Fin p.tables e below G (s₁.setTop (mkF m 3 #[.val (.int p1), .val (.int p2), .unset, .unset, .unset, .unset, .unset] [(.int (2147483647 : Int32)), (.int p1)]))
  refine own_go (fun _ k => XS.iand X0.here hx rfl (hb hby at_3) rfl k) ?_
  show own_Fin p.tables e below G (s₁.setTop (mkF m 4 #[.val (.int p1), .val (.int p2), .unset, .unset, .unset, .unset, .unset] [(.int (p1 &&& (2147483647 : Int32)))]))
  refine own_go (fun _ k => XS.bipush X0.here hx rfl (hb hby at_4)  k) ?_
  show own_Fin p.tables e below G (s₁.setTop (mkF m 6 #[.val (.int p1), .val (.int p2), .unset, .unset, .unset, .unset, .unset] [(.int (9 : Int32)), (.int (p1 &&& (2147483647 : Int32)))]))
  refine own_go (fun _ k => iremM X0 hx rfl (hb hby at_6) rfl (by decide) k) ?_
  show own_Fin p.tables e below G (s₁.setTop (mkF m 7 #[.val (.int p1), .val (.int p2), .unset, .unset, .unset, .unset, .unset] [(.int ((p1 &&& (2147483647 : Int32)) % (9 : Int32)))]))
  have bi := own_mod9 p1
  generalize ((p1 &&& (2147483647 : Int32)) % (9 : Int32)) = i at bi ⊢
  refine own_go (fun _ k => XS.istoreN X0.here hx rfl (hb hby at_7) rfl (l' := #[.val (.int p1), .val (.int p2), .val (.int i), .unset, .unset, .unset, .unset]) rfl k) ?_
  show own_Fin p.tables e below G (s₁.setTop (mkF m 8 #[.val (.int p1), .val (.int p2), .val (.int i), .unset, .unset, .unset, .unset] []))
  refine own_go (fun _ k => XS.iloadN X0.here hx rfl (hb hby at_8) rfl k) ?_
  show own_Fin p.tables e below G (s₁.setTop (mkF m 9 #[.val (.int p1), .val (.int p2), .val (.int i), .unset, .unset, .unset, .unset] [(.int p2)]))
  refine own_go (fun _ k => X0.ldcInt hx hown (mvT hZ (own_at hw 0 rfl)) (g := (mkF m 9 #[.val (.int p1), .val (.int p2), .val (.int i), .unset, .unset, .unset, .unset] [(.int p2)])) rfl (hb hby at_9) _ k) ?_
  show own_Fin p.tables e below G (s₁.setTop (mkF m 11 #[.val (.int p1), .val (.int p2), .val (.int i), .unset, .unset, .unset, .unset] [(.int (2147483647 : Int32)), (.int p2)]))
  refine own_go (fun _ k => XS.iand X0.here hx rfl (hb hby at_11) rfl k) ?_
  show own_Fin p.tables e below G (s₁.setTop (mkF m 12 #[.val (.int p1), .val (.int p2), .val (.int i), .unset, .unset, .unset, .unset] [(.int (p2 &&& (2147483647 : Int32)))]))
  refine own_go (fun _ k => XS.bipush X0.here hx rfl (hb hby at_12)  k) ?_
  show own_Fin p.tables e below G (s₁.setTop (mkF m 14 #[.val (.int p1), .val (.int p2), .val (.int i), .unset, .unset, .unset, .unset] [(.int (9 : Int32)), (.int (p2 &&& (2147483647 : Int32)))]))
  refine own_go (fun _ k => iremM X0 hx rfl (hb hby at_14) rfl (by decide) k) ?_
  show own_Fin p.tables e below G (s₁.setTop (mkF m 15 #[.val (.int p1), .val (.int p2), .val (.int i), .unset, .unset, .unset, .unset] [(.int ((p2 &&& (2147483647 : Int32)) % (9 : Int32)))]))
  have bj := own_mod9 p2
  generalize ((p2 &&& (2147483647 : Int32)) % (9 : Int32)) = j at bj ⊢
  refine own_go (fun _ k => XS.istoreN X0.here hx rfl (hb hby at_15) rfl (l' := #[.val (.int p1), .val (.int p2), .val (.int i), .val (.int j), .unset, .unset, .unset]) rfl k) ?_
  show own_Fin p.tables e below G (s₁.setTop (mkF m 16 #[.val (.int p1), .val (.int p2), .val (.int i), .val (.int j), .unset, .unset, .unset] []))
  refine own_go (fun _ k => XS.iloadN X0.here hx rfl (hb hby at_16) rfl k) ?_
  show own_Fin p.tables e below G (s₁.setTop (mkF m 17 #[.val (.int p1), .val (.int p2), .val (.int i), .val (.int j), .unset, .unset, .unset] [(.int i)]))
  obtain ⟨_, _, ⟨T11, L11, k11, n11⟩, -, X11, ⟨Lc11, hQ11, l11, y11, z11⟩, st11⟩ := Jvm.LawKit.callS X0 hx (y := (⟨"com/example/typelattice/typelattice/ItemTestIsWithinPinLaw", "pick", "(I)Lcom/example/typelattice/typelattice/ItemTest;"⟩ : MethodName)) hown (mvT hZ (own_at hw 1 rfl)) (mvT hZ (own_at hw 2 rfl)) (mvT hZ (own_at hw 3 rfl)) (mvT hZ (own_at hw 4 rfl)) (by decide) (backOf (W := 0) (own_pk l Z a0 hw [] i o0 o1 o2 o3 o4 o5 o6 o7 o8 h0 n0 O0 S0 S1 S2 S3 S4 S5 S6 S7 S8) hZ (own_at hw 4 rfl) (own_at hw 3 rfl) (by decide) (by decide)) (g := (mkF m 17 #[.val (.int p1), .val (.int p2), .val (.int i), .val (.int j), .unset, .unset, .unset] [(.int i)])) rfl (by rw [hml]; rfl) (argsL := [(.int i)]) (rest := []) (lenOf own_pd0 rfl) rfl (by show 2 * 0 + _ ≤ _; exact Nat.le_of_eq rfl) (hb hby at_17) (fun _ _ => ⟨rfl, e0, (by decide : 0 + 0 ≤ _), (by decide : 0 + 0 ≤ _)⟩)
  dsimp only [Pt.U, Pt.locs, Pt.cells, Pt.slots] at X11 l11 y11 z11 st11 hQ11
  subst l11 y11 z11
  obtain ⟨rfl, N11q, e11⟩ := hQ11
  have N11 := Fr.app N0 N11q
  refine own_go st11 ?_
  show own_Fin p.tables e below G (T11.setTop (mkF m 20 #[.val (.int p1), .val (.int p2), .val (.int i), .val (.int j), .unset, .unset, .unset] [(.ref (own_pick o0 o1 o2 o3 o4 o5 o6 o7 o8 i))]))
  refine own_go (fun _ k => XS.astore X11.here hx rfl (hb hby at_20) rfl rfl (l' := #[.val (.int p1), .val (.int p2), .val (.int i), .val (.int j), .val (.ref (own_pick o0 o1 o2 o3 o4 o5 o6 o7 o8 i)), .unset, .unset]) rfl k) ?_
  show own_Fin p.tables e below G (T11.setTop (mkF m 22 #[.val (.int p1), .val (.int p2), .val (.int i), .val (.int j), .val (.ref (own_pick o0 o1 o2 o3 o4 o5 o6 o7 o8 i)), .unset, .unset] []))
  refine own_go (fun _ k => XS.iloadN X11.here hx rfl (hb hby at_22) rfl k) ?_
  show own_Fin p.tables e below G (T11.setTop (mkF m 23 #[.val (.int p1), .val (.int p2), .val (.int i), .val (.int j), .val (.ref (own_pick o0 o1 o2 o3 o4 o5 o6 o7 o8 i)), .unset, .unset] [(.int j)]))
  obtain ⟨_, _, ⟨T12, L12, k12, n12⟩, -, X12, ⟨Lc12, hQ12, l12, y12, z12⟩, st12⟩ := Jvm.LawKit.callS X11 hx (y := (⟨"com/example/typelattice/typelattice/ItemTestIsWithinPinLaw", "pick", "(I)Lcom/example/typelattice/typelattice/ItemTest;"⟩ : MethodName)) hown (mvT hZ (own_at hw 1 rfl)) (mvT hZ (own_at hw 2 rfl)) (mvT hZ (own_at hw 3 rfl)) (mvT hZ (own_at hw 4 rfl)) (by decide) (backOf (W := 0) (own_pk l Z a0 hw [] j o0 o1 o2 o3 o4 o5 o6 o7 o8 h0 n0 O0 S0 S1 S2 S3 S4 S5 S6 S7 S8) hZ (own_at hw 4 rfl) (own_at hw 3 rfl) (by decide) (by decide)) (g := (mkF m 23 #[.val (.int p1), .val (.int p2), .val (.int i), .val (.int j), .val (.ref (own_pick o0 o1 o2 o3 o4 o5 o6 o7 o8 i)), .unset, .unset] [(.int j)])) rfl (by rw [hml]; rfl) (argsL := [(.int j)]) (rest := []) (lenOf own_pd0 rfl) rfl (by show 2 * 0 + _ ≤ _; exact Nat.le_of_eq rfl) (hb hby at_23) (fun _ _ => ⟨rfl, e11, (by decide : 0 + 0 ≤ _), (by decide : 0 + 0 ≤ _)⟩)
  dsimp only [Pt.U, Pt.locs, Pt.cells, Pt.slots] at X12 l12 y12 z12 st12 hQ12
  subst l12 y12 z12
  obtain ⟨rfl, N12q, e12⟩ := hQ12
  have N12 := Fr.app N11 N12q
  refine own_go st12 ?_
  show own_Fin p.tables e below G (T12.setTop (mkF m 26 #[.val (.int p1), .val (.int p2), .val (.int i), .val (.int j), .val (.ref (own_pick o0 o1 o2 o3 o4 o5 o6 o7 o8 i)), .unset, .unset] [(.ref (own_pick o0 o1 o2 o3 o4 o5 o6 o7 o8 j))]))
  refine own_go (fun _ k => XS.astore X12.here hx rfl (hb hby at_26) rfl rfl (l' := #[.val (.int p1), .val (.int p2), .val (.int i), .val (.int j), .val (.ref (own_pick o0 o1 o2 o3 o4 o5 o6 o7 o8 i)), .val (.ref (own_pick o0 o1 o2 o3 o4 o5 o6 o7 o8 j)), .unset]) rfl k) ?_
  show own_Fin p.tables e below G (T12.setTop (mkF m 28 #[.val (.int p1), .val (.int p2), .val (.int i), .val (.int j), .val (.ref (own_pick o0 o1 o2 o3 o4 o5 o6 o7 o8 i)), .val (.ref (own_pick o0 o1 o2 o3 o4 o5 o6 o7 o8 j)), .unset] []))
  refine own_go (fun _ k => XS.iloadN X12.here hx rfl (hb hby at_28) rfl k) ?_
  show own_Fin p.tables e below G (T12.setTop (mkF m 29 #[.val (.int p1), .val (.int p2), .val (.int i), .val (.int j), .val (.ref (own_pick o0 o1 o2 o3 o4 o5 o6 o7 o8 i)), .val (.ref (own_pick o0 o1 o2 o3 o4 o5 o6 o7 o8 j)), .unset] [(.int i)]))
  refine own_go (fun _ k => XS.iloadN X12.here hx rfl (hb hby at_29) rfl k) ?_
  show own_Fin p.tables e below G (T12.setTop (mkF m 30 #[.val (.int p1), .val (.int p2), .val (.int i), .val (.int j), .val (.ref (own_pick o0 o1 o2 o3 o4 o5 o6 o7 o8 i)), .val (.ref (own_pick o0 o1 o2 o3 o4 o5 o6 o7 o8 j)), .unset] [(.int j), (.int i)]))
  suffices own_k51 : ∀ ex : Int32, ex = own_bi (decide (i = j) || (decide (j = 0) || (decide (j = 1) && !decide (i = 0)))) → own_Fin p.tables e below G (T12.setTop (mkF m 51 #[.val (.int p1), .val (.int p2), .val (.int i), .val (.int j), .val (.ref (own_pick o0 o1 o2 o3 o4 o5 o6 o7 o8 i)), .val (.ref (own_pick o0 o1 o2 o3 o4 o5 o6 o7 o8 j)), .unset] [(.int ex)])) by
    by_cases hc30 : i = j
    · refine own_go (fun _ k => XS.icmpYes X12.here hx rfl (pc0 := 30) (pc' := 46) rfl (hb hby at_30) rfl (Jvm.Free.XT.ii_eq_t hc30) (by decide) (by decide) k) ?_
      show own_Fin p.tables e below G (T12.setTop (mkF m 46 #[.val (.int p1), .val (.int p2), .val (.int i), .val (.int j), .val (.ref (own_pick o0 o1 o2 o3 o4 o5 o6 o7 o8 i)), .val (.ref (own_pick o0 o1 o2 o3 o4 o5 o6 o7 o8 j)), .unset] []))
      refine own_go (fun _ k => XS.iconst X12.here hx rfl (hb hby at_46)  k) ?_
      show own_Fin p.tables e below G (T12.setTop (mkF m 47 #[.val (.int p1), .val (.int p2), .val (.int i), .val (.int j), .val (.ref (own_pick o0 o1 o2 o3 o4 o5 o6 o7 o8 i)), .val (.ref (own_pick o0 o1 o2 o3 o4 o5 o6 o7 o8 j)), .unset] [(.int (1 : Int32))]))
      refine own_go (fun _ k => XS.goto X12.here hx rfl (pc0 := 47) (pc' := 51) rfl (hb hby at_47) (by decide) (by decide) k) ?_
      show own_Fin p.tables e below G (T12.setTop (mkF m 51 #[.val (.int p1), .val (.int p2), .val (.int i), .val (.int j), .val (.ref (own_pick o0 o1 o2 o3 o4 o5 o6 o7 o8 i)), .val (.ref (own_pick o0 o1 o2 o3 o4 o5 o6 o7 o8 j)), .unset] [(.int (1 : Int32))]))
      exact own_k51 _ (by simp [own_bi, hc30])
    · refine own_go (fun _ k => XS.icmpNo X12.here hx rfl (hb hby at_30) rfl (Jvm.Free.XT.ii_eq_f hc30) k) ?_
      show own_Fin p.tables e below G (T12.setTop (mkF m 33 #[.val (.int p1), .val (.int p2), .val (.int i), .val (.int j), .val (.ref (own_pick o0 o1 o2 o3 o4 o5 o6 o7 o8 i)), .val (.ref (own_pick o0 o1 o2 o3 o4 o5 o6 o7 o8 j)), .unset] []))
      refine own_go (fun _ k => XS.iloadN X12.here hx rfl (hb hby at_33) rfl k) ?_
      show own_Fin p.tables e below G (T12.setTop (mkF m 34 #[.val (.int p1), .val (.int p2), .val (.int i), .val (.int j), .val (.ref (own_pick o0 o1 o2 o3 o4 o5 o6 o7 o8 i)), .val (.ref (own_pick o0 o1 o2 o3 o4 o5 o6 o7 o8 j)), .unset] [(.int j)]))
      by_cases hc34 : j = 0
      · refine own_go (fun _ k => XS.ifYes X12.here hx rfl (pc0 := 34) (pc' := 46) rfl (hb hby at_34) rfl (Jvm.Free.XT.i0_eq_t hc34) (by decide) (by decide) k) ?_
        show own_Fin p.tables e below G (T12.setTop (mkF m 46 #[.val (.int p1), .val (.int p2), .val (.int i), .val (.int j), .val (.ref (own_pick o0 o1 o2 o3 o4 o5 o6 o7 o8 i)), .val (.ref (own_pick o0 o1 o2 o3 o4 o5 o6 o7 o8 j)), .unset] []))
        refine own_go (fun _ k => XS.iconst X12.here hx rfl (hb hby at_46)  k) ?_
        show own_Fin p.tables e below G (T12.setTop (mkF m 47 #[.val (.int p1), .val (.int p2), .val (.int i), .val (.int j), .val (.ref (own_pick o0 o1 o2 o3 o4 o5 o6 o7 o8 i)), .val (.ref (own_pick o0 o1 o2 o3 o4 o5 o6 o7 o8 j)), .unset] [(.int (1 : Int32))]))
        refine own_go (fun _ k => XS.goto X12.here hx rfl (pc0 := 47) (pc' := 51) rfl (hb hby at_47) (by decide) (by decide) k) ?_
        show own_Fin p.tables e below G (T12.setTop (mkF m 51 #[.val (.int p1), .val (.int p2), .val (.int i), .val (.int j), .val (.ref (own_pick o0 o1 o2 o3 o4 o5 o6 o7 o8 i)), .val (.ref (own_pick o0 o1 o2 o3 o4 o5 o6 o7 o8 j)), .unset] [(.int (1 : Int32))]))
        exact own_k51 _ (by simp [own_bi, hc30, hc34])
      · refine own_go (fun _ k => XS.ifNo X12.here hx rfl (hb hby at_34) rfl (Jvm.Free.XT.i0_eq_f hc34) k) ?_
        show own_Fin p.tables e below G (T12.setTop (mkF m 37 #[.val (.int p1), .val (.int p2), .val (.int i), .val (.int j), .val (.ref (own_pick o0 o1 o2 o3 o4 o5 o6 o7 o8 i)), .val (.ref (own_pick o0 o1 o2 o3 o4 o5 o6 o7 o8 j)), .unset] []))
        refine own_go (fun _ k => XS.iloadN X12.here hx rfl (hb hby at_37) rfl k) ?_
        show own_Fin p.tables e below G (T12.setTop (mkF m 38 #[.val (.int p1), .val (.int p2), .val (.int i), .val (.int j), .val (.ref (own_pick o0 o1 o2 o3 o4 o5 o6 o7 o8 i)), .val (.ref (own_pick o0 o1 o2 o3 o4 o5 o6 o7 o8 j)), .unset] [(.int j)]))
        refine own_go (fun _ k => XS.iconst X12.here hx rfl (hb hby at_38)  k) ?_
        show own_Fin p.tables e below G (T12.setTop (mkF m 39 #[.val (.int p1), .val (.int p2), .val (.int i), .val (.int j), .val (.ref (own_pick o0 o1 o2 o3 o4 o5 o6 o7 o8 i)), .val (.ref (own_pick o0 o1 o2 o3 o4 o5 o6 o7 o8 j)), .unset] [(.int (1 : Int32)), (.int j)]))
        by_cases hc39 : j = (1 : Int32)
        · refine own_go (fun _ k => XS.icmpNo X12.here hx rfl (hb hby at_39) rfl (Jvm.Free.XT.ii_ne_f hc39) k) ?_
          show own_Fin p.tables e below G (T12.setTop (mkF m 42 #[.val (.int p1), .val (.int p2), .val (.int i), .val (.int j), .val (.ref (own_pick o0 o1 o2 o3 o4 o5 o6 o7 o8 i)), .val (.ref (own_pick o0 o1 o2 o3 o4 o5 o6 o7 o8 j)), .unset] []))
          refine own_go (fun _ k => XS.iloadN X12.here hx rfl (hb hby at_42) rfl k) ?_
          show own_Fin p.tables e below G (T12.setTop (mkF m 43 #[.val (.int p1), .val (.int p2), .val (.int i), .val (.int j), .val (.ref (own_pick o0 o1 o2 o3 o4 o5 o6 o7 o8 i)), .val (.ref (own_pick o0 o1 o2 o3 o4 o5 o6 o7 o8 j)), .unset] [(.int i)]))
          by_cases hc43 : i = 0
          · refine own_go (fun _ k => XS.ifYes X12.here hx rfl (pc0 := 43) (pc' := 50) rfl (hb hby at_43) rfl (Jvm.Free.XT.i0_eq_t hc43) (by decide) (by decide) k) ?_
            show own_Fin p.tables e below G (T12.setTop (mkF m 50 #[.val (.int p1), .val (.int p2), .val (.int i), .val (.int j), .val (.ref (own_pick o0 o1 o2 o3 o4 o5 o6 o7 o8 i)), .val (.ref (own_pick o0 o1 o2 o3 o4 o5 o6 o7 o8 j)), .unset] []))
            refine own_go (fun _ k => XS.iconst X12.here hx rfl (hb hby at_50)  k) ?_
            show own_Fin p.tables e below G (T12.setTop (mkF m 51 #[.val (.int p1), .val (.int p2), .val (.int i), .val (.int j), .val (.ref (own_pick o0 o1 o2 o3 o4 o5 o6 o7 o8 i)), .val (.ref (own_pick o0 o1 o2 o3 o4 o5 o6 o7 o8 j)), .unset] [(.int (0 : Int32))]))
            exact own_k51 _ (by simp [own_bi, hc30, hc34, hc39, hc43])
          · refine own_go (fun _ k => XS.ifNo X12.here hx rfl (hb hby at_43) rfl (Jvm.Free.XT.i0_eq_f hc43) k) ?_
            show own_Fin p.tables e below G (T12.setTop (mkF m 46 #[.val (.int p1), .val (.int p2), .val (.int i), .val (.int j), .val (.ref (own_pick o0 o1 o2 o3 o4 o5 o6 o7 o8 i)), .val (.ref (own_pick o0 o1 o2 o3 o4 o5 o6 o7 o8 j)), .unset] []))
            refine own_go (fun _ k => XS.iconst X12.here hx rfl (hb hby at_46)  k) ?_
            show own_Fin p.tables e below G (T12.setTop (mkF m 47 #[.val (.int p1), .val (.int p2), .val (.int i), .val (.int j), .val (.ref (own_pick o0 o1 o2 o3 o4 o5 o6 o7 o8 i)), .val (.ref (own_pick o0 o1 o2 o3 o4 o5 o6 o7 o8 j)), .unset] [(.int (1 : Int32))]))
            refine own_go (fun _ k => XS.goto X12.here hx rfl (pc0 := 47) (pc' := 51) rfl (hb hby at_47) (by decide) (by decide) k) ?_
            show own_Fin p.tables e below G (T12.setTop (mkF m 51 #[.val (.int p1), .val (.int p2), .val (.int i), .val (.int j), .val (.ref (own_pick o0 o1 o2 o3 o4 o5 o6 o7 o8 i)), .val (.ref (own_pick o0 o1 o2 o3 o4 o5 o6 o7 o8 j)), .unset] [(.int (1 : Int32))]))
            exact own_k51 _ (by simp [own_bi, hc30, hc34, hc39, hc43])
        · refine own_go (fun _ k => XS.icmpYes X12.here hx rfl (pc0 := 39) (pc' := 50) rfl (hb hby at_39) rfl (Jvm.Free.XT.ii_ne_t hc39) (by decide) (by decide) k) ?_
          show own_Fin p.tables e below G (T12.setTop (mkF m 50 #[.val (.int p1), .val (.int p2), .val (.int i), .val (.int j), .val (.ref (own_pick o0 o1 o2 o3 o4 o5 o6 o7 o8 i)), .val (.ref (own_pick o0 o1 o2 o3 o4 o5 o6 o7 o8 j)), .unset] []))
          refine own_go (fun _ k => XS.iconst X12.here hx rfl (hb hby at_50)  k) ?_
          show own_Fin p.tables e below G (T12.setTop (mkF m 51 #[.val (.int p1), .val (.int p2), .val (.int i), .val (.int j), .val (.ref (own_pick o0 o1 o2 o3 o4 o5 o6 o7 o8 i)), .val (.ref (own_pick o0 o1 o2 o3 o4 o5 o6 o7 o8 j)), .unset] [(.int (0 : Int32))]))
          exact own_k51 _ (by simp [own_bi, hc30, hc34, hc39])
  intro ex hex
  have Ei := own_pickE (Z := Z) (h := h0) (k := i) E0 E1 E2 E3 E4 E5 E6 E7 E8
  have hch := own_pickC (Z := Z) (h := h0) (k := i) bi Fs0 Fs1 Fs2 Fs3 Fs4 Fs5 Fs6 Fs7 Fs8
  have hmem := own_mem (Z := Z) (h := h0) (i := i) (j := j) bi bj Fo0 Fo1 Fo2 Fo3 Fo4 Fo5 Fo6 Fo7 Fo8
  refine own_go (fun _ k => XS.istore X12.here hx rfl (hb hby at_51) rfl (l' := #[.val (.int p1), .val (.int p2), .val (.int i), .val (.int j), .val (.ref (own_pick o0 o1 o2 o3 o4 o5 o6 o7 o8 i)), .val (.ref (own_pick o0 o1 o2 o3 o4 o5 o6 o7 o8 j)), .val (.int ex)]) rfl k) ?_
  show own_Fin p.tables e below G (T12.setTop (mkF m 53 #[.val (.int p1), .val (.int p2), .val (.int i), .val (.int j), .val (.ref (own_pick o0 o1 o2 o3 o4 o5 o6 o7 o8 i)), .val (.ref (own_pick o0 o1 o2 o3 o4 o5 o6 o7 o8 j)), .val (.int ex)] []))
  refine own_go (fun _ k => XS.aload X12.here hx rfl (hb hby at_53) rfl rfl k) ?_
  show own_Fin p.tables e below G (T12.setTop (mkF m 55 #[.val (.int p1), .val (.int p2), .val (.int i), .val (.int j), .val (.ref (own_pick o0 o1 o2 o3 o4 o5 o6 o7 o8 i)), .val (.ref (own_pick o0 o1 o2 o3 o4 o5 o6 o7 o8 j)), .val (.int ex)] [(.ref (own_pick o0 o1 o2 o3 o4 o5 o6 o7 o8 i))]))
  refine own_go (fun _ k => XS.aload X12.here hx rfl (hb hby at_55) rfl rfl k) ?_
  show own_Fin p.tables e below G (T12.setTop (mkF m 57 #[.val (.int p1), .val (.int p2), .val (.int i), .val (.int j), .val (.ref (own_pick o0 o1 o2 o3 o4 o5 o6 o7 o8 i)), .val (.ref (own_pick o0 o1 o2 o3 o4 o5 o6 o7 o8 j)), .val (.int ex)] [(.ref (own_pick o0 o1 o2 o3 o4 o5 o6 o7 o8 j)), (.ref (own_pick o0 o1 o2 o3 o4 o5 o6 o7 o8 i))]))
  obtain ⟨cq13, kq13, q13a, q13b, q13c⟩ := isOf hZ e12 Ei
  obtain ⟨_, _, ⟨T13, L13, k13, n13⟩, -, X13, ⟨Lc13, hQ13, l13, y13, z13⟩, st13⟩ := X12.virtualBack hx (y := (⟨"com/example/typelattice/typelattice/ItemTest", "isWithin", "(Lcom/example/typelattice/typelattice/ItemTest;)Z"⟩ : MethodName)) (z := (⟨"com/example/typelattice/typelattice/ItemTest", "isWithin", "(Lcom/example/typelattice/typelattice/ItemTest;)Z"⟩ : MethodName)) hown (mvT hZ (own_at hw 10 rfl)) (mvT hZ (own_at hw 11 rfl)) (notFace_of_selects (args := #[]) (mvT hZ (own_at hw 13 rfl))) (mvT hZ (own_at hw 13 rfl)) (mvT hZ (own_at hw 12 rfl)) (by decide) (backOf (W := 0) (own_wi l Z a0 hw [] (own_pick o0 o1 o2 o3 o4 o5 o6 o7 o8 i) (own_pick o0 o1 o2 o3 o4 o5 o6 o7 o8 j) (own_ch o0 o1 o2 o3 o4 o5 o6 o7 o8 i) h0 n0 O0 hch) hZ (own_at hw 14 rfl) (own_at hw 6 rfl) (by decide) (by decide)) q13a q13c (g := (mkF m 57 #[.val (.int p1), .val (.int p2), .val (.int i), .val (.int j), .val (.ref (own_pick o0 o1 o2 o3 o4 o5 o6 o7 o8 i)), .val (.ref (own_pick o0 o1 o2 o3 o4 o5 o6 o7 o8 j)), .val (.int ex)] [(.ref (own_pick o0 o1 o2 o3 o4 o5 o6 o7 o8 j)), (.ref (own_pick o0 o1 o2 o3 o4 o5 o6 o7 o8 i))])) rfl (by rw [hml]; rfl) (Steps.refl _) (argsL := [(.ref (own_pick o0 o1 o2 o3 o4 o5 o6 o7 o8 j))]) (rest := []) (lenOf own_pd1 rfl) rfl (by show 2 * 0 + _ ≤ _; exact Nat.le_of_eq rfl) (hb hby at_57) (fun _ _ => ⟨rfl, e12, (by decide : 0 + 0 ≤ _), (by decide : 0 + 0 ≤ _)⟩)
  dsimp only [Pt.U, Pt.locs, Pt.cells, Pt.slots] at X13 l13 y13 z13 st13 hQ13
  subst l13 y13 z13
  obtain ⟨rfl, N13q, e13⟩ := hQ13
  have N13 := Fr.app N12 N13q
  refine own_go (fun _ k => st13.trans k) ?_
  show own_Fin p.tables e below G (T13.setTop (mkF m 60 #[.val (.int p1), .val (.int p2), .val (.int i), .val (.int j), .val (.ref (own_pick o0 o1 o2 o3 o4 o5 o6 o7 o8 i)), .val (.ref (own_pick o0 o1 o2 o3 o4 o5 o6 o7 o8 j)), .val (.int ex)] [(.int (own_bi (decide ((own_pick o0 o1 o2 o3 o4 o5 o6 o7 o8 j) ∈ own_ch o0 o1 o2 o3 o4 o5 o6 o7 o8 i))))]))
  refine own_go (fun _ k => XS.iload X13.here hx rfl (hb hby at_60) rfl k) ?_
  show own_Fin p.tables e below G (T13.setTop (mkF m 62 #[.val (.int p1), .val (.int p2), .val (.int i), .val (.int j), .val (.ref (own_pick o0 o1 o2 o3 o4 o5 o6 o7 o8 i)), .val (.ref (own_pick o0 o1 o2 o3 o4 o5 o6 o7 o8 j)), .val (.int ex)] [(.int ex), (.int (own_bi (decide ((own_pick o0 o1 o2 o3 o4 o5 o6 o7 o8 j) ∈ own_ch o0 o1 o2 o3 o4 o5 o6 o7 o8 i))))]))
  refine own_go (fun _ k => XS.icmpNo X13.here hx rfl (hb hby at_62) rfl (Jvm.Free.XT.ii_ne_f ((congrArg own_bi hmem).trans hex.symm)) k) ?_
  show own_Fin p.tables e below G (T13.setTop (mkF m 65 #[.val (.int p1), .val (.int p2), .val (.int i), .val (.int j), .val (.ref (own_pick o0 o1 o2 o3 o4 o5 o6 o7 o8 i)), .val (.ref (own_pick o0 o1 o2 o3 o4 o5 o6 o7 o8 j)), .val (.int ex)] []))
  refine own_go (fun _ k => XS.iconst X13.here hx rfl (hb hby at_65)  k) ?_
  show own_Fin p.tables e below G (T13.setTop (mkF m 66 #[.val (.int p1), .val (.int p2), .val (.int i), .val (.int j), .val (.ref (own_pick o0 o1 o2 o3 o4 o5 o6 o7 o8 i)), .val (.ref (own_pick o0 o1 o2 o3 o4 o5 o6 o7 o8 j)), .val (.int ex)] [(.int (1 : Int32))]))
  refine own_go (fun _ k => XS.goto X13.here hx rfl (pc0 := 66) (pc' := 70) rfl (hb hby at_66) (by decide) (by decide) k) ?_
  show own_Fin p.tables e below G (T13.setTop (mkF m 70 #[.val (.int p1), .val (.int p2), .val (.int i), .val (.int j), .val (.ref (own_pick o0 o1 o2 o3 o4 o5 o6 o7 o8 i)), .val (.ref (own_pick o0 o1 o2 o3 o4 o5 o6 o7 o8 j)), .val (.int ex)] [(.int (1 : Int32))]))
  subst hG
  exact own_rv X13 hx (t := .boolean) Bd.returns rfl (Or.inl ⟨rfl, Or.inr (Or.inl rfl), _, rfl⟩) (hb hby at_70) Bd.notSynchronized (by decide) (by decide) ⟨rfl, N13⟩
set_option maxRecDepth 65536 in
set_option maxHeartbeats 40000000 in
theorem comes_1 {Post : Tables → Env → Array Value → State → Outcome → State → Prop} (hpost : ∀ tb e args s v u, (limb_1_1.after args s (.returned v) u = true ∧ limb_1_2.after args s (.returned v) u = true ∧ True) → FrameEnd s (.returned v) u (Jvm.fieldLocs frame_1_writes args s ++ Jvm.arrayLocs frame_1_arrays args s ++ Jvm.staticLocs frame_1_statics s) 0 0 → Post tb e args s (.returned v) u) :
    ArmFor flags0 classFile x code maxLocals ret World_1 tables_1 room_1 Calls_1 rest_1 Pre_1 Post := by
  intro l hfl _ _ p e ha hc hk s m args below hf hA hF happ hP
  obtain ⟨hcalls, hrest, hpre⟩ := hP
  obtain ⟨-, -, -, hnamed, -, -, -, hat⟩ := (Spec.applies_iff hf).mp happ
  obtain ⟨hg, hn⟩ := and_e (Cond.before_iff.mp (show (Jvm.Cond.and given_1 narrow_1).before args s = true from hpre))
  obtain ⟨g14, g15⟩ := and_e hg
  obtain ⟨g16, g17⟩ := and_e g15
  obtain ⟨g18, g19⟩ := and_e hn
  obtain ⟨g20, g21⟩ := and_e g19
  obtain ⟨g22, g23⟩ := and_e g21
  obtain ⟨g24, g25⟩ := and_e g23
  obtain ⟨g26, g27⟩ := and_e g25
  obtain ⟨g28, g29⟩ := and_e g27
  obtain ⟨g30, g31⟩ := and_e g29
  obtain ⟨g32, g33⟩ := and_e g31
  obtain ⟨g34, g35⟩ := and_e g33
  obtain ⟨g36, g37⟩ := and_e g35
  obtain ⟨g38, g39⟩ := and_e g37
  obtain ⟨g40, g41⟩ := and_e g39
  obtain ⟨g42, g43⟩ := and_e g41
  obtain ⟨g44, g45⟩ := and_e g43
  obtain ⟨g46, g47⟩ := and_e g45
  obtain ⟨g48, g49⟩ := and_e g47
  obtain ⟨g50, g51⟩ := and_e g49
  obtain ⟨g52, g53⟩ := and_e g51
  obtain ⟨g54, g55⟩ := and_e g53
  obtain ⟨g56, g57⟩ := and_e g55
  obtain ⟨g58, g59⟩ := and_e g57
  obtain ⟨g60, g61⟩ := and_e g59
  obtain ⟨g62, g63⟩ := and_e g61
  obtain ⟨g64, g65⟩ := and_e g63
  obtain ⟨g66, g67⟩ := and_e g65
  obtain ⟨g68, g69⟩ := and_e g67
  obtain ⟨w0, w1, rfl⟩ : ∃ w0 w1 : Value, args = #[w0, w1] := by
    have hs : args.size = 2 := by simpa [Cond.value, given_1] using g14
    obtain ⟨L⟩ := args
    match L, hs with
    | [w0, w1], _ => exact ⟨w0, w1, rfl⟩
  have hw := fun d (hd : d ∈ tables_1) => atoms_spec (ws := Jvm.Cond.code x code maxLocals ret :: tables_1) hat d (List.mem_cons_of_mem _ hd)
  have hfit : Fit s := fun {y c} hc i hi => by
    obtain ⟨ha, rfl⟩ := Array.getElem?_eq_some_iff.mp hc
    have q := List.all_eq_true.mp ((Array.all_eq_true_iff_forall_mem.mp hF) _ (Array.getElem_mem ha)) i (List.mem_range.mpr hi)
    simpa [Array.getElem?_eq_getElem hi] using q
  obtain ⟨i0, ei0⟩ := is_v g16
  obtain rfl : w0 = (.int i0) := Option.some.inj ei0
  obtain ⟨i1, ei1⟩ := is_v g17
  obtain rfl : w1 = (.int i1) := Option.some.inj ei1
  obtain ⟨o_ItemTest_ITEM, v_ItemTest_ITEM⟩ := exa_v g18
  have E_ItemTest_ITEM := Exa.start v_ItemTest_ITEM g18
  have S_ItemTest_ITEM := Sta.start v_ItemTest_ITEM (Or.inr ⟨(own_at hw 6 rfl), (own_at hw 7 rfl)⟩)
  obtain ⟨o_ItemTest_ELEMENT, v_ItemTest_ELEMENT⟩ := exa_v g20
  have E_ItemTest_ELEMENT := Exa.start v_ItemTest_ELEMENT g20
  have S_ItemTest_ELEMENT := Sta.start v_ItemTest_ELEMENT (Or.inr ⟨(own_at hw 6 rfl), (own_at hw 9 rfl)⟩)
  obtain ⟨o_ItemTest_TEXT, v_ItemTest_TEXT⟩ := exa_v g28
  have E_ItemTest_TEXT := Exa.start v_ItemTest_TEXT g28
  have S_ItemTest_TEXT := Sta.start v_ItemTest_TEXT (Or.inr ⟨(own_at hw 6 rfl), (own_at hw 18 rfl)⟩)
  obtain ⟨o_ItemTest_NODE, v_ItemTest_NODE⟩ := exa_v g30
  have E_ItemTest_NODE := Exa.start v_ItemTest_NODE g30
  have S_ItemTest_NODE := Sta.start v_ItemTest_NODE (Or.inr ⟨(own_at hw 6 rfl), (own_at hw 20 rfl)⟩)
  obtain ⟨o_ItemTest_DOCUMENT_NODE, v_ItemTest_DOCUMENT_NODE⟩ := exa_v g38
  have E_ItemTest_DOCUMENT_NODE := Exa.start v_ItemTest_DOCUMENT_NODE g38
  have S_ItemTest_DOCUMENT_NODE := Sta.start v_ItemTest_DOCUMENT_NODE (Or.inr ⟨(own_at hw 6 rfl), (own_at hw 22 rfl)⟩)
  obtain ⟨o_ItemTest_ATTRIBUTE, v_ItemTest_ATTRIBUTE⟩ := exa_v g44
  have E_ItemTest_ATTRIBUTE := Exa.start v_ItemTest_ATTRIBUTE g44
  have S_ItemTest_ATTRIBUTE := Sta.start v_ItemTest_ATTRIBUTE (Or.inr ⟨(own_at hw 6 rfl), (own_at hw 24 rfl)⟩)
  obtain ⟨o_ItemTest_COMMENT, v_ItemTest_COMMENT⟩ := exa_v g50
  have E_ItemTest_COMMENT := Exa.start v_ItemTest_COMMENT g50
  have S_ItemTest_COMMENT := Sta.start v_ItemTest_COMMENT (Or.inr ⟨(own_at hw 6 rfl), (own_at hw 26 rfl)⟩)
  obtain ⟨o_ItemTest_NAMESPACE_NODE, v_ItemTest_NAMESPACE_NODE⟩ := exa_v g56
  have E_ItemTest_NAMESPACE_NODE := Exa.start v_ItemTest_NAMESPACE_NODE g56
  have S_ItemTest_NAMESPACE_NODE := Sta.start v_ItemTest_NAMESPACE_NODE (Or.inr ⟨(own_at hw 6 rfl), (own_at hw 28 rfl)⟩)
  obtain ⟨o_ItemTest_PROCESSING_INSTRUCTION, v_ItemTest_PROCESSING_INSTRUCTION⟩ := exa_v g66
  have E_ItemTest_PROCESSING_INSTRUCTION := Exa.start v_ItemTest_PROCESSING_INSTRUCTION g66
  have S_ItemTest_PROCESSING_INSTRUCTION := Sta.start v_ItemTest_PROCESSING_INSTRUCTION (Or.inr ⟨(own_at hw 6 rfl), (own_at hw 30 rfl)⟩)
  have F_ItemTest_ITEM_ordinal := Fld.start ((fld_at v_ItemTest_ITEM).symm.trans (own_eqI g22))
  have F_ItemTest_ELEMENT_ordinal := Fld.start ((fld_at v_ItemTest_ELEMENT).symm.trans (own_eqI g24))
  have F_ItemTest_ITEM_supertype := Fld.start ((fld_at v_ItemTest_ITEM).symm.trans (null_v g26))
  have F_ItemTest_TEXT_ordinal := Fld.start ((fld_at v_ItemTest_TEXT).symm.trans (own_eqI g32))
  have F_ItemTest_NODE_ordinal := Fld.start ((fld_at v_ItemTest_NODE).symm.trans (own_eqI g34))
  have F_ItemTest_TEXT_supertype := Fld.start ((fld_at v_ItemTest_TEXT).symm.trans (own_eqR g36 v_ItemTest_NODE))
  have F_ItemTest_DOCUMENT_NODE_ordinal := Fld.start ((fld_at v_ItemTest_DOCUMENT_NODE).symm.trans (own_eqI g40))
  have F_ItemTest_NODE_supertype := Fld.start ((fld_at v_ItemTest_NODE).symm.trans (own_eqR g42 v_ItemTest_ITEM))
  have F_ItemTest_ATTRIBUTE_ordinal := Fld.start ((fld_at v_ItemTest_ATTRIBUTE).symm.trans (own_eqI g46))
  have F_ItemTest_ATTRIBUTE_supertype := Fld.start ((fld_at v_ItemTest_ATTRIBUTE).symm.trans (own_eqR g48 v_ItemTest_NODE))
  have F_ItemTest_COMMENT_ordinal := Fld.start ((fld_at v_ItemTest_COMMENT).symm.trans (own_eqI g52))
  have F_ItemTest_COMMENT_supertype := Fld.start ((fld_at v_ItemTest_COMMENT).symm.trans (own_eqR g54 v_ItemTest_NODE))
  have F_ItemTest_NAMESPACE_NODE_ordinal := Fld.start ((fld_at v_ItemTest_NAMESPACE_NODE).symm.trans (own_eqI g58))
  have F_ItemTest_NAMESPACE_NODE_supertype := Fld.start ((fld_at v_ItemTest_NAMESPACE_NODE).symm.trans (own_eqR g60 v_ItemTest_NODE))
  have F_ItemTest_ELEMENT_supertype := Fld.start ((fld_at v_ItemTest_ELEMENT).symm.trans (own_eqR g62 v_ItemTest_NODE))
  have F_ItemTest_DOCUMENT_NODE_supertype := Fld.start ((fld_at v_ItemTest_DOCUMENT_NODE).symm.trans (own_eqR g64 v_ItemTest_NODE))
  have F_ItemTest_PROCESSING_INSTRUCTION_ordinal := Fld.start ((fld_at v_ItemTest_PROCESSING_INSTRUCTION).symm.trans (own_eqI g68))
  have F_ItemTest_PROCESSING_INSTRUCTION_supertype := Fld.start ((fld_at v_ItemTest_PROCESSING_INSTRUCTION).symm.trans (own_eqR g69 v_ItemTest_NODE))
  obtain ⟨n, o, h1, h2, h3, _, L, rfl, ⟨rfl, N⟩, hq⟩ := own_law l s _ hw tables_1 i0 i1 o_ItemTest_ITEM o_ItemTest_NODE o_ItemTest_DOCUMENT_NODE o_ItemTest_ELEMENT o_ItemTest_ATTRIBUTE o_ItemTest_TEXT o_ItemTest_COMMENT o_ItemTest_PROCESSING_INSTRUCTION o_ItemTest_NAMESPACE_NODE s.heap s.heap.size (Old.start s) S_ItemTest_ITEM S_ItemTest_NODE S_ItemTest_DOCUMENT_NODE S_ItemTest_ELEMENT S_ItemTest_ATTRIBUTE S_ItemTest_TEXT S_ItemTest_COMMENT S_ItemTest_PROCESSING_INSTRUCTION S_ItemTest_NAMESPACE_NODE E_ItemTest_ITEM E_ItemTest_NODE E_ItemTest_DOCUMENT_NODE E_ItemTest_ELEMENT E_ItemTest_ATTRIBUTE E_ItemTest_TEXT E_ItemTest_COMMENT E_ItemTest_PROCESSING_INSTRUCTION E_ItemTest_NAMESPACE_NODE F_ItemTest_ITEM_ordinal F_ItemTest_NODE_ordinal F_ItemTest_DOCUMENT_NODE_ordinal F_ItemTest_ELEMENT_ordinal F_ItemTest_ATTRIBUTE_ordinal F_ItemTest_TEXT_ordinal F_ItemTest_COMMENT_ordinal F_ItemTest_PROCESSING_INSTRUCTION_ordinal F_ItemTest_NAMESPACE_NODE_ordinal F_ItemTest_ITEM_supertype F_ItemTest_NODE_supertype F_ItemTest_DOCUMENT_NODE_supertype F_ItemTest_ELEMENT_supertype F_ItemTest_ATTRIBUTE_supertype F_ItemTest_TEXT_supertype F_ItemTest_COMMENT_supertype F_ItemTest_PROCESSING_INSTRUCTION_supertype F_ItemTest_NAMESPACE_NODE_supertype p e ha hc hk s m _ below hf ((Spec.applies_iff_loose hf).mp happ).1 ⟨rfl, State.Warmed39.refl s, rfl⟩ trivial
  refine ⟨n, _, h1, h2, h3, hpost _ _ _ _ _ _ ⟨Cond.after_iff.mpr rfl, Cond.after_iff.mpr (eq_i res_at (Term.int_eval (1)) rfl), trivial⟩ ⟨hq.1, hq.2.1, (hq.2.2.sift fun y hy => Or.inr (N y hy)).mono (by decide) (by decide)⟩⟩
theorem main_1_1 : Claimed_1_1 := comes_1 fun _ _ _ _ _ _ h hF => ⟨h.1, hF⟩
theorem main_1_2 : Claimed_1_2 := comes_1 fun _ _ _ _ _ _ h hF => ⟨h.2.1, hF⟩
end Jvm.Pilot.@@N@@
namespace Jvm.Pilot.@@N@@
open Jvm Jvm.ClassFile Sem Op Lib Jvm.Free Jvm.Stand Jvm.Pilot.@@N@@.Jvm.D
/-! MADE BY PROGRAM (witnessworld.py) out of the Statement's table words and the real class files: 13 classes; the members and pool entries that the words name. The judged class is class 1, her method 2. -/
namespace start1
open Jvm.ClassFile
def u (s : String) : CpInfo := .utf8 (stringToUtf16 s)
/-- a pool by its gaps: so many unusable entries, then the entry; so many at the end -/
def gap : Nat → List CpInfo → List CpInfo
  | 0, r => r
  | n + 1, r => .unusable :: gap n r
def poolList (es : List (Nat × CpInfo)) (last : Nat) : List CpInfo := es.foldr (fun e r => gap e.1 (e.2 :: r)) (gap last [])
def pool (es : List (Nat × CpInfo)) (last : Nat) : Array CpInfo := ⟨poolList es last⟩
def fileOf (pool : Array CpInfo) (this : Nat) (attrs : Array Attribute := #[]) (ms : Array MethodInfo := #[]) (fl : Nat := 33) (sup : Nat := 0) (ifs : Array Nat := #[]) (fds : Array FieldInfo := #[]) : ClassFile where
  minorVersion := 0
  majorVersion := 65
  constantPool := pool
  accessFlags := fl
  thisClass := this
  superClass := sup
  interfaces := ifs
  fields := fds
  methods := ms
  attributes := attrs
def plain (name : String) (sup : Option ClassId) : Class where
  name := name
  kind := .ordinary
  loader := none
  accessFlags := 33
  super := sup
  interfaces := #[]
  cf := none
  fields := #[]
  methods := #[]
  instanceTypes := #[]
  staticTypes := #[]
  resolved := #[]
  callSites := []
  init := .initialized
  statics := none
  mirror := none

def pool0 : Array CpInfo := pool [(5, u "<init>"), (0, u "()V"), (1, .class_ 10), (1, u "java/lang/Object")] 113

def k0m0 : Method := { name := "<init>", desc := "()V", sig := { parameters := [], returnType := none }, accessFlags := 1, code := none }
/-- java/lang/Object -/
def k0 : Class := { plain "java/lang/Object" none with
  accessFlags := 33
  interfaces := #[]
  cf := some (fileOf pool0 8 #[] #[{ accessFlags := 1, nameIndex := 5, descriptorIndex := 6, attributes := #[] }] 33 0 #[] #[])
  fields := #[]
  methods := #[k0m0]
  instanceTypes := #[]
  staticTypes := #[]
  resolved := Array.replicate 124 none
  statics := none }

def pool1 : Array CpInfo := pool [(2, .class_ 4), (1, u "java/lang/Object"), (0, u "<init>"), (0, u "()V"), (0, .fieldref 8 9), (0, .class_ 10), (0, .nameAndType 11 12), (0, u "com/example/typelattice/typelattice/ItemTest"), (0, u "ITEM"), (0, u "Lcom/example/typelattice/typelattice/ItemTest;"), (0, .fieldref 8 14), (0, .nameAndType 15 12), (0, u "NODE"), (0, .fieldref 8 17), (0, .nameAndType 18 12), (0, u "DOCUMENT_NODE"), (0, .fieldref 8 20), (0, .nameAndType 21 12), (0, u "ELEMENT"), (0, .fieldref 8 23), (0, .nameAndType 24 12), (0, u "ATTRIBUTE"), (0, .fieldref 8 26), (0, .nameAndType 27 12), (0, u "TEXT"), (0, .fieldref 8 29), (0, .nameAndType 30 12), (0, u "COMMENT"), (0, .fieldref 8 32), (0, .nameAndType 33 12), (0, u "PROCESSING_INSTRUCTION"), (0, .fieldref 8 35), (0, .nameAndType 36 12), (0, u "NAMESPACE_NODE"), (0, .integer 2147483647), (0, .methodref 39 40), (0, .class_ 41), (0, .nameAndType 42 43), (0, u "com/example/typelattice/typelattice/ItemTestIsWithinPinLaw"), (0, u "pick"), (0, u "(I)Lcom/example/typelattice/typelattice/ItemTest;"), (0, .methodref 8 45), (0, .nameAndType 46 47), (0, u "isWithin"), (0, u "(Lcom/example/typelattice/typelattice/ItemTest;)Z"), (3, u "law"), (0, u "(II)Z")] 2

def k1m0 : Method := { name := "<init>", desc := "()V", sig := { parameters := [], returnType := none }, accessFlags := 2, code := none }
def k1c1 : Code := { maxStack := 2, maxLocals := 1, code := method_2_code, exceptionTable := #[], attributes := #[] }
def k1m1 : Method := { name := "pick", desc := "(I)Lcom/example/typelattice/typelattice/ItemTest;", sig := { parameters := [.int], returnType := some (.object "com/example/typelattice/typelattice/ItemTest") }, accessFlags := 10, code := some k1c1 }
def k1c2 : Code := { maxStack := 2, maxLocals := 7, code := code, exceptionTable := #[], attributes := #[] }
def k1m2 : Method := { name := "law", desc := "(II)Z", sig := { parameters := [.int, .int], returnType := some .boolean }, accessFlags := 9, code := some k1c2 }
/-- com/example/typelattice/typelattice/ItemTestIsWithinPinLaw -/
def k1 : Class := { plain "com/example/typelattice/typelattice/ItemTestIsWithinPinLaw" (some 0) with
  accessFlags := 49
  interfaces := #[]
  cf := some (fileOf pool1 39 #[] #[{ accessFlags := 2, nameIndex := 5, descriptorIndex := 6, attributes := #[] }, { accessFlags := 10, nameIndex := 42, descriptorIndex := 43, attributes := #[] }, { accessFlags := 9, nameIndex := 51, descriptorIndex := 52, attributes := #[] }] 49 2 #[] #[])
  fields := #[]
  methods := #[k1m0, k1m1, k1m2]
  instanceTypes := #[]
  staticTypes := #[]
  resolved := Array.replicate 55 none
  statics := none }

def pool2 : Array CpInfo := pool [(1, .class_ 2), (0, u "java/lang/constant/Constable"), (0, .class_ 4), (0, u "java/lang/Object")] 6

/-- java/lang/constant/Constable -/
def k2 : Class := { plain "java/lang/constant/Constable" (some 0) with
  accessFlags := 1537
  interfaces := #[]
  cf := some (fileOf pool2 1 #[] #[] 1537 3 #[] #[])
  fields := #[]
  methods := #[]
  instanceTypes := #[]
  staticTypes := #[]
  resolved := Array.replicate 11 none
  statics := none }

def pool3 : Array CpInfo := pool [(1, .class_ 2), (0, u "java/lang/Comparable"), (0, .class_ 4), (0, u "java/lang/Object")] 7

/-- java/lang/Comparable -/
def k3 : Class := { plain "java/lang/Comparable" (some 0) with
  accessFlags := 1537
  interfaces := #[]
  cf := some (fileOf pool3 1 #[] #[] 1537 3 #[] #[])
  fields := #[]
  methods := #[]
  instanceTypes := #[]
  staticTypes := #[]
  resolved := Array.replicate 12 none
  statics := none }

def pool4 : Array CpInfo := pool [(1, .class_ 2), (0, u "java/io/Serializable"), (0, .class_ 4), (0, u "java/lang/Object")] 2

/-- java/io/Serializable -/
def k4 : Class := { plain "java/io/Serializable" (some 0) with
  accessFlags := 1537
  interfaces := #[]
  cf := some (fileOf pool4 1 #[] #[] 1537 3 #[] #[])
  fields := #[]
  methods := #[]
  instanceTypes := #[]
  staticTypes := #[]
  resolved := Array.replicate 7 none
  statics := none }

def pool5 : Array CpInfo := pool [(2, .class_ 4), (1, u "java/lang/Enum"), (0, u "name"), (0, u "Ljava/lang/String;"), (2, u "ordinal"), (0, u "I"), (1, .class_ 14), (1, u "java/lang/Object"), (4, u "hash"), (86, .class_ 108), (1, u "java/lang/Enum$EnumDesc"), (2, .class_ 112), (0, u "java/lang/constant/Constable"), (0, .class_ 114), (0, u "java/lang/Comparable"), (0, .class_ 116), (0, u "java/io/Serializable")] 87

/-- java/lang/Enum -/
def k5 : Class := { plain "java/lang/Enum" (some 0) with
  accessFlags := 1057
  interfaces := #[2, 3, 4]
  cf := some (fileOf pool5 2 #[.nestMembers #[106]] #[] 1057 12 #[111, 113, 115] #[{ accessFlags := 18, nameIndex := 5, descriptorIndex := 6, attributes := #[] }, { accessFlags := 18, nameIndex := 9, descriptorIndex := 10, attributes := #[] }, { accessFlags := 2, nameIndex := 19, descriptorIndex := 10, attributes := #[] }])
  fields := #[{ name := "name", type := (.object "java/lang/String"), accessFlags := 18, slot := 0, constantValue := 0 }, { name := "ordinal", type := .int, accessFlags := 18, slot := 1, constantValue := 0 }, { name := "hash", type := .int, accessFlags := 2, slot := 2, constantValue := 0 }]
  methods := #[]
  instanceTypes := #[(.object "java/lang/String"), .int, .int]
  staticTypes := #[]
  resolved := Array.replicate 204 none
  statics := none }

def pool6 : Array CpInfo := pool [(2, .class_ 4), (1, u "com/example/typelattice/typelattice/ItemType"), (45, .class_ 51), (0, u "java/lang/Object")] 6

/-- com/example/typelattice/typelattice/ItemType -/
def k6 : Class := { plain "com/example/typelattice/typelattice/ItemType" (some 0) with
  accessFlags := 1536
  interfaces := #[]
  cf := some (fileOf pool6 2 #[] #[] 1536 50 #[] #[])
  fields := #[]
  methods := #[]
  instanceTypes := #[]
  staticTypes := #[]
  resolved := Array.replicate 58 none
  statics := none }

def pool7 : Array CpInfo := pool [(1, .class_ 2), (0, u "com/example/typelattice/typelattice/ItemTest"), (2, u "ITEM"), (0, u "Lcom/example/typelattice/typelattice/ItemTest;"), (2, u "NODE"), (2, u "DOCUMENT_NODE"), (2, u "ELEMENT"), (2, u "ATTRIBUTE"), (2, u "TEXT"), (2, u "COMMENT"), (2, u "PROCESSING_INSTRUCTION"), (2, u "NAMESPACE_NODE"), (2, u "$VALUES"), (0, u "[Lcom/example/typelattice/typelattice/ItemTest;"), (6, .class_ 43), (1, u "java/lang/Enum"), (8, u "keyword"), (0, u "Ljava/lang/String;"), (0, .fieldref 1 55), (0, .nameAndType 56 6), (0, u "supertype"), (34, .class_ 92), (0, u "com/example/typelattice/typelattice/ItemType"), (8, u "isWithin"), (0, u "(Lcom/example/typelattice/typelattice/ItemTest;)Z")] 6

def k7c0 : Code := { maxStack := 2, maxLocals := 3, code := prog_84_method_5_code, exceptionTable := #[], attributes := #[] }
def k7m0 : Method := { name := "isWithin", desc := "(Lcom/example/typelattice/typelattice/ItemTest;)Z", sig := { parameters := [(.object "com/example/typelattice/typelattice/ItemTest")], returnType := some .boolean }, accessFlags := 0, code := some k7c0 }
/-- com/example/typelattice/typelattice/ItemTest -/
def k7 : Class := { plain "com/example/typelattice/typelattice/ItemTest" (some 5) with
  accessFlags := 16432
  interfaces := #[6]
  cf := some (fileOf pool7 1 #[] #[{ accessFlags := 0, nameIndex := 101, descriptorIndex := 102, attributes := #[] }] 16432 41 #[91] #[{ accessFlags := 16409, nameIndex := 5, descriptorIndex := 6, attributes := #[] }, { accessFlags := 16409, nameIndex := 9, descriptorIndex := 6, attributes := #[] }, { accessFlags := 16409, nameIndex := 12, descriptorIndex := 6, attributes := #[] }, { accessFlags := 16409, nameIndex := 15, descriptorIndex := 6, attributes := #[] }, { accessFlags := 16409, nameIndex := 18, descriptorIndex := 6, attributes := #[] }, { accessFlags := 16409, nameIndex := 21, descriptorIndex := 6, attributes := #[] }, { accessFlags := 16409, nameIndex := 24, descriptorIndex := 6, attributes := #[] }, { accessFlags := 16409, nameIndex := 27, descriptorIndex := 6, attributes := #[] }, { accessFlags := 16409, nameIndex := 30, descriptorIndex := 6, attributes := #[] }, { accessFlags := 18, nameIndex := 52, descriptorIndex := 53, attributes := #[] }, { accessFlags := 18, nameIndex := 56, descriptorIndex := 6, attributes := #[] }, { accessFlags := 4122, nameIndex := 33, descriptorIndex := 34, attributes := #[] }])
  fields := #[{ name := "ITEM", type := (.object "com/example/typelattice/typelattice/ItemTest"), accessFlags := 16409, slot := 0, constantValue := 0 }, { name := "NODE", type := (.object "com/example/typelattice/typelattice/ItemTest"), accessFlags := 16409, slot := 1, constantValue := 0 }, { name := "DOCUMENT_NODE", type := (.object "com/example/typelattice/typelattice/ItemTest"), accessFlags := 16409, slot := 2, constantValue := 0 }, { name := "ELEMENT", type := (.object "com/example/typelattice/typelattice/ItemTest"), accessFlags := 16409, slot := 3, constantValue := 0 }, { name := "ATTRIBUTE", type := (.object "com/example/typelattice/typelattice/ItemTest"), accessFlags := 16409, slot := 4, constantValue := 0 }, { name := "TEXT", type := (.object "com/example/typelattice/typelattice/ItemTest"), accessFlags := 16409, slot := 5, constantValue := 0 }, { name := "COMMENT", type := (.object "com/example/typelattice/typelattice/ItemTest"), accessFlags := 16409, slot := 6, constantValue := 0 }, { name := "PROCESSING_INSTRUCTION", type := (.object "com/example/typelattice/typelattice/ItemTest"), accessFlags := 16409, slot := 7, constantValue := 0 }, { name := "NAMESPACE_NODE", type := (.object "com/example/typelattice/typelattice/ItemTest"), accessFlags := 16409, slot := 8, constantValue := 0 }, { name := "keyword", type := (.object "java/lang/String"), accessFlags := 18, slot := 3, constantValue := 0 }, { name := "supertype", type := (.object "com/example/typelattice/typelattice/ItemTest"), accessFlags := 18, slot := 4, constantValue := 0 }, { name := "$VALUES", type := (.array (.object "com/example/typelattice/typelattice/ItemTest")), accessFlags := 4122, slot := 9, constantValue := 0 }]
  methods := #[k7m0]
  instanceTypes := #[(.object "java/lang/String"), .int, .int, (.object "java/lang/String"), (.object "com/example/typelattice/typelattice/ItemTest")]
  staticTypes := #[(.object "com/example/typelattice/typelattice/ItemTest"), (.object "com/example/typelattice/typelattice/ItemTest"), (.object "com/example/typelattice/typelattice/ItemTest"), (.object "com/example/typelattice/typelattice/ItemTest"), (.object "com/example/typelattice/typelattice/ItemTest"), (.object "com/example/typelattice/typelattice/ItemTest"), (.object "com/example/typelattice/typelattice/ItemTest"), (.object "com/example/typelattice/typelattice/ItemTest"), (.object "com/example/typelattice/typelattice/ItemTest"), (.array (.object "com/example/typelattice/typelattice/ItemTest"))]
  resolved := Array.replicate 109 none
  statics := some 0 }

def pool8 : Array CpInfo := pool [(1, u "java/lang/Cloneable"), (0, .class_ 1), (0, u "java/lang/Object"), (0, .class_ 3)] 3

/-- java/lang/Cloneable -/
def k8 : Class := { plain "java/lang/Cloneable" (some 0) with
  accessFlags := 1537
  interfaces := #[]
  cf := some (fileOf pool8 2 #[] #[] 1537 4 #[] #[])
  fields := #[]
  methods := #[]
  instanceTypes := #[]
  staticTypes := #[]
  resolved := Array.replicate 8 none
  statics := none }

/-- the primitive byte -/
def k9 : Class := { plain "byte" none with kind := .primitive 'B', accessFlags := 0x411 }
/-- [B -/
def k10 : Class := { plain "[B" (some 0) with kind := .array 9 .byte, interfaces := #[8, 4], accessFlags := 1041 }

/-- the primitive int -/
def k11 : Class := { plain "int" none with kind := .primitive 'I', accessFlags := 0x411 }
/-- [I -/
def k12 : Class := { plain "[I" (some 0) with kind := .array 11 .int, interfaces := #[8, 4], accessFlags := 1041 }

def heap : Heap := #[{ cls := 7, slots := #[.ref 1, .ref 2, .ref 3, .ref 4, .ref 5, .ref 6, .ref 7, .ref 8, .ref 9, .null], vm := .statics 7 },
  { cls := 7, slots := #[.null, .int 0, .int 0, .null, .null], vm := .none },
  { cls := 7, slots := #[.null, .int 1, .int 0, .null, .ref 1], vm := .none },
  { cls := 7, slots := #[.null, .int 2, .int 0, .null, .ref 2], vm := .none },
  { cls := 7, slots := #[.null, .int 3, .int 0, .null, .ref 2], vm := .none },
  { cls := 7, slots := #[.null, .int 4, .int 0, .null, .ref 2], vm := .none },
  { cls := 7, slots := #[.null, .int 5, .int 0, .null, .ref 2], vm := .none },
  { cls := 7, slots := #[.null, .int 6, .int 0, .null, .ref 2], vm := .none },
  { cls := 7, slots := #[.null, .int 7, .int 0, .null, .ref 2], vm := .none },
  { cls := 7, slots := #[.null, .int 8, .int 0, .null, .ref 2], vm := .none }]
def classes : Array Class := #[k0, k1, k2, k3, k4, k5, k6, k7, k8, k9, k10, k11, k12]
def interned : List (Array UInt16 × Addr) := []
def slotsUsed : Nat := 55
def theMethod : MethodId := ⟨1, 2⟩
def args0 : Array Value := #[.int 0, .int 0]
def aboutOver (below : List Frame) : State where
  vm := { classes := classes, interned := interned.toArray }
  heap := heap
  slotsUsed := slotsUsed
  threads := #[{ frames := .invoking theMethod args0 :: below }]
def below0 : List Frame := [.native { method := ⟨0, 0⟩, args := #[] }]
def about1 : State := aboutOver below0
def p0 : Program := .bare "" "" ""
def e0 : Env := launch0.env 0 0 0
theorem w_frames : about1.frames = Frame.invoking theMethod args0 :: below0 := rfl
set_option maxRecDepth 65536 in
theorem w_args : argsFit about1.vm theMethod args0 = true := by decide +kernel
set_option maxRecDepth 65536 in
theorem w_heap : heapFits about1 = true := by decide +kernel
set_option maxRecDepth 65536 in
theorem w_runnable : about1.curStatus? = some .runnable := by decide +kernel
set_option maxRecDepth 65536 in
theorem w_alone : about1.alone = true := by decide +kernel
set_option maxRecDepth 65536 in
theorem w_named : about1.methodNamed? x = some theMethod := by decide +kernel
set_option maxRecDepth 65536 in
theorem w_hears : about1.hears theMethod below0 = true := by decide +kernel
set_option maxRecDepth 65536 in
theorem w_ripe : about1.ripe theMethod args0 below0 = true := by decide +kernel
theorem w_running : about1.status = .running := rfl
set_option maxRecDepth 65536 in
theorem w_room : about1.hasRoom e0.platform room_1 = true :=
  launch0.hasRoom_least _ room_1 (by decide +kernel) (by decide +kernel) (by decide +kernel) (by decide +kernel) (by decide +kernel) (by decide +kernel)
theorem allAtoms_all (ts : List Jvm.Cond) (a : Array Jvm.Value) (st : Jvm.State) : (allAtoms ts).before a st = ts.all (fun c => c.before a st) := by
  induction ts with
  | nil => rfl
  | cons c t ih =>
    show (Jvm.Cond.and c (allAtoms t)).before a st = _
    rw [Jvm.Cond.before_and, ih, List.all_cons]
def words1 : List Jvm.Cond := Jvm.Cond.code x code maxLocals ret :: tables_1
/-- a 'code' word, met by the world's own term for the bytes: nothing is compared byte by byte -/
theorem code_word {y : MethodName} {bytes : ByteArray} {mx : Nat} {rt : Option FieldType} {a : Array Value} {s : State} {m : MethodId} {meth : Method} {c : Code} (h1 : s.methodNamed? y = some m) (h2 : s.vm.method? m = some meth) (h3 : meth.code = some c) (h4 : c.code = bytes)
    (h5 : (c.maxLocals == mx && c.exceptionTable.isEmpty && decide (c.maxStack ≤ mostOperands) && decide (meth.sig.returnType = rt) && !meth.locks && decide (parseMethodDescriptor y.desc = some meth.sig)) = true) : (Jvm.Cond.code y bytes mx rt).before a s = true := by
  simp only [Bool.and_eq_true, beq_iff_eq, Bool.not_eq_true', decide_eq_true_eq] at h5
  obtain ⟨⟨⟨⟨⟨g1, g2⟩, g3⟩, g4⟩, g5⟩, g6⟩ := h5
  simp [Cond.before, Cond.holds, Cond.value, h1, h2, h3, h4, g1, g2, g3, g4, g5, g6]
def isCode : Jvm.Cond → Bool
  | .code _ _ _ _ => true
  | _ => false
theorem all_split {L : List Jvm.Cond} {P : Jvm.Cond → Bool} (h1 : L.all (fun c => isCode c || P c) = true) (h2 : ∀ c ∈ L.filter isCode, P c = true) : L.all P = true := by
  refine List.all_eq_true.mpr fun c hc => ?_
  have h := List.all_eq_true.mp h1 c hc
  rcases Bool.eq_false_or_eq_true (isCode c) with hi | hi
  · exact h2 c (List.mem_filter.mpr ⟨hc, hi⟩)
  · simpa [hi] using h
set_option maxRecDepth 65536 in
theorem w_c0 : (Jvm.Cond.code x code maxLocals ret).before args0 about1 = true := code_word (m := ⟨1, 2⟩) (meth := k1m2) (c := k1c2) (by decide +kernel) rfl rfl rfl (by decide +kernel)
set_option maxRecDepth 65536 in
theorem w_c1 : (Jvm.Cond.code ({ cls := "com/example/typelattice/typelattice/ItemTestIsWithinPinLaw", name := "pick", desc := "(I)Lcom/example/typelattice/typelattice/ItemTest;" } : Jvm.MethodName) method_2_code (1 : Nat) (Option.some (Jvm.ClassFile.FieldType.object "com/example/typelattice/typelattice/ItemTest"))).before args0 about1 = true := code_word (m := ⟨1, 1⟩) (meth := k1m1) (c := k1c1) (by decide +kernel) rfl rfl rfl (by decide +kernel)
set_option maxRecDepth 65536 in
theorem w_c2 : (Jvm.Cond.code ({ cls := "com/example/typelattice/typelattice/ItemTest", name := "isWithin", desc := "(Lcom/example/typelattice/typelattice/ItemTest;)Z" } : Jvm.MethodName) prog_84_method_5_code (3 : Nat) (Option.some Jvm.ClassFile.FieldType.boolean)).before args0 about1 = true := code_word (m := ⟨7, 0⟩) (meth := k7m0) (c := k7c0) (by decide +kernel) rfl rfl rfl (by decide +kernel)
def codes1 : List Jvm.Cond := [Jvm.Cond.code x code maxLocals ret, Jvm.Cond.code ({ cls := "com/example/typelattice/typelattice/ItemTestIsWithinPinLaw", name := "pick", desc := "(I)Lcom/example/typelattice/typelattice/ItemTest;" } : Jvm.MethodName) method_2_code (1 : Nat) (Option.some (Jvm.ClassFile.FieldType.object "com/example/typelattice/typelattice/ItemTest")), Jvm.Cond.code ({ cls := "com/example/typelattice/typelattice/ItemTest", name := "isWithin", desc := "(Lcom/example/typelattice/typelattice/ItemTest;)Z" } : Jvm.MethodName) prog_84_method_5_code (3 : Nat) (Option.some Jvm.ClassFile.FieldType.boolean)]
set_option maxRecDepth 65536 in
theorem codes_eq : words1.filter isCode = codes1 := rfl
theorem w_codes : ∀ c ∈ words1.filter isCode, c.before args0 about1 = true := by
  rw [codes_eq]
  intro c hc
  simp only [codes1, List.mem_cons, List.not_mem_nil, or_false] at hc
  rcases hc with rfl | rfl | rfl
  · exact w_c0
  · exact w_c1
  · exact w_c2
set_option maxRecDepth 65536 in
theorem w_t1 : (words1.take 24).all (fun c => isCode c || c.before args0 about1) = true := by decide +kernel
set_option maxRecDepth 65536 in
theorem w_t2 : (words1.drop 24).all (fun c => isCode c || c.before args0 about1) = true := by decide +kernel
theorem w_tables : (allAtoms (Jvm.Cond.code x code maxLocals ret :: tables_1)).before args0 about1 = true := by
  rw [allAtoms_all]
  show words1.all (fun c => c.before args0 about1) = true
  refine all_split ?_ w_codes
  rw [← List.take_append_drop 24 words1, List.all_append, w_t1, w_t2]
  rfl
set_option maxRecDepth 65536 in
theorem w_case : (Jvm.Cond.and given_1 narrow_1).before args0 about1 = true := by decide +kernel
theorem w_applies : (headSpec (Jvm.Cond.code x code maxLocals ret :: tables_1) room_1).applies x e0.platform about1 = true :=
  (Spec.applies_iff w_frames).mpr ⟨w_running, w_runnable, w_alone, w_named, w_hears, w_ripe, w_room, w_tables⟩
theorem atStart : AtStart classFile x code maxLocals ret World_1 tables_1 room_1 Calls_1 rest_1 Pre_1 launch0 p0 e0 about1 theMethod args0 below0 :=
  ⟨lists_1, trivial, launch0.admits_env _ _ _, launch0.least_env, fairChoices_fair.cas, fairChoices_fair.clock, w_frames, w_args, w_heap, w_applies, trivial, trivial, w_case⟩
end start1
theorem witness_1 : WitnessClaimed_1 := ⟨start1.p0, start1.e0, start1.about1, start1.theMethod, start1.args0, start1.below0, start1.atStart⟩
end Jvm.Pilot.@@N@@
