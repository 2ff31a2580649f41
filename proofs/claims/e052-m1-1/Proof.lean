import JvmDerived
import JvmDerived.Pilot.@@N@@Statement
import JvmDerived.Pilot.@@N@@Code
set_option linter.unusedVariables false
set_option linter.unusedSimpArgs false
namespace Jvm.Pilot.@@N@@
open Jvm Jvm.ClassFile Sem Op Lib Jvm.Free Jvm.Stand Jvm.LawKit Jvm.RoadKit Bundle Jvm.Pilot.@@N@@.Jvm.D
section OwnKit
/-- from S the run comes to an end that G takes -/
def own_Fin (tb : Tables) (e : Env) (below : List Frame) (G : State → Outcome → Prop) (S : State) : Prop := ∃ s₂ o, Steps tb e below S s₂ ∧ s₂.status = .running ∧ Ended s₂ below o ∧ G s₂ o
theorem own_go {tb : Tables} {e : Env} {below : List Frame} {G : State → Outcome → Prop} {S S' : State} (k : ∀ t, Steps tb e below S' t → Steps tb e below S t) (h : own_Fin tb e below G S') : own_Fin tb e below G S := by
  obtain ⟨t, o, a, b⟩ := h
  exact ⟨t, o, k t a, b⟩
theorem own_at {Z : State} {a0 : Array Value} {ws : List Jvm.Cond} (hw : ∀ d ∈ ws, d.before a0 Z = true) (i : Nat) {d : Jvm.Cond} (h : ws[i]? = some d) : d.before a0 Z = true := hw _ (List.mem_of_getElem? h)
def own_bi : Bool → Int32
  | true => 1
  | false => 0
theorem own_bi0 {b : Bool} (h : b = false) : own_bi b = 0 := by rw [h]; rfl
theorem own_bi1 {b : Bool} (h : b = true) : ¬ own_bi b = 0 := by rw [h]; decide
theorem own_dT {P : Prop} [Decidable P] (h : P) : (1 : Int32) = own_bi (decide P) := by rw [decide_eq_true h]; rfl
theorem own_dF {P : Prop} [Decidable P] (h : ¬ P) : (0 : Int32) = own_bi (decide P) := by rw [decide_eq_false h]; rfl
theorem own_dc {α : Type} [DecidableEq α] (a b : α) : decide (a = b) = decide (b = a) := decide_eq_decide.mpr eq_comm
theorem own_tf (b : Bool) : b = true ∨ b = false := by cases b <;> simp
theorem own_nb (b : Bool) : narrow .boolean (.int (own_bi b)) = .int (own_bi b) := by cases b <;> rfl
theorem own_fb (b : Bool) : fits .boolean (.int (own_bi b)) = true := by cases b <;> rfl
theorem own_nr {t : FieldType} {v : Value} (h : v.isRef = true) : narrow t v = v := by cases v <;> first | (simp [Value.isRef] at h; done) | (cases t <;> rfl)
theorem own_store {l l' : Array Slot} {i : Nat} {v : Value} {o : Slot} (hold : l[i]? = some o) (ho : o = .unset ∨ ∃ w, o = .val w ∧ w.category = 1) (hv : v.category = 1) (e : l.setIfInBounds i (.val v) = l') : storeLocals l i v = some l' := e ▸ XS.store1 hold ho hv
theorem own_eqI {args : Array Value} {s : State} {t : Term} {k : Int32} (h : (Jvm.Cond.eq t (Term.int k)).value args s none s [] = some true) : t.eval args s none [] s = some (.int k) := by
  simp only [Jvm.Cond.value, Term.eval] at h
  cases ht : t.eval args s none [] s with
  | none => simp [ht] at h
  | some x => cases x <;> simp [ht] at h ⊢; exact h
theorem own_eqR {args : Array Value} {s : State} {t u : Term} {a : Addr} (h : (Jvm.Cond.eq t u).value args s none s [] = some true) (hu : u.eval args s none [] s = some (.ref a)) : t.eval args s none [] s = some (.ref a) := by
  simp only [Jvm.Cond.value, hu] at h
  cases ht : t.eval args s none [] s with
  | none => simp [ht] at h
  | some x => cases x <;> simp [ht] at h ⊢; exact h
theorem own_size {Z : State} {n0 : Nat} {h : Heap} (X : Old Z n0 h) : n0 ≤ h.size := X.1 ▸ X.2.1
section
variable {p : Program} {l : Launch} {e : Env} {R : Room} {s : State} {m : MethodId} {args : Array Value} {below : List Frame} {meth : Method} {c : Code} {T : State} {locs : List Loc} {cells slots : Nat}
theorem own_mono (X : Stand p l e R s m args below meth c T locs cells slots) {k n : Nat} (hk : cells ≤ k) (hn : slots ≤ n) : Stand p l e R s m args below meth c T locs k n := { X with same := X.same.mono hk hn }
theorem own_rv (X : Stand p l e R s m args below meth c T locs cells slots) (hx : p.tables.exec = Jvm.exec) {pc : Nat} {Ls : Array Slot} {w : Value} {t : FieldType} {i : Instr} {rest : List Value} (hret : meth.sig.returnType = some t) (hn : narrow t w = w)
    (hi : (i = .ireturn ∧ (t = .int ∨ t = .boolean ∨ t = .byte ∨ t = .char ∨ t = .short) ∧ ∃ z, w = .int z) ∨ (i = .lreturn ∧ t = .long ∧ ∃ z, w = .long z) ∨ (i = .dreturn ∧ t = .double ∧ ∃ z, w = .double z) ∨ (i = .freturn ∧ t = .float ∧ ∃ z, w = .float z) ∨ (i = .areturn ∧ t.isReference = true ∧ w.isRef = true))
    (hd : decode c.code pc = .ok (i, 1)) (hlocks : meth.locks = false) {Q : Option Value → Heap → List Loc → Prop} {k n : Nat} (h1 : cells ≤ k) (h2 : slots ≤ n) (hQ : Q (some w) T.heap locs) :
    own_Fin p.tables e below (fun s₂ o => ∃ v L, o = .returned v ∧ Q v s₂.heap L ∧ FrameEnd s o s₂ L k n) (T.setTop (mkF m pc Ls (w :: rest))) := by
  obtain ⟨fs, hr, hrun, hended, hW, hsame⟩ := X.leave (v := some w) (fun h => by rw [hret] at h; cases h) hlocks
  exact ⟨_, _, retOut X hx hret hn hi hd hr, hrun, hended, _, _, rfl, hQ, ⟨_, rfl⟩, hW, hsame.mono h1 h2⟩
theorem own_r0 (X : Stand p l e R s m args below meth c T locs cells slots) (hx : p.tables.exec = Jvm.exec) {pc : Nat} {Ls : Array Slot} (hret : meth.sig.returnType = none)
    (hd : decode c.code pc = .ok (.return_, 1)) (hlocks : meth.locks = false) {Q : Option Value → Heap → List Loc → Prop} {k n : Nat} (h1 : cells ≤ k) (h2 : slots ≤ n) (hQ : Q none T.heap locs) :
    own_Fin p.tables e below (fun s₂ o => ∃ v L, o = .returned v ∧ Q v s₂.heap L ∧ FrameEnd s o s₂ L k n) (T.setTop (mkF m pc Ls [])) := by
  obtain ⟨fs, hr, hrun, hended, hW, hsame⟩ := X.leave (v := none) (fun _ => rfl) hlocks
  exact ⟨_, _, X.returnOut hx hret hd hr, hrun, hended, _, _, rfl, hQ, ⟨_, rfl⟩, hW, hsame.mono h1 h2⟩
theorem own_rvW {vm₁ : Vm} (X : Stand p l e R (s.setVm vm₁) m args below meth c T locs cells slots) {kk : Nat} (hS : s.Since vm₁ kk) (hk : kk ≤ T.heap.size) (hx : p.tables.exec = Jvm.exec) {pc : Nat} {Ls : Array Slot} {w : Value} {t : FieldType} {i : Instr} {rest : List Value} (hret : meth.sig.returnType = some t) (hn : narrow t w = w)
    (hi : (i = .ireturn ∧ (t = .int ∨ t = .boolean ∨ t = .byte ∨ t = .char ∨ t = .short) ∧ ∃ z, w = .int z) ∨ (i = .lreturn ∧ t = .long ∧ ∃ z, w = .long z) ∨ (i = .dreturn ∧ t = .double ∧ ∃ z, w = .double z) ∨ (i = .freturn ∧ t = .float ∧ ∃ z, w = .float z) ∨ (i = .areturn ∧ t.isReference = true ∧ w.isRef = true))
    (hd : decode c.code pc = .ok (i, 1)) (hlocks : meth.locks = false) {Q : Option Value → Heap → List Loc → Prop} {k n : Nat} (h1 : cells ≤ k) (h2 : slots ≤ n) (hQ : Q (some w) T.heap locs) :
    own_Fin p.tables e below (fun s₂ o => ∃ v L, o = .returned v ∧ Q v s₂.heap L ∧ ReturnedEndW s o s₂ L k n) (T.setTop (mkF m pc Ls (w :: rest))) := by
  obtain ⟨fs, hr, hrun, hended, q1, q2, q3, q4⟩ := leaveW X hS hk (v := some w) (fun h => by rw [hret] at h; cases h) hlocks
  exact ⟨_, _, retOut X hx hret hn hi hd hr, hrun, hended, _, _, rfl, hQ, q1, q2, q3, q4.mono h1 h2⟩
theorem own_r0W {vm₁ : Vm} (X : Stand p l e R (s.setVm vm₁) m args below meth c T locs cells slots) {kk : Nat} (hS : s.Since vm₁ kk) (hk : kk ≤ T.heap.size) (hx : p.tables.exec = Jvm.exec) {pc : Nat} {Ls : Array Slot} (hret : meth.sig.returnType = none)
    (hd : decode c.code pc = .ok (.return_, 1)) (hlocks : meth.locks = false) {Q : Option Value → Heap → List Loc → Prop} {k n : Nat} (h1 : cells ≤ k) (h2 : slots ≤ n) (hQ : Q none T.heap locs) :
    own_Fin p.tables e below (fun s₂ o => ∃ v L, o = .returned v ∧ Q v s₂.heap L ∧ ReturnedEndW s o s₂ L k n) (T.setTop (mkF m pc Ls [])) := by
  obtain ⟨fs, hr, hrun, hended, q1, q2, q3, q4⟩ := leaveW X hS hk (v := none) (fun _ => rfl) hlocks
  exact ⟨_, _, X.returnOut hx hret hd hr, hrun, hended, _, _, rfl, hQ, q1, q2, q3, q4.mono h1 h2⟩
theorem own_rvH {Z : State} {a0 : Array Value} {EL : List (String × Nat)} {h0 h : Heap} {vm₁ : Vm} (X : Stand p l e R (s.setVm vm₁) m args below meth c T locs cells slots) {kk : Nat} (hS : s.Since vm₁ kk) (hk : kk ≤ T.heap.size) (hZ : Z.Warmed39 vm₁) (hEL : EW Z a0 EL) (hh : s.heap = h0) (eT : T.heap = h) (CH : CHr Z EL s.vm h0 vm₁ h) (hx : p.tables.exec = Jvm.exec) {pc : Nat} {Ls : Array Slot} {w : Value} {t : FieldType} {i : Instr} {rest : List Value} (hret : meth.sig.returnType = some t) (hn : narrow t w = w)
    (hi : (i = .ireturn ∧ (t = .int ∨ t = .boolean ∨ t = .byte ∨ t = .char ∨ t = .short) ∧ ∃ z, w = .int z) ∨ (i = .lreturn ∧ t = .long ∧ ∃ z, w = .long z) ∨ (i = .dreturn ∧ t = .double ∧ ∃ z, w = .double z) ∨ (i = .freturn ∧ t = .float ∧ ∃ z, w = .float z) ∨ (i = .areturn ∧ t.isReference = true ∧ w.isRef = true))
    (hd : decode c.code pc = .ok (i, 1)) (hlocks : meth.locks = false) {Q : Option Value → Heap → List Loc → Prop} {k n : Nat} (h1 : cells ≤ k) (h2 : slots ≤ n) (hQ : Q (some w) T.heap locs) :
    own_Fin p.tables e below (fun s₂ o => ∃ v L, o = .returned v ∧ Q v s₂.heap L ∧ CHr Z EL s.vm s.heap s₂.vm s₂.heap ∧ ReturnedEndW s o s₂ L k n) (T.setTop (mkF m pc Ls (w :: rest))) := by
  obtain ⟨fs, hr, hrun, hended, q1, q2, q3, q4⟩ := leaveW X hS hk (v := some w) (fun h => by rw [hret] at h; cases h) hlocks
  subst eT hh
  have A := CH.trans (CHv.at X hZ hEL CH.1)
  exact ⟨_, _, retOut X hx hret hn hi hd hr, hrun, hended, _, _, rfl, hQ, A, q1, q2, q3, q4.mono h1 h2⟩
theorem own_r0H {Z : State} {a0 : Array Value} {EL : List (String × Nat)} {h0 h : Heap} {vm₁ : Vm} (X : Stand p l e R (s.setVm vm₁) m args below meth c T locs cells slots) {kk : Nat} (hS : s.Since vm₁ kk) (hk : kk ≤ T.heap.size) (hZ : Z.Warmed39 vm₁) (hEL : EW Z a0 EL) (hh : s.heap = h0) (eT : T.heap = h) (CH : CHr Z EL s.vm h0 vm₁ h) (hx : p.tables.exec = Jvm.exec) {pc : Nat} {Ls : Array Slot} (hret : meth.sig.returnType = none)
    (hd : decode c.code pc = .ok (.return_, 1)) (hlocks : meth.locks = false) {Q : Option Value → Heap → List Loc → Prop} {k n : Nat} (h1 : cells ≤ k) (h2 : slots ≤ n) (hQ : Q none T.heap locs) :
    own_Fin p.tables e below (fun s₂ o => ∃ v L, o = .returned v ∧ Q v s₂.heap L ∧ CHr Z EL s.vm s.heap s₂.vm s₂.heap ∧ ReturnedEndW s o s₂ L k n) (T.setTop (mkF m pc Ls [])) := by
  obtain ⟨fs, hr, hrun, hended, q1, q2, q3, q4⟩ := leaveW X hS hk (v := none) (fun _ => rfl) hlocks
  subst eT hh
  have A := CH.trans (CHv.at X hZ hEL CH.1)
  exact ⟨_, _, X.returnOut hx hret hd hr, hrun, hended, _, _, rfl, hQ, A, q1, q2, q3, q4.mono h1 h2⟩
theorem own_hk {h : Heap} {k : Nat} (e : T.heap = h) (hk : k ≤ h.size) : k ≤ T.heap.size := e ▸ hk
theorem own_rebZ {Z : State} {vm0 vm1 : Vm} {n : Nat} (hZ : Z.Warmed39 vm0) (h : (s.setVm vm0).Since vm1 n) : Z.Warmed39 vm1 := State.Warmed39.trans (t := s.setVm vm0) hZ h.1
theorem own_rebO {vm0 vm1 : Vm} {n : Nat} {own : String} {k : ClassId} (hown : vm0.findClass own = some k) (h : (s.setVm vm0).Since vm1 n) : vm1.findClass own = some k := by rw [h.1.alike.findClass]; exact hown
theorem own_noCast {Z : State} {a0 : Array Value} {X Y : String} {t : List String} {n : Nat} (hw : ∀ w ∈ Jvm.Cond.chainWords (X :: t), w.before a0 Z = true) (hY : (Jvm.Cond.instantiable Y n).before a0 Z = true) (hn : Y ∉ X :: t) : ∃ c t, Z.vm.findClass X = some c ∧ Z.vm.findClass Y = some t ∧ Z.vm.assignable c t = false := by
  obtain ⟨cx, k, hx, -, -, -⟩ := Cond.chain_head hw
  obtain ⟨cy, ky, hy, h2, h3, h4, -⟩ := Cond.instantiable_spec hY
  simp only [Bool.or_eq_false_iff] at h4
  exact ⟨cx, cy, hx, hy, Vm.notAssignable_of_chain hx hy h2 h3 h4.1 hw hn⟩
end
end OwnKit
def own_cls (o0 o1 o2 o3 : Addr) (k : Int32) : Addr := if k = 0 then o0 else if k = 1 then o1 else if k = 2 then o2 else o3
def own_lv (j : Int32) : Int64 := (j - 128).toInt64
theorem own_eqh {h h' : Heap} {P : Heap → Prop} (e : h = h') (q : P h') : P h := e ▸ q
theorem own_sa {Z : State} {a0 : Array Value} (hw : ∀ d ∈ tables_1, d.before a0 Z = true) : ∀ a ∈ Bundle.stringAtoms, a.before a0 Z = true := by
  intro a ha
  simp only [Bundle.stringAtoms, List.mem_cons, List.not_mem_nil, or_false] at ha
  rcases ha with rfl | rfl | rfl | rfl | rfl | rfl | rfl
  · exact own_at hw 18 rfl
  · exact own_at hw 19 rfl
  · exact own_at hw 20 rfl
  · exact own_at hw 21 rfl
  · exact own_at hw 22 rfl
  · exact own_at hw 23 rfl
  · exact own_at hw 24 rfl
theorem own_and3 (x : Int32) : (x &&& (3 : Int32)) = 0 ∨ (x &&& (3 : Int32)) = 1 ∨ (x &&& (3 : Int32)) = 2 ∨ (x &&& (3 : Int32)) = 3 := by
  have h : (x &&& (3 : Int32)).toBitVec.toNat ≤ 3 := by
    show (x.toBitVec &&& 3#32).toNat ≤ 3
    rw [BitVec.toNat_and]; exact Nat.and_le_right
  have k : ∀ n : Nat, n ≤ 3 → n = 0 ∨ n = 1 ∨ n = 2 ∨ n = 3 := by omega
  rcases k _ h with q | q | q | q
  · exact Or.inl (Int32.toBitVec_inj.mp (BitVec.eq_of_toNat_eq q))
  · exact Or.inr (Or.inl (Int32.toBitVec_inj.mp (BitVec.eq_of_toNat_eq q)))
  · exact Or.inr (Or.inr (Or.inl (Int32.toBitVec_inj.mp (BitVec.eq_of_toNat_eq q))))
  · exact Or.inr (Or.inr (Or.inr (Int32.toBitVec_inj.mp (BitVec.eq_of_toNat_eq q))))
theorem own_pos (x : Int64) : ¬ ((x &&& (9223372036854775807 : Int64)) < (0 : Int64)) := by
  rw [Jvm.Free.XT.and_neg64]; exact fun q => absurd q.2 (by decide)
theorem own_le255 (x : Int32) : ¬ ((255 : Int32) < (x &&& 255)) := by
  have h : (x &&& (255 : Int32)).toBitVec.toNat ≤ 255 := by
    show (x.toBitVec &&& 255#32).toNat ≤ 255
    rw [BitVec.toNat_and]; exact Nat.and_le_right
  rw [Int32.lt_iff_toInt_lt]
  have e : (255 : Int32).toInt = 255 := by decide
  have e2 : (x &&& (255 : Int32)).toInt = (x &&& (255 : Int32)).toBitVec.toNat := by
    show (x &&& (255 : Int32)).toBitVec.toInt = _
    rw [BitVec.toInt_eq_toNat_cond, if_pos (by omega)]
  omega
theorem own_cls3 {o0 o1 o2 o3 : Addr} {k : Int32} (h : k = 0 ∨ k = 1 ∨ k = 2 ∨ k = 3) : own_cls o0 o1 o2 o3 (k &&& 3) = own_cls o0 o1 o2 o3 k := by
  rcases h with rfl | rfl | rfl | rfl <;> rfl
theorem own_clsO {Z : State} {h : Heap} {o0 o1 o2 o3 : Addr} {k : Int32} (b : k = 0 ∨ k = 1 ∨ k = 2 ∨ k = 3) (F0 : Fld Z h o0 "java/lang/Enum" "ordinal" "I" (.int (0 : Int32))) (F1 : Fld Z h o1 "java/lang/Enum" "ordinal" "I" (.int (1 : Int32))) (F2 : Fld Z h o2 "java/lang/Enum" "ordinal" "I" (.int (2 : Int32))) (F3 : Fld Z h o3 "java/lang/Enum" "ordinal" "I" (.int (3 : Int32))) : Fld Z h (own_cls o0 o1 o2 o3 k) "java/lang/Enum" "ordinal" "I" (.int k) := by
  rcases b with rfl | rfl | rfl | rfl <;> assumption
theorem own_clsI {Z : State} {h : Heap} {o0 o1 o2 o3 : Addr} {i j : Int32} (bi : i = 0 ∨ i = 1 ∨ i = 2 ∨ i = 3) (bj : j = 0 ∨ j = 1 ∨ j = 2 ∨ j = 3) (F0 : Fld Z h o0 "java/lang/Enum" "ordinal" "I" (.int (0 : Int32))) (F1 : Fld Z h o1 "java/lang/Enum" "ordinal" "I" (.int (1 : Int32))) (F2 : Fld Z h o2 "java/lang/Enum" "ordinal" "I" (.int (2 : Int32))) (F3 : Fld Z h o3 "java/lang/Enum" "ordinal" "I" (.int (3 : Int32))) : own_cls o0 o1 o2 o3 i = own_cls o0 o1 o2 o3 j ↔ i = j := by
  constructor
  · intro q
    refine Classical.byContradiction fun ne => ?_
    exact absurd q ((own_clsO bi F0 F1 F2 F3).ne (own_clsO bj F0 F1 F2 F3) (fun z => ne (Value.int.inj z)))
  · rintro rfl; rfl
theorem own_ex1 {b : Bool} (h : b = true) : (1 : Int32) = own_bi b := by rw [h]; rfl
theorem own_ex0 {b : Bool} (h : b = false) : (0 : Int32) = own_bi b := by rw [h]; rfl
theorem own_sym (a b : Addr) (x y : Int64) : own_bi (decide (a = b) && decide (x = y)) = own_bi (decide (b = a) && decide (y = x)) := by
  rw [own_dc a b, own_dc x y]
theorem own_in1 (k : ClassId) : ¬ ((0 : Int32) < 0 ∨ (newA k (newarray.typeOf .byte) (1 : Int32)).slots.size ≤ (0 : Int32).toNatClampNeg) := by
  rw [sz_new]; decide
theorem own_inb (q : Int64) (c : Cell) (S : c.slots.size = (256 : Int32).toNatClampNeg) (h1 : ¬ (q < (-128 : Int64))) (h2 : ¬ ((127 : Int64) < q)) : ¬ ((q.toInt32 + (128 : Int32)) < 0 ∨ c.slots.size ≤ (q.toInt32 + (128 : Int32)).toNatClampNeg) := by
  rw [Int64.lt_iff_toInt_lt] at h1 h2
  have e1 : (-128 : Int64).toInt = -128 := by decide
  have e2 : (127 : Int64).toInt = 127 := by decide
  have e3 : (128 : Int32).toInt = 128 := by decide
  have n1 := Jvm.Free.XT.narrowInt (x := q) ⟨by omega, by omega⟩
  have n2 : (q.toInt32 + (128 : Int32)).toInt = q.toInt + 128 := by rw [Jvm.Free.XT.add32 ⟨by rw [n1, e3]; omega, by rw [n1, e3]; omega⟩, n1, e3]
  have e4 : (256 : Int32).toNatClampNeg = 256 := by decide
  rw [Jvm.Free.XT.negI32, S, e4]
  simp only [Int32.toNatClampNeg, n2]
  omega
theorem own_cs {args : Array Value} {s : State} {t : Term} {cs : Int32} (e : t.eval args s none [] s = some (.int cs)) (h : (Jvm.Cond.not (Jvm.Cond.eq t (Term.int (0 : Int32)))).value args s none s [] = some true) : ¬ (cs = 0) := by
  rintro rfl
  simp [Jvm.Cond.value, e, Term.eval] at h
theorem own_sub {args : Array Value} {s : State} {t : Term} {idx : List Nat} {y : Int32} (h : t.eval args s none idx s = some (.int y)) : (Term.sub t (Term.int (128 : Int32))).eval args s none idx s = some (.int (y - 128)) := by simp [Term.eval, h]
theorem own_len {args : Array Value} {s : State} {t : Term} {a : Addr} {c : Cell} {ty : FieldType} {k : Int32} (e : t.eval args s none [] s = some (.ref a)) (A : Arr s s.heap a c ty) (h : (Jvm.Cond.eq (Term.length t) (Term.int k)).value args s none s [] = some true) : c.slots.size < 2 ^ 31 ∧ c.slots.size.toInt32 = k := by
  have h2 := own_eqI h
  have h3 := A.fin (Vm.Alike.refl _)
  simp only [Term.eval, e, Option.bind_eq_bind, Option.bind_some, h3] at h2
  by_cases q : c.slots.size < 2 ^ 31
  · refine ⟨q, ?_⟩
    simpa [q] using h2
  · simp [q] at h2
theorem own_ef_own_c (m : MethodId) (p1 : Int32)  : entryFrame m #[(.int p1)] 2 = (mkF m 0 #[.val (.int p1), .unset] []) := by first | (simp [entryFrame, mkF, argsToLocals, Value.category]; done) | rfl
theorem own_pn0 : plainName "com/example/tagwright/tagwright/model/TagEqualsPinLaw" = true := by first | (simp [plainName, overriddenIn]; done) | decide +kernel
theorem own_d0_0 : decode method_2_code 0 = .ok (.iload_n 0, 1) := by decide +kernel
theorem own_d0_1 : decode method_2_code 1 = .ok (.iconst 3, 1) := by decide +kernel
theorem own_d0_2 : decode method_2_code 2 = .ok (.iand, 1) := by decide +kernel
theorem own_d0_3 : decode method_2_code 3 = .ok (.istore_n 1, 1) := by decide +kernel
theorem own_d0_4 : decode method_2_code 4 = .ok (.iload_n 1, 1) := by decide +kernel
theorem own_d0_5 : decode method_2_code 5 = .ok (.ifCond .ne 7, 3) := by decide +kernel
theorem own_d0_8 : decode method_2_code 8 = .ok (.getstatic 7, 3) := by decide +kernel
theorem own_d0_11 : decode method_2_code 11 = .ok (.areturn, 1) := by decide +kernel
theorem own_d0_12 : decode method_2_code 12 = .ok (.iload_n 1, 1) := by decide +kernel
theorem own_d0_13 : decode method_2_code 13 = .ok (.iconst 1, 1) := by decide +kernel
theorem own_d0_14 : decode method_2_code 14 = .ok (.if_icmp .ne 7, 3) := by decide +kernel
theorem own_d0_17 : decode method_2_code 17 = .ok (.getstatic 13, 3) := by decide +kernel
theorem own_d0_20 : decode method_2_code 20 = .ok (.areturn, 1) := by decide +kernel
theorem own_d0_21 : decode method_2_code 21 = .ok (.iload_n 1, 1) := by decide +kernel
theorem own_d0_22 : decode method_2_code 22 = .ok (.iconst 2, 1) := by decide +kernel
theorem own_d0_23 : decode method_2_code 23 = .ok (.if_icmp .ne 7, 3) := by decide +kernel
theorem own_d0_26 : decode method_2_code 26 = .ok (.getstatic 16, 3) := by decide +kernel
theorem own_d0_29 : decode method_2_code 29 = .ok (.areturn, 1) := by decide +kernel
theorem own_d0_30 : decode method_2_code 30 = .ok (.getstatic 19, 3) := by decide +kernel
theorem own_d0_33 : decode method_2_code 33 = .ok (.areturn, 1) := by decide +kernel
def own_Q_own_c (Z : State) (p1 : Int32) (o0 : Addr) (o1 : Addr) (o2 : Addr) (o3 : Addr) (h0 : Heap) (n0 : Nat) (v : Option Value) (h : Heap) (L : List Loc) : Prop := v = some (.ref (own_cls o0 o1 o2 o3 (p1 &&& 3))) ∧ Fr n0 L ∧ h = h0
set_option maxRecDepth 65536 in
set_option maxHeartbeats 40000000 in
theorem own_c (l : Launch) (Z : State) (a0 : Array Value) (hw : ∀ d ∈ tables_1, d.before a0 Z = true) (ws : List Jvm.Cond) (p1 : Int32) (o0 : Addr) (o1 : Addr) (o2 : Addr) (o3 : Addr) (h0 : Heap) (n0 : Nat) (O0 : Old Z n0 h0) (S0 : Sta Z Z.heap "com/example/tagwright/tagwright/model/TagClass" "UNIVERSAL" "Lcom/example/tagwright/tagwright/model/TagClass;" (.ref o0)) (S1 : Sta Z Z.heap "com/example/tagwright/tagwright/model/TagClass" "APPLICATION" "Lcom/example/tagwright/tagwright/model/TagClass;" (.ref o1)) (S2 : Sta Z Z.heap "com/example/tagwright/tagwright/model/TagClass" "CONTEXT" "Lcom/example/tagwright/tagwright/model/TagClass;" (.ref o2)) (S3 : Sta Z Z.heap "com/example/tagwright/tagwright/model/TagClass" "PRIVATE" "Lcom/example/tagwright/tagwright/model/TagClass;" (.ref o3)) :
    MetFree l (⟨"com/example/tagwright/tagwright/model/TagEqualsPinLaw", "cls", "(I)Lcom/example/tagwright/tagwright/model/TagClass;"⟩ : MethodName) (head1 (Jvm.Cond.code (⟨"com/example/tagwright/tagwright/model/TagEqualsPinLaw", "cls", "(I)Lcom/example/tagwright/tagwright/model/TagClass;"⟩ : MethodName) method_2_code 2 (some (.object "com/example/tagwright/tagwright/model/TagClass")) :: ws) ({ frames := 0, cells := 0, slots := 0, locals := 0 } : Room)) (fun as' U => as' = #[(.int p1)] ∧ Z.Warmed39 U.vm ∧ U.heap = h0) (fun _ _ _ _ _ => True) (fun _ U o U' => ∃ v L, o = .returned v ∧ own_Q_own_c Z p1 o0 o1 o2 o3 h0 n0 v U'.heap L ∧ FrameEnd U o U' L ({ frames := 0, cells := 0, slots := 0, locals := 0 } : Room).cells ({ frames := 0, cells := 0, slots := 0, locals := 0 } : Room).slots) := by
  refine MetFree.of_bodySF (plainFor_of_name own_pn0) hisR ?_
  intro p e s m args below meth c s₁ Bd hml0 hP hK
  obtain ⟨rfl, hZ, hh⟩ := hP
  have hx := Bd.exec
  have hby := Bd.bytes
  have hml : c.maxLocals = 2 := hml0
  have hown : s.vm.findClass "com/example/tagwright/tagwright/model/TagEqualsPinLaw" = some m.cls := findClass_of_methodNamed Bd.named
  have hnm := (name_of_methodNamed Bd.named Bd.method).1
  have X0 : Stand p l e ({ frames := 0, cells := 0, slots := 0, locals := 0 } : Room) s m #[(.int p1)] below meth c s₁ [] 0 0 := Stand.of_body Bd
  have e0 : s₁.heap = h0 := by rw [← hh, Bd.state]; rfl
  have N0 := Fr.nil n0
  show own_Fin p.tables e below (fun s₂ o => ∃ v L, o = .returned v ∧ own_Q_own_c Z p1 o0 o1 o2 o3 h0 n0 v s₂.heap L ∧ FrameEnd s o s₂ L ({ frames := 0, cells := 0, slots := 0, locals := 0 } : Room).cells ({ frames := 0, cells := 0, slots := 0, locals := 0 } : Room).slots) _
  generalize hG : (fun (s₂ : State) (o : Outcome) => ∃ v L, o = Outcome.returned v ∧ own_Q_own_c Z p1 o0 o1 o2 o3 h0 n0 v s₂.heap L ∧ FrameEnd s o s₂ L ({ frames := 0, cells := 0, slots := 0, locals := 0 } : Room).cells ({ frames := 0, cells := 0, slots := 0, locals := 0 } : Room).slots) = G
  refine own_go (fun _ k => castTop (own_ef_own_c m p1) k) ?_
  show own_Fin p.tables e below G (s₁.setTop (mkF m 0 #[.val (.int p1), .unset] []))
  refine own_go (fun _ k => XS.iloadN X0.here hx rfl (hb hby own_d0_0) rfl k) ?_
  show own_Fin p.tables e below G (s₁.setTop (mkF m 1 #[.val (.int p1), .unset] [(.int p1)]))
  refine own_go (fun _ k => XS.iconst X0.here hx rfl (hb hby own_d0_1)  k) ?_
  show own_Fin p.tables e below G (s₁.setTop (mkF m 2 #[.val (.int p1), .unset] [(.int (3 : Int32)), (.int p1)]))
  refine own_go (fun _ k => XS.iand X0.here hx rfl (hb hby own_d0_2) rfl k) ?_
  show own_Fin p.tables e below G (s₁.setTop (mkF m 3 #[.val (.int p1), .unset] [(.int (p1 &&& (3 : Int32)))]))
  refine own_go (fun _ k => XS.istoreN X0.here hx rfl (hb hby own_d0_3) rfl (l' := #[.val (.int p1), .val (.int (p1 &&& (3 : Int32)))]) rfl k) ?_
  show own_Fin p.tables e below G (s₁.setTop (mkF m 4 #[.val (.int p1), .val (.int (p1 &&& (3 : Int32)))] []))
  refine own_go (fun _ k => XS.iloadN X0.here hx rfl (hb hby own_d0_4) rfl k) ?_
  show own_Fin p.tables e below G (s₁.setTop (mkF m 5 #[.val (.int p1), .val (.int (p1 &&& (3 : Int32)))] [(.int (p1 &&& (3 : Int32)))]))
  by_cases hc5 : (p1 &&& (3 : Int32)) = 0
  · refine own_go (fun _ k => XS.ifNo X0.here hx rfl (hb hby own_d0_5) rfl (Jvm.Free.XT.i0_ne_f hc5) k) ?_
    show own_Fin p.tables e below G (s₁.setTop (mkF m 8 #[.val (.int p1), .val (.int (p1 &&& (3 : Int32)))] []))
    obtain ⟨T1, X1, e1, st1⟩ := getS2 X0 hx hZ hown (host := "") (Or.inl (own_at hw 8 rfl)) Via.refl e0 (S0.ext O0.2) (g := (mkF m 8 #[.val (.int p1), .val (.int (p1 &&& (3 : Int32)))] [])) rfl (hb hby own_d0_8)
    refine own_go st1 ?_
    show own_Fin p.tables e below G (T1.setTop (mkF m 11 #[.val (.int p1), .val (.int (p1 &&& (3 : Int32)))] [(.ref o0)]))
    subst hG
    exact own_rv X1 hx (t := (.object "com/example/tagwright/tagwright/model/TagClass")) Bd.returns rfl (Or.inr (Or.inr (Or.inr (Or.inr ⟨rfl, rfl, rfl⟩)))) (hb hby own_d0_11) Bd.notSynchronized (by decide) (by decide) ⟨by simp [own_cls, hc5], N0, e1⟩
  · refine own_go (fun _ k => XS.ifYes X0.here hx rfl (pc0 := 5) (pc' := 12) rfl (hb hby own_d0_5) rfl (Jvm.Free.XT.i0_ne_t hc5) (by decide) (by decide) k) ?_
    show own_Fin p.tables e below G (s₁.setTop (mkF m 12 #[.val (.int p1), .val (.int (p1 &&& (3 : Int32)))] []))
    refine own_go (fun _ k => XS.iloadN X0.here hx rfl (hb hby own_d0_12) rfl k) ?_
    show own_Fin p.tables e below G (s₁.setTop (mkF m 13 #[.val (.int p1), .val (.int (p1 &&& (3 : Int32)))] [(.int (p1 &&& (3 : Int32)))]))
    refine own_go (fun _ k => XS.iconst X0.here hx rfl (hb hby own_d0_13)  k) ?_
    show own_Fin p.tables e below G (s₁.setTop (mkF m 14 #[.val (.int p1), .val (.int (p1 &&& (3 : Int32)))] [(.int (1 : Int32)), (.int (p1 &&& (3 : Int32)))]))
    by_cases hc14 : (p1 &&& (3 : Int32)) = (1 : Int32)
    · refine own_go (fun _ k => XS.icmpNo X0.here hx rfl (hb hby own_d0_14) rfl (Jvm.Free.XT.ii_ne_f hc14) k) ?_
      show own_Fin p.tables e below G (s₁.setTop (mkF m 17 #[.val (.int p1), .val (.int (p1 &&& (3 : Int32)))] []))
      obtain ⟨T2, X2, e2, st2⟩ := getS2 X0 hx hZ hown (host := "") (Or.inl (own_at hw 42 rfl)) Via.refl e0 (S1.ext O0.2) (g := (mkF m 17 #[.val (.int p1), .val (.int (p1 &&& (3 : Int32)))] [])) rfl (hb hby own_d0_17)
      refine own_go st2 ?_
      show own_Fin p.tables e below G (T2.setTop (mkF m 20 #[.val (.int p1), .val (.int (p1 &&& (3 : Int32)))] [(.ref o1)]))
      subst hG
      exact own_rv X2 hx (t := (.object "com/example/tagwright/tagwright/model/TagClass")) Bd.returns rfl (Or.inr (Or.inr (Or.inr (Or.inr ⟨rfl, rfl, rfl⟩)))) (hb hby own_d0_20) Bd.notSynchronized (by decide) (by decide) ⟨by simp [own_cls, hc5, hc14], N0, e2⟩
    · refine own_go (fun _ k => XS.icmpYes X0.here hx rfl (pc0 := 14) (pc' := 21) rfl (hb hby own_d0_14) rfl (Jvm.Free.XT.ii_ne_t hc14) (by decide) (by decide) k) ?_
      show own_Fin p.tables e below G (s₁.setTop (mkF m 21 #[.val (.int p1), .val (.int (p1 &&& (3 : Int32)))] []))
      refine own_go (fun _ k => XS.iloadN X0.here hx rfl (hb hby own_d0_21) rfl k) ?_
      show own_Fin p.tables e below G (s₁.setTop (mkF m 22 #[.val (.int p1), .val (.int (p1 &&& (3 : Int32)))] [(.int (p1 &&& (3 : Int32)))]))
      refine own_go (fun _ k => XS.iconst X0.here hx rfl (hb hby own_d0_22)  k) ?_
      show own_Fin p.tables e below G (s₁.setTop (mkF m 23 #[.val (.int p1), .val (.int (p1 &&& (3 : Int32)))] [(.int (2 : Int32)), (.int (p1 &&& (3 : Int32)))]))
      by_cases hc23 : (p1 &&& (3 : Int32)) = (2 : Int32)
      · refine own_go (fun _ k => XS.icmpNo X0.here hx rfl (hb hby own_d0_23) rfl (Jvm.Free.XT.ii_ne_f hc23) k) ?_
        show own_Fin p.tables e below G (s₁.setTop (mkF m 26 #[.val (.int p1), .val (.int (p1 &&& (3 : Int32)))] []))
        obtain ⟨T3, X3, e3, st3⟩ := getS2 X0 hx hZ hown (host := "") (Or.inl (own_at hw 65 rfl)) Via.refl e0 (S2.ext O0.2) (g := (mkF m 26 #[.val (.int p1), .val (.int (p1 &&& (3 : Int32)))] [])) rfl (hb hby own_d0_26)
        refine own_go st3 ?_
        show own_Fin p.tables e below G (T3.setTop (mkF m 29 #[.val (.int p1), .val (.int (p1 &&& (3 : Int32)))] [(.ref o2)]))
        subst hG
        exact own_rv X3 hx (t := (.object "com/example/tagwright/tagwright/model/TagClass")) Bd.returns rfl (Or.inr (Or.inr (Or.inr (Or.inr ⟨rfl, rfl, rfl⟩)))) (hb hby own_d0_29) Bd.notSynchronized (by decide) (by decide) ⟨by simp [own_cls, hc5, hc14, hc23], N0, e3⟩
      · refine own_go (fun _ k => XS.icmpYes X0.here hx rfl (pc0 := 23) (pc' := 30) rfl (hb hby own_d0_23) rfl (Jvm.Free.XT.ii_ne_t hc23) (by decide) (by decide) k) ?_
        show own_Fin p.tables e below G (s₁.setTop (mkF m 30 #[.val (.int p1), .val (.int (p1 &&& (3 : Int32)))] []))
        obtain ⟨T4, X4, e4, st4⟩ := getS2 X0 hx hZ hown (host := "") (Or.inl (own_at hw 40 rfl)) Via.refl e0 (S3.ext O0.2) (g := (mkF m 30 #[.val (.int p1), .val (.int (p1 &&& (3 : Int32)))] [])) rfl (hb hby own_d0_30)
        refine own_go st4 ?_
        show own_Fin p.tables e below G (T4.setTop (mkF m 33 #[.val (.int p1), .val (.int (p1 &&& (3 : Int32)))] [(.ref o3)]))
        subst hG
        exact own_rv X4 hx (t := (.object "com/example/tagwright/tagwright/model/TagClass")) Bd.returns rfl (Or.inr (Or.inr (Or.inr (Or.inr ⟨rfl, rfl, rfl⟩)))) (hb hby own_d0_33) Bd.notSynchronized (by decide) (by decide) ⟨by simp [own_cls, hc5, hc14, hc23], N0, e4⟩
theorem own_ef_own_rnn (m : MethodId) (a1 : Addr) (a2 : Addr)  : entryFrame m #[(.ref a1), (.ref a2)] 2 = (mkF m 0 #[.val (.ref a1), .val (.ref a2)] []) := by first | (simp [entryFrame, mkF, argsToLocals, Value.category]; done) | rfl
theorem own_pn1 : plainName "java/util/Objects" = true := by first | (simp [plainName, overriddenIn]; done) | decide +kernel
theorem own_d1_0 : decode jdk_31_method_11_code 0 = .ok (.aload_n 0, 1) := by decide +kernel
theorem own_d1_1 : decode jdk_31_method_11_code 1 = .ok (.ifnonnull 12, 3) := by decide +kernel
theorem own_d1_13 : decode jdk_31_method_11_code 13 = .ok (.aload_n 0, 1) := by decide +kernel
theorem own_d1_14 : decode jdk_31_method_11_code 14 = .ok (.areturn, 1) := by decide +kernel
def own_Q_own_rnn (Z : State) (a1 : Addr) (a2 : Addr) (h0 : Heap) (n0 : Nat) (v : Option Value) (h : Heap) (L : List Loc) : Prop := v = some (.ref a1) ∧ Fr n0 L ∧ h = h0
set_option maxRecDepth 65536 in
set_option maxHeartbeats 40000000 in
theorem own_rnn (l : Launch) (Z : State) (a0 : Array Value) (hw : ∀ d ∈ tables_1, d.before a0 Z = true) (ws : List Jvm.Cond) (a1 : Addr) (a2 : Addr) (h0 : Heap) (n0 : Nat) (O0 : Old Z n0 h0) :
    MetFree l (⟨"java/util/Objects", "requireNonNull", "(Ljava/lang/Object;Ljava/lang/String;)Ljava/lang/Object;"⟩ : MethodName) (head1 (Jvm.Cond.code (⟨"java/util/Objects", "requireNonNull", "(Ljava/lang/Object;Ljava/lang/String;)Ljava/lang/Object;"⟩ : MethodName) jdk_31_method_11_code 2 (some (.object "java/lang/Object")) :: ws) ({ frames := 0, cells := 0, slots := 0, locals := 0 } : Room)) (fun as' U => as' = #[(.ref a1), (.ref a2)] ∧ Z.Warmed39 U.vm ∧ U.heap = h0) (fun _ _ _ _ _ => True) (fun _ U o U' => ∃ v L, o = .returned v ∧ own_Q_own_rnn Z a1 a2 h0 n0 v U'.heap L ∧ FrameEnd U o U' L ({ frames := 0, cells := 0, slots := 0, locals := 0 } : Room).cells ({ frames := 0, cells := 0, slots := 0, locals := 0 } : Room).slots) := by
  refine MetFree.of_bodySF (plainFor_of_name own_pn1) hisR ?_
  intro p e s m args below meth c s₁ Bd hml0 hP hK
  obtain ⟨rfl, hZ, hh⟩ := hP
  have hx := Bd.exec
  have hby := Bd.bytes
  have hml : c.maxLocals = 2 := hml0
  have hown : s.vm.findClass "java/util/Objects" = some m.cls := findClass_of_methodNamed Bd.named
  have hnm := (name_of_methodNamed Bd.named Bd.method).1
  have X0 : Stand p l e ({ frames := 0, cells := 0, slots := 0, locals := 0 } : Room) s m #[(.ref a1), (.ref a2)] below meth c s₁ [] 0 0 := Stand.of_body Bd
  have e0 : s₁.heap = h0 := by rw [← hh, Bd.state]; rfl
  have N0 := Fr.nil n0
  show own_Fin p.tables e below (fun s₂ o => ∃ v L, o = .returned v ∧ own_Q_own_rnn Z a1 a2 h0 n0 v s₂.heap L ∧ FrameEnd s o s₂ L ({ frames := 0, cells := 0, slots := 0, locals := 0 } : Room).cells ({ frames := 0, cells := 0, slots := 0, locals := 0 } : Room).slots) _
  generalize hG : (fun (s₂ : State) (o : Outcome) => ∃ v L, o = Outcome.returned v ∧ own_Q_own_rnn Z a1 a2 h0 n0 v s₂.heap L ∧ FrameEnd s o s₂ L ({ frames := 0, cells := 0, slots := 0, locals := 0 } : Room).cells ({ frames := 0, cells := 0, slots := 0, locals := 0 } : Room).slots) = G
  refine own_go (fun _ k => castTop (own_ef_own_rnn m a1 a2) k) ?_
  show own_Fin p.tables e below G (s₁.setTop (mkF m 0 #[.val (.ref a1), .val (.ref a2)] []))
  refine own_go (fun _ k => XS.aloadN X0.here hx rfl (hb hby own_d1_0) rfl rfl k) ?_
  show own_Fin p.tables e below G (s₁.setTop (mkF m 1 #[.val (.ref a1), .val (.ref a2)] [(.ref a1)]))
  refine own_go (fun _ k => XS.ifnonnullYes X0.here hx rfl (pc0 := 1) (pc' := 13) rfl (hb hby own_d1_1) rfl (by decide) (by decide) k) ?_
  show own_Fin p.tables e below G (s₁.setTop (mkF m 13 #[.val (.ref a1), .val (.ref a2)] []))
  refine own_go (fun _ k => XS.aloadN X0.here hx rfl (hb hby own_d1_13) rfl rfl k) ?_
  show own_Fin p.tables e below G (s₁.setTop (mkF m 14 #[.val (.ref a1), .val (.ref a2)] [(.ref a1)]))
  subst hG
  exact own_rv X0 hx (t := (.object "java/lang/Object")) Bd.returns rfl (Or.inr (Or.inr (Or.inr (Or.inr ⟨rfl, rfl, rfl⟩)))) (hb hby own_d1_14) Bd.notSynchronized (by decide) (by decide) ⟨rfl, N0, e0⟩
theorem own_ef_own_ti (m : MethodId) (a : Addr) (tc : Addr) (q : Int64)  : entryFrame m #[(.ref a), (.ref tc), (.long q)] 4 = (mkF m 0 #[.val (.ref a), .val (.ref tc), .val (.long q), .second] []) := by first | (simp [entryFrame, mkF, argsToLocals, Value.category]; done) | rfl
theorem own_pn2 : plainName "com/example/tagwright/tagwright/model/Tag" = true := by first | (simp [plainName, overriddenIn]; done) | decide +kernel
theorem own_d2_0 : decode prog_16_method_1_code 0 = .ok (.aload_n 0, 1) := by decide +kernel
theorem own_d2_1 : decode prog_16_method_1_code 1 = .ok (.invokespecial 1, 3) := by decide +kernel
theorem own_d2_4 : decode prog_16_method_1_code 4 = .ok (.aload_n 1, 1) := by decide +kernel
theorem own_d2_5 : decode prog_16_method_1_code 5 = .ok (.ldc 7, 2) := by decide +kernel
theorem own_pd0 : parseMethodDescriptor "(Ljava/lang/Object;Ljava/lang/String;)Ljava/lang/Object;" = some ⟨[(.object "java/lang/Object"), (.object "java/lang/String")], some (.object "java/lang/Object")⟩ := by decide +kernel
theorem own_d2_7 : decode prog_16_method_1_code 7 = .ok (.invokestatic 9, 3) := by decide +kernel
theorem own_d2_10 : decode prog_16_method_1_code 10 = .ok (.pop, 1) := by decide +kernel
theorem own_d2_11 : decode prog_16_method_1_code 11 = .ok (.lload_n 2, 1) := by decide +kernel
theorem own_d2_12 : decode prog_16_method_1_code 12 = .ok (.lconst 0, 1) := by decide +kernel
theorem own_d2_13 : decode prog_16_method_1_code 13 = .ok (.lcmp, 1) := by decide +kernel
theorem own_d2_14 : decode prog_16_method_1_code 14 = .ok (.ifCond .ge 17, 3) := by decide +kernel
theorem own_d2_31 : decode prog_16_method_1_code 31 = .ok (.aload_n 0, 1) := by decide +kernel
theorem own_d2_32 : decode prog_16_method_1_code 32 = .ok (.aload_n 1, 1) := by decide +kernel
theorem own_d2_33 : decode prog_16_method_1_code 33 = .ok (.putfield 24, 3) := by decide +kernel
theorem own_d2_36 : decode prog_16_method_1_code 36 = .ok (.aload_n 0, 1) := by decide +kernel
theorem own_d2_37 : decode prog_16_method_1_code 37 = .ok (.lload_n 2, 1) := by decide +kernel
theorem own_d2_38 : decode prog_16_method_1_code 38 = .ok (.putfield 29, 3) := by decide +kernel
theorem own_d2_41 : decode prog_16_method_1_code 41 = .ok (.return_, 1) := by decide +kernel
def own_Q_own_ti (Z : State) (a : Addr) (tc : Addr) (q : Int64) (h0 : Heap) (n0 : Nat) (v : Option Value) (h : Heap) (L : List Loc) : Prop := v = none ∧ Fr n0 L ∧ (fun h => Keep h0 h [a] ∧ Exa Z h a "com/example/tagwright/tagwright/model/Tag" ∧ Fld Z h a "com/example/tagwright/tagwright/model/Tag" "tagClass" "Lcom/example/tagwright/tagwright/model/TagClass;" (.ref tc) ∧ Fld Z h a "com/example/tagwright/tagwright/model/Tag" "number" "J" (.long q)) h
set_option maxRecDepth 65536 in
set_option maxHeartbeats 40000000 in
theorem own_ti (l : Launch) (Z : State) (a0 : Array Value) (hw : ∀ d ∈ tables_1, d.before a0 Z = true) (ws : List Jvm.Cond) (a : Addr) (tc : Addr) (q : Int64) (h0 : Heap) (n0 : Nat) (O0 : Old Z n0 h0) (Ea : Exa Z h0 a "com/example/tagwright/tagwright/model/Tag") (Ft : Fld Z h0 a "com/example/tagwright/tagwright/model/Tag" "tagClass" "Lcom/example/tagwright/tagwright/model/TagClass;" .null) (Fn : Fld Z h0 a "com/example/tagwright/tagwright/model/Tag" "number" "J" (.long (0 : Int64))) (ga : n0 ≤ a) (hq : ¬ (q < (0 : Int64))) :
    MetFree l (⟨"com/example/tagwright/tagwright/model/Tag", "<init>", "(Lcom/example/tagwright/tagwright/model/TagClass;J)V"⟩ : MethodName) (head1 (Jvm.Cond.code (⟨"com/example/tagwright/tagwright/model/Tag", "<init>", "(Lcom/example/tagwright/tagwright/model/TagClass;J)V"⟩ : MethodName) prog_16_method_1_code 4 none :: ws) ({ frames := 1, cells := 2, slots := 36, locals := 13 } : Room)) (fun as' U => as' = #[(.ref a), (.ref tc), (.long q)] ∧ Z.Warmed39 U.vm ∧ U.heap = h0) (fun _ _ _ _ _ => True) (fun _ U o U' => ∃ v L, o = .returned v ∧ own_Q_own_ti Z a tc q h0 n0 v U'.heap L ∧ ReturnedEndW U o U' L ({ frames := 1, cells := 2, slots := 36, locals := 13 } : Room).cells ({ frames := 1, cells := 2, slots := 36, locals := 13 } : Room).slots) := by
  refine MetFree.of_bodySF (plainFor_of_name own_pn2) hisR ?_
  intro p e s m args below meth c s₁ Bd hml0 hP hK
  obtain ⟨rfl, hZ, hh⟩ := hP
  have hx := Bd.exec
  have hby := Bd.bytes
  have hml : c.maxLocals = 4 := hml0
  have hown : s.vm.findClass "com/example/tagwright/tagwright/model/Tag" = some m.cls := findClass_of_methodNamed Bd.named
  have hnm := (name_of_methodNamed Bd.named Bd.method).1
  have X0 : Stand p l e ({ frames := 1, cells := 2, slots := 36, locals := 13 } : Room) (s.setVm s.vm) m #[(.ref a), (.ref tc), (.long q)] below meth c s₁ [] 0 0 := Stand.of_body Bd
  have e0 : s₁.heap = h0 := by rw [← hh, Bd.state]; rfl
  have N0 := Fr.nil n0
  show own_Fin p.tables e below (fun s₂ o => ∃ v L, o = .returned v ∧ own_Q_own_ti Z a tc q h0 n0 v s₂.heap L ∧ ReturnedEndW s o s₂ L ({ frames := 1, cells := 2, slots := 36, locals := 13 } : Room).cells ({ frames := 1, cells := 2, slots := 36, locals := 13 } : Room).slots) _
  generalize hG : (fun (s₂ : State) (o : Outcome) => ∃ v L, o = Outcome.returned v ∧ own_Q_own_ti Z a tc q h0 n0 v s₂.heap L ∧ ReturnedEndW s o s₂ L ({ frames := 1, cells := 2, slots := 36, locals := 13 } : Room).cells ({ frames := 1, cells := 2, slots := 36, locals := 13 } : Room).slots) = G
  have SS0 : s.Since s.vm h0.size := (State.WarmedH.refl s).since _
  have hk0 : h0.size ≤ h0.size := Nat.le_refl _
  have K0 := Keep.refl h0 [a]
  refine own_go (fun _ k => castTop (own_ef_own_ti m a tc q) k) ?_
  show own_Fin p.tables e below G (s₁.setTop (mkF m 0 #[.val (.ref a), .val (.ref tc), .val (.long q), .second] []))
  refine own_go (fun _ k => XS.aloadN X0.here hx rfl (hb hby own_d2_0) rfl rfl k) ?_
  show own_Fin p.tables e below G (s₁.setTop (mkF m 1 #[.val (.ref a), .val (.ref tc), .val (.long q), .second] [(.ref a)]))
  obtain ⟨T5, X5, e5, st5⟩ := initO X0 hx hZ hown (own_at hw 14 rfl) (own_at hw 15 rfl) (own_at hw 16 rfl) e0 (g := (mkF m 1 #[.val (.ref a), .val (.ref tc), .val (.long q), .second] [(.ref a)])) rfl (by rw [hml]; rfl) rfl (hb hby own_d2_1) (by decide) (W := 0) (by show 2 * 0 + _ ≤ _; exact Nat.le_of_eq rfl) (by decide)
  refine own_go st5 ?_
  show own_Fin p.tables e below G (T5.setTop (mkF m 4 #[.val (.ref a), .val (.ref tc), .val (.long q), .second] []))
  refine own_go (fun _ k => XS.aloadN X5.here hx rfl (hb hby own_d2_4) rfl rfl k) ?_
  show own_Fin p.tables e below G (T5.setTop (mkF m 5 #[.val (.ref a), .val (.ref tc), .val (.long q), .second] [(.ref tc)]))
  obtain ⟨b6, T6, h6, k6, X6, e6, E6, SS6, hkk6, hZ6, hown6, st6⟩ := ldcS X5 hx hZ hown (own_at hw 17 rfl) (own_sa hw) e5 SS0 hk0 (g := (mkF m 5 #[.val (.ref a), .val (.ref tc), .val (.long q), .second] [(.ref tc)])) rfl (hb hby own_d2_5) (n := 32) (by decide) (by decide) (by decide) (by decide)
  refine own_go st6 ?_
  have F7 := Ft.ext E6
  have F8 := Fn.ext E6
  have E9 := Ea.ext E6
  have O10 := O0.ext E6
  have K11 := K0.ext E6
  have hk12 := Nat.le_trans hk0 E6.1
  show own_Fin p.tables e below G (T6.setTop (mkF m 7 #[.val (.ref a), .val (.ref tc), .val (.long q), .second] [(.ref b6), (.ref tc)]))
  obtain ⟨_, _, ⟨T13, L13, k13, n13⟩, -, X13, ⟨Lc13, hQ13, l13, y13, z13⟩, st13⟩ := Jvm.LawKit.callS X6 hx (y := (⟨"java/util/Objects", "requireNonNull", "(Ljava/lang/Object;Ljava/lang/String;)Ljava/lang/Object;"⟩ : MethodName)) hown6 (mvT hZ6 (own_at hw 25 rfl)) (mvT hZ6 (own_at hw 26 rfl)) (mvT hZ6 (own_at hw 27 rfl)) (mvT hZ6 (own_at hw 28 rfl)) (by decide) (backOf (W := 0) (own_rnn l Z a0 hw [] tc b6 h6 n0 O10) hZ6 (own_at hw 28 rfl) (own_at hw 27 rfl) (by decide) (by decide)) (g := (mkF m 7 #[.val (.ref a), .val (.ref tc), .val (.long q), .second] [(.ref b6), (.ref tc)])) rfl (by rw [hml]; rfl) (argsL := [(.ref tc), (.ref b6)]) (rest := []) (lenOf own_pd0 rfl) rfl (by show 2 * 0 + _ ≤ _; exact Nat.le_of_eq rfl) (hb hby own_d2_7) (fun _ _ => ⟨rfl, e6, (by decide : 2 + 0 ≤ _), (by decide : 36 + 0 ≤ _)⟩)
  dsimp only [Pt.U, Pt.locs, Pt.cells, Pt.slots] at X13 l13 y13 z13 st13 hQ13
  subst l13 y13 z13
  obtain ⟨rfl, N13q, e13⟩ := hQ13
  have N13 := Fr.app N0 N13q
  refine own_go st13 ?_
  show own_Fin p.tables e below G (T13.setTop (mkF m 10 #[.val (.ref a), .val (.ref tc), .val (.long q), .second] [(.ref tc)]))
  refine own_go (fun _ k => XS.pop X13.here hx rfl (hb hby own_d2_10) rfl rfl k) ?_
  show own_Fin p.tables e below G (T13.setTop (mkF m 11 #[.val (.ref a), .val (.ref tc), .val (.long q), .second] []))
  refine own_go (fun _ k => XS.lloadN X13.here hx rfl (hb hby own_d2_11) rfl k) ?_
  show own_Fin p.tables e below G (T13.setTop (mkF m 12 #[.val (.ref a), .val (.ref tc), .val (.long q), .second] [(.long q)]))
  refine own_go (fun _ k => XS.lconst X13.here hx rfl (hb hby own_d2_12)  k) ?_
  show own_Fin p.tables e below G (T13.setTop (mkF m 13 #[.val (.ref a), .val (.ref tc), .val (.long q), .second] [(.long (0 : Int64)), (.long q)]))
  refine own_go (fun _ k => Jvm.Free.XT.lcmp X13.here hx rfl (hb hby own_d2_13) rfl k) ?_
  show own_Fin p.tables e below G (T13.setTop (mkF m 14 #[.val (.ref a), .val (.ref tc), .val (.long q), .second] [(.int (Jvm.Free.XT.cmpL q (0 : Int64)))]))
  refine own_go (fun _ k => XS.ifYes X13.here hx rfl (pc0 := 14) (pc' := 31) rfl (hb hby own_d2_14) rfl (Jvm.Free.XT.ll_ge_t hq) (by decide) (by decide) k) ?_
  show own_Fin p.tables e below G (T13.setTop (mkF m 31 #[.val (.ref a), .val (.ref tc), .val (.long q), .second] []))
  refine own_go (fun _ k => XS.aloadN X13.here hx rfl (hb hby own_d2_31) rfl rfl k) ?_
  show own_Fin p.tables e below G (T13.setTop (mkF m 32 #[.val (.ref a), .val (.ref tc), .val (.long q), .second] [(.ref a)]))
  refine own_go (fun _ k => XS.aloadN X13.here hx rfl (hb hby own_d2_32) rfl rfl k) ?_
  show own_Fin p.tables e below G (T13.setTop (mkF m 33 #[.val (.ref a), .val (.ref tc), .val (.long q), .second] [(.ref tc), (.ref a)]))
  obtain ⟨T14, h14, X14, e14, W14, st14⟩ := putF X13 hx hZ6 hown6 (host := "") (Or.inl (own_at hw 29 rfl)) Via.refl e13 F7 E9 (Or.inr ⟨(own_at hw 30 rfl), rfl, hnm⟩) (own_at hw 2 rfl) (ty := (.object "com/example/tagwright/tagwright/model/TagClass")) (by decide) rfl rfl (g := (mkF m 33 #[.val (.ref a), .val (.ref tc), .val (.long q), .second] [(.ref tc), (.ref a)])) rfl rfl (hb hby own_d2_33)
  refine own_go st14 ?_
  have Fw14 := F7.same W14
  have F15 := F8.other W14 (Or.inr (slot_ne (Or.inr (own_at hw 32 rfl)) (Or.inr (own_at hw 30 rfl)) (by decide) (t := .long) (t' := (.object "com/example/tagwright/tagwright/model/TagClass")) (by decide) (by decide)))
  have E16 := E9.wr W14
  have O17 := O10.wr W14 ga
  have K18 := K11.wr W14 (Or.inl (List.mem_of_getElem? (i := 0) rfl))
  have hk19 := Nat.le_trans hkk6 (Keep.of_wr W14).1
  have N14 := Fr.snoc X14 N13 ga
  show own_Fin p.tables e below G (T14.setTop (mkF m 36 #[.val (.ref a), .val (.ref tc), .val (.long q), .second] []))
  refine own_go (fun _ k => XS.aloadN X14.here hx rfl (hb hby own_d2_36) rfl rfl k) ?_
  show own_Fin p.tables e below G (T14.setTop (mkF m 37 #[.val (.ref a), .val (.ref tc), .val (.long q), .second] [(.ref a)]))
  refine own_go (fun _ k => XS.lloadN X14.here hx rfl (hb hby own_d2_37) rfl k) ?_
  show own_Fin p.tables e below G (T14.setTop (mkF m 38 #[.val (.ref a), .val (.ref tc), .val (.long q), .second] [(.long q), (.ref a)]))
  obtain ⟨T20, h20, X20, e20, W20, st20⟩ := putF X14 hx hZ6 hown6 (host := "") (Or.inl (own_at hw 31 rfl)) Via.refl e14 F15 E16 (Or.inr ⟨(own_at hw 32 rfl), rfl, hnm⟩) (own_at hw 2 rfl) (ty := .long) (by decide) rfl rfl (g := (mkF m 38 #[.val (.ref a), .val (.ref tc), .val (.long q), .second] [(.long q), (.ref a)])) rfl rfl (hb hby own_d2_38)
  refine own_go st20 ?_
  have Fw20 := F15.same W20
  have F21 := Fw14.other W20 (Or.inr (slot_ne (Or.inr (own_at hw 30 rfl)) (Or.inr (own_at hw 32 rfl)) (by decide) (t := (.object "com/example/tagwright/tagwright/model/TagClass")) (t' := .long) (by decide) (by decide)))
  have E22 := E16.wr W20
  have O23 := O17.wr W20 ga
  have K24 := K18.wr W20 (Or.inl (List.mem_of_getElem? (i := 0) rfl))
  have hk25 := Nat.le_trans hk19 (Keep.of_wr W20).1
  have N20 := Fr.snoc X20 N14 ga
  show own_Fin p.tables e below G (T20.setTop (mkF m 41 #[.val (.ref a), .val (.ref tc), .val (.long q), .second] []))
  subst hG
  exact own_r0W X20 SS6 (own_hk e20 hk25) hx Bd.returns (hb hby own_d2_41) Bd.notSynchronized (by decide) (by decide) ⟨rfl, N20, (by rw [e20]; exact ⟨K24, E22, F21, Fw20⟩)⟩
theorem own_ef_own_eq0 (m : MethodId) (a1 : Addr)  : entryFrame m #[(.ref a1), .null] 3 = (mkF m 0 #[.val (.ref a1), .val .null, .unset] []) := by first | (simp [entryFrame, mkF, argsToLocals, Value.category]; done) | rfl
theorem own_d3_0 : decode prog_16_method_4_code 0 = .ok (.aload_n 1, 1) := by decide +kernel
theorem own_d3_1 : decode prog_16_method_4_code 1 = .ok (.instanceof 25, 3) := by decide +kernel
theorem own_d3_4 : decode prog_16_method_4_code 4 = .ok (.ifCond .eq 11, 3) := by decide +kernel
theorem own_d3_15 : decode prog_16_method_4_code 15 = .ok (.iconst 0, 1) := by decide +kernel
theorem own_d3_16 : decode prog_16_method_4_code 16 = .ok (.ireturn, 1) := by decide +kernel
def own_Q_own_eq0 (Z : State) (a1 : Addr) (h0 : Heap) (n0 : Nat) (v : Option Value) (h : Heap) (L : List Loc) : Prop := v = some (.int (0 : Int32)) ∧ Fr n0 L ∧ h = h0
set_option maxRecDepth 65536 in
set_option maxHeartbeats 40000000 in
theorem own_eq0 (l : Launch) (Z : State) (a0 : Array Value) (hw : ∀ d ∈ tables_1, d.before a0 Z = true) (ws : List Jvm.Cond) (a1 : Addr) (h0 : Heap) (n0 : Nat) (O0 : Old Z n0 h0) :
    MetFree l (⟨"com/example/tagwright/tagwright/model/Tag", "equals", "(Ljava/lang/Object;)Z"⟩ : MethodName) (head1 (Jvm.Cond.code (⟨"com/example/tagwright/tagwright/model/Tag", "equals", "(Ljava/lang/Object;)Z"⟩ : MethodName) prog_16_method_4_code 3 (some .boolean) :: ws) ({ frames := 0, cells := 0, slots := 0, locals := 0 } : Room)) (fun as' U => as' = #[(.ref a1), .null] ∧ Z.Warmed39 U.vm ∧ U.heap = h0) (fun _ _ _ _ _ => True) (fun _ U o U' => ∃ v L, o = .returned v ∧ own_Q_own_eq0 Z a1 h0 n0 v U'.heap L ∧ FrameEnd U o U' L ({ frames := 0, cells := 0, slots := 0, locals := 0 } : Room).cells ({ frames := 0, cells := 0, slots := 0, locals := 0 } : Room).slots) := by
  refine MetFree.of_bodySF (plainFor_of_name own_pn2) hisR ?_
  intro p e s m args below meth c s₁ Bd hml0 hP hK
  obtain ⟨rfl, hZ, hh⟩ := hP
  have hx := Bd.exec
  have hby := Bd.bytes
  have hml : c.maxLocals = 3 := hml0
  have hown : s.vm.findClass "com/example/tagwright/tagwright/model/Tag" = some m.cls := findClass_of_methodNamed Bd.named
  have hnm := (name_of_methodNamed Bd.named Bd.method).1
  have X0 : Stand p l e ({ frames := 0, cells := 0, slots := 0, locals := 0 } : Room) s m #[(.ref a1), .null] below meth c s₁ [] 0 0 := Stand.of_body Bd
  have e0 : s₁.heap = h0 := by rw [← hh, Bd.state]; rfl
  have N0 := Fr.nil n0
  show own_Fin p.tables e below (fun s₂ o => ∃ v L, o = .returned v ∧ own_Q_own_eq0 Z a1 h0 n0 v s₂.heap L ∧ FrameEnd s o s₂ L ({ frames := 0, cells := 0, slots := 0, locals := 0 } : Room).cells ({ frames := 0, cells := 0, slots := 0, locals := 0 } : Room).slots) _
  generalize hG : (fun (s₂ : State) (o : Outcome) => ∃ v L, o = Outcome.returned v ∧ own_Q_own_eq0 Z a1 h0 n0 v s₂.heap L ∧ FrameEnd s o s₂ L ({ frames := 0, cells := 0, slots := 0, locals := 0 } : Room).cells ({ frames := 0, cells := 0, slots := 0, locals := 0 } : Room).slots) = G
  refine own_go (fun _ k => castTop (own_ef_own_eq0 m a1) k) ?_
  show own_Fin p.tables e below G (s₁.setTop (mkF m 0 #[.val (.ref a1), .val .null, .unset] []))
  refine own_go (fun _ k => XS.aloadN X0.here hx rfl (hb hby own_d3_0) rfl rfl k) ?_
  show own_Fin p.tables e below G (s₁.setTop (mkF m 1 #[.val (.ref a1), .val .null, .unset] [.null]))
  refine own_go (fun _ k => X0.instanceofNull hx (g := (mkF m 1 #[.val (.ref a1), .val .null, .unset] [.null])) rfl rfl (hb hby own_d3_1) _ k) ?_
  show own_Fin p.tables e below G (s₁.setTop (mkF m 4 #[.val (.ref a1), .val .null, .unset] [(.int (0 : Int32))]))
  refine own_go (fun _ k => XS.ifYes X0.here hx rfl (pc0 := 4) (pc' := 15) rfl (hb hby own_d3_4) rfl (Jvm.Free.XT.i0_eq_t (by decide)) (by decide) (by decide) k) ?_
  show own_Fin p.tables e below G (s₁.setTop (mkF m 15 #[.val (.ref a1), .val .null, .unset] []))
  refine own_go (fun _ k => XS.iconst X0.here hx rfl (hb hby own_d3_15)  k) ?_
  show own_Fin p.tables e below G (s₁.setTop (mkF m 16 #[.val (.ref a1), .val .null, .unset] [(.int (0 : Int32))]))
  subst hG
  exact own_rv X0 hx (t := .boolean) Bd.returns rfl (Or.inl ⟨rfl, Or.inr (Or.inl rfl), _, rfl⟩) (hb hby own_d3_16) Bd.notSynchronized (by decide) (by decide) ⟨rfl, N0, e0⟩
theorem own_ef_own_eqL (m : MethodId) (a1 : Addr) (a2 : Addr)  : entryFrame m #[(.ref a1), (.ref a2)] 3 = (mkF m 0 #[.val (.ref a1), .val (.ref a2), .unset] []) := by first | (simp [entryFrame, mkF, argsToLocals, Value.category]; done) | rfl
theorem own_not_java_lang_Long_com_example_tagwright_tagwright_model_Tag {Z : State} {a0 : Array Value} (hw : ∀ d ∈ tables_1, d.before a0 Z = true) : ∃ c t, Z.vm.findClass "java/lang/Long" = some c ∧ Z.vm.findClass "com/example/tagwright/tagwright/model/Tag" = some t ∧ Z.vm.assignable c t = false := own_noCast (X := "java/lang/Long") (t := ["java/lang/Number", "java/lang/Object"]) (Y := "com/example/tagwright/tagwright/model/Tag") (fun w h => hw w (by revert h; simp only [Jvm.Cond.chainWords, List.mem_cons, List.not_mem_nil, or_false]; intro h; rcases h with rfl | rfl | rfl; exact List.mem_of_getElem? (i := 75) rfl; exact List.mem_of_getElem? (i := 76) rfl; exact List.mem_of_getElem? (i := 64) rfl)) (own_at hw 2 rfl) (by decide)
def own_Q_own_eqL (Z : State) (a1 : Addr) (a2 : Addr) (h0 : Heap) (n0 : Nat) (v : Option Value) (h : Heap) (L : List Loc) : Prop := v = some (.int (0 : Int32)) ∧ Fr n0 L ∧ h = h0
set_option maxRecDepth 65536 in
set_option maxHeartbeats 40000000 in
theorem own_eqL (l : Launch) (Z : State) (a0 : Array Value) (hw : ∀ d ∈ tables_1, d.before a0 Z = true) (ws : List Jvm.Cond) (a1 : Addr) (a2 : Addr) (h0 : Heap) (n0 : Nat) (O0 : Old Z n0 h0) (E2 : Exa Z h0 a2 "java/lang/Long") :
    MetFree l (⟨"com/example/tagwright/tagwright/model/Tag", "equals", "(Ljava/lang/Object;)Z"⟩ : MethodName) (head1 (Jvm.Cond.code (⟨"com/example/tagwright/tagwright/model/Tag", "equals", "(Ljava/lang/Object;)Z"⟩ : MethodName) prog_16_method_4_code 3 (some .boolean) :: ws) ({ frames := 0, cells := 0, slots := 0, locals := 0 } : Room)) (fun as' U => as' = #[(.ref a1), (.ref a2)] ∧ Z.Warmed39 U.vm ∧ U.heap = h0) (fun _ _ _ _ _ => True) (fun _ U o U' => ∃ v L, o = .returned v ∧ own_Q_own_eqL Z a1 a2 h0 n0 v U'.heap L ∧ FrameEnd U o U' L ({ frames := 0, cells := 0, slots := 0, locals := 0 } : Room).cells ({ frames := 0, cells := 0, slots := 0, locals := 0 } : Room).slots) := by
  refine MetFree.of_bodySF (plainFor_of_name own_pn2) hisR ?_
  intro p e s m args below meth c s₁ Bd hml0 hP hK
  obtain ⟨rfl, hZ, hh⟩ := hP
  have hx := Bd.exec
  have hby := Bd.bytes
  have hml : c.maxLocals = 3 := hml0
  have hown : s.vm.findClass "com/example/tagwright/tagwright/model/Tag" = some m.cls := findClass_of_methodNamed Bd.named
  have hnm := (name_of_methodNamed Bd.named Bd.method).1
  have X0 : Stand p l e ({ frames := 0, cells := 0, slots := 0, locals := 0 } : Room) s m #[(.ref a1), (.ref a2)] below meth c s₁ [] 0 0 := Stand.of_body Bd
  have e0 : s₁.heap = h0 := by rw [← hh, Bd.state]; rfl
  have N0 := Fr.nil n0
  show own_Fin p.tables e below (fun s₂ o => ∃ v L, o = .returned v ∧ own_Q_own_eqL Z a1 a2 h0 n0 v s₂.heap L ∧ FrameEnd s o s₂ L ({ frames := 0, cells := 0, slots := 0, locals := 0 } : Room).cells ({ frames := 0, cells := 0, slots := 0, locals := 0 } : Room).slots) _
  generalize hG : (fun (s₂ : State) (o : Outcome) => ∃ v L, o = Outcome.returned v ∧ own_Q_own_eqL Z a1 a2 h0 n0 v s₂.heap L ∧ FrameEnd s o s₂ L ({ frames := 0, cells := 0, slots := 0, locals := 0 } : Room).cells ({ frames := 0, cells := 0, slots := 0, locals := 0 } : Room).slots) = G
  refine own_go (fun _ k => castTop (own_ef_own_eqL m a1 a2) k) ?_
  show own_Fin p.tables e below G (s₁.setTop (mkF m 0 #[.val (.ref a1), .val (.ref a2), .unset] []))
  refine own_go (fun _ k => XS.aloadN X0.here hx rfl (hb hby own_d3_0) rfl rfl k) ?_
  show own_Fin p.tables e below G (s₁.setTop (mkF m 1 #[.val (.ref a1), .val (.ref a2), .unset] [(.ref a2)]))
  obtain ⟨T26, X26, e26, st26⟩ := instNo X0 hx hZ hown (own_at hw 38 rfl) e0 E2 (own_not_java_lang_Long_com_example_tagwright_tagwright_model_Tag hw) (g := (mkF m 1 #[.val (.ref a1), .val (.ref a2), .unset] [(.ref a2)])) rfl rfl (hb hby own_d3_1)
  refine own_go st26 ?_
  show own_Fin p.tables e below G (T26.setTop (mkF m 4 #[.val (.ref a1), .val (.ref a2), .unset] [(.int (0 : Int32))]))
  refine own_go (fun _ k => XS.ifYes X26.here hx rfl (pc0 := 4) (pc' := 15) rfl (hb hby own_d3_4) rfl (Jvm.Free.XT.i0_eq_t (by decide)) (by decide) (by decide) k) ?_
  show own_Fin p.tables e below G (T26.setTop (mkF m 15 #[.val (.ref a1), .val (.ref a2), .unset] []))
  refine own_go (fun _ k => XS.iconst X26.here hx rfl (hb hby own_d3_15)  k) ?_
  show own_Fin p.tables e below G (T26.setTop (mkF m 16 #[.val (.ref a1), .val (.ref a2), .unset] [(.int (0 : Int32))]))
  subst hG
  exact own_rv X26 hx (t := .boolean) Bd.returns rfl (Or.inl ⟨rfl, Or.inr (Or.inl rfl), _, rfl⟩) (hb hby own_d3_16) Bd.notSynchronized (by decide) (by decide) ⟨rfl, N0, e26⟩
theorem own_ef_own_eqS (m : MethodId) (a1 : Addr) (a2 : Addr)  : entryFrame m #[(.ref a1), (.ref a2)] 3 = (mkF m 0 #[.val (.ref a1), .val (.ref a2), .unset] []) := by first | (simp [entryFrame, mkF, argsToLocals, Value.category]; done) | rfl
theorem own_not_java_lang_String_com_example_tagwright_tagwright_model_Tag {Z : State} {a0 : Array Value} (hw : ∀ d ∈ tables_1, d.before a0 Z = true) : ∃ c t, Z.vm.findClass "java/lang/String" = some c ∧ Z.vm.findClass "com/example/tagwright/tagwright/model/Tag" = some t ∧ Z.vm.assignable c t = false := own_noCast (X := "java/lang/String") (t := ["java/lang/Object"]) (Y := "com/example/tagwright/tagwright/model/Tag") (fun w h => hw w (by revert h; simp only [Jvm.Cond.chainWords, List.mem_cons, List.not_mem_nil, or_false]; intro h; rcases h with rfl | rfl; exact List.mem_of_getElem? (i := 63) rfl; exact List.mem_of_getElem? (i := 64) rfl)) (own_at hw 2 rfl) (by decide)
def own_Q_own_eqS (Z : State) (a1 : Addr) (a2 : Addr) (h0 : Heap) (n0 : Nat) (v : Option Value) (h : Heap) (L : List Loc) : Prop := v = some (.int (0 : Int32)) ∧ Fr n0 L ∧ h = h0
set_option maxRecDepth 65536 in
set_option maxHeartbeats 40000000 in
theorem own_eqS (l : Launch) (Z : State) (a0 : Array Value) (hw : ∀ d ∈ tables_1, d.before a0 Z = true) (ws : List Jvm.Cond) (a1 : Addr) (a2 : Addr) (h0 : Heap) (n0 : Nat) (O0 : Old Z n0 h0) (E2 : Exa Z h0 a2 "java/lang/String") :
    MetFree l (⟨"com/example/tagwright/tagwright/model/Tag", "equals", "(Ljava/lang/Object;)Z"⟩ : MethodName) (head1 (Jvm.Cond.code (⟨"com/example/tagwright/tagwright/model/Tag", "equals", "(Ljava/lang/Object;)Z"⟩ : MethodName) prog_16_method_4_code 3 (some .boolean) :: ws) ({ frames := 0, cells := 0, slots := 0, locals := 0 } : Room)) (fun as' U => as' = #[(.ref a1), (.ref a2)] ∧ Z.Warmed39 U.vm ∧ U.heap = h0) (fun _ _ _ _ _ => True) (fun _ U o U' => ∃ v L, o = .returned v ∧ own_Q_own_eqS Z a1 a2 h0 n0 v U'.heap L ∧ FrameEnd U o U' L ({ frames := 0, cells := 0, slots := 0, locals := 0 } : Room).cells ({ frames := 0, cells := 0, slots := 0, locals := 0 } : Room).slots) := by
  refine MetFree.of_bodySF (plainFor_of_name own_pn2) hisR ?_
  intro p e s m args below meth c s₁ Bd hml0 hP hK
  obtain ⟨rfl, hZ, hh⟩ := hP
  have hx := Bd.exec
  have hby := Bd.bytes
  have hml : c.maxLocals = 3 := hml0
  have hown : s.vm.findClass "com/example/tagwright/tagwright/model/Tag" = some m.cls := findClass_of_methodNamed Bd.named
  have hnm := (name_of_methodNamed Bd.named Bd.method).1
  have X0 : Stand p l e ({ frames := 0, cells := 0, slots := 0, locals := 0 } : Room) s m #[(.ref a1), (.ref a2)] below meth c s₁ [] 0 0 := Stand.of_body Bd
  have e0 : s₁.heap = h0 := by rw [← hh, Bd.state]; rfl
  have N0 := Fr.nil n0
  show own_Fin p.tables e below (fun s₂ o => ∃ v L, o = .returned v ∧ own_Q_own_eqS Z a1 a2 h0 n0 v s₂.heap L ∧ FrameEnd s o s₂ L ({ frames := 0, cells := 0, slots := 0, locals := 0 } : Room).cells ({ frames := 0, cells := 0, slots := 0, locals := 0 } : Room).slots) _
  generalize hG : (fun (s₂ : State) (o : Outcome) => ∃ v L, o = Outcome.returned v ∧ own_Q_own_eqS Z a1 a2 h0 n0 v s₂.heap L ∧ FrameEnd s o s₂ L ({ frames := 0, cells := 0, slots := 0, locals := 0 } : Room).cells ({ frames := 0, cells := 0, slots := 0, locals := 0 } : Room).slots) = G
  refine own_go (fun _ k => castTop (own_ef_own_eqS m a1 a2) k) ?_
  show own_Fin p.tables e below G (s₁.setTop (mkF m 0 #[.val (.ref a1), .val (.ref a2), .unset] []))
  refine own_go (fun _ k => XS.aloadN X0.here hx rfl (hb hby own_d3_0) rfl rfl k) ?_
  show own_Fin p.tables e below G (s₁.setTop (mkF m 1 #[.val (.ref a1), .val (.ref a2), .unset] [(.ref a2)]))
  obtain ⟨T27, X27, e27, st27⟩ := instNo X0 hx hZ hown (own_at hw 38 rfl) e0 E2 (own_not_java_lang_String_com_example_tagwright_tagwright_model_Tag hw) (g := (mkF m 1 #[.val (.ref a1), .val (.ref a2), .unset] [(.ref a2)])) rfl rfl (hb hby own_d3_1)
  refine own_go st27 ?_
  show own_Fin p.tables e below G (T27.setTop (mkF m 4 #[.val (.ref a1), .val (.ref a2), .unset] [(.int (0 : Int32))]))
  refine own_go (fun _ k => XS.ifYes X27.here hx rfl (pc0 := 4) (pc' := 15) rfl (hb hby own_d3_4) rfl (Jvm.Free.XT.i0_eq_t (by decide)) (by decide) (by decide) k) ?_
  show own_Fin p.tables e below G (T27.setTop (mkF m 15 #[.val (.ref a1), .val (.ref a2), .unset] []))
  refine own_go (fun _ k => XS.iconst X27.here hx rfl (hb hby own_d3_15)  k) ?_
  show own_Fin p.tables e below G (T27.setTop (mkF m 16 #[.val (.ref a1), .val (.ref a2), .unset] [(.int (0 : Int32))]))
  subst hG
  exact own_rv X27 hx (t := .boolean) Bd.returns rfl (Or.inl ⟨rfl, Or.inr (Or.inl rfl), _, rfl⟩) (hb hby own_d3_16) Bd.notSynchronized (by decide) (by decide) ⟨rfl, N0, e27⟩
theorem own_ef_own_eqT (m : MethodId) (a1 : Addr) (a2 : Addr)  : entryFrame m #[(.ref a1), (.ref a2)] 3 = (mkF m 0 #[.val (.ref a1), .val (.ref a2), .unset] []) := by first | (simp [entryFrame, mkF, argsToLocals, Value.category]; done) | rfl
theorem own_d3_7 : decode prog_16_method_4_code 7 = .ok (.aload_n 1, 1) := by decide +kernel
theorem own_d3_8 : decode prog_16_method_4_code 8 = .ok (.checkcast 25, 3) := by decide +kernel
theorem own_d3_11 : decode prog_16_method_4_code 11 = .ok (.astore_n 2, 1) := by decide +kernel
theorem own_d3_12 : decode prog_16_method_4_code 12 = .ok (.goto 5, 3) := by decide +kernel
theorem own_d3_17 : decode prog_16_method_4_code 17 = .ok (.aload_n 0, 1) := by decide +kernel
theorem own_d3_18 : decode prog_16_method_4_code 18 = .ok (.getfield 24, 3) := by decide +kernel
theorem own_d3_21 : decode prog_16_method_4_code 21 = .ok (.aload_n 2, 1) := by decide +kernel
theorem own_d3_22 : decode prog_16_method_4_code 22 = .ok (.getfield 24, 3) := by decide +kernel
theorem own_d3_25 : decode prog_16_method_4_code 25 = .ok (.if_acmp .ne 19, 3) := by decide +kernel
theorem own_d3_28 : decode prog_16_method_4_code 28 = .ok (.aload_n 0, 1) := by decide +kernel
theorem own_d3_29 : decode prog_16_method_4_code 29 = .ok (.getfield 29, 3) := by decide +kernel
theorem own_d3_32 : decode prog_16_method_4_code 32 = .ok (.aload_n 2, 1) := by decide +kernel
theorem own_d3_33 : decode prog_16_method_4_code 33 = .ok (.getfield 29, 3) := by decide +kernel
theorem own_d3_36 : decode prog_16_method_4_code 36 = .ok (.lcmp, 1) := by decide +kernel
theorem own_d3_37 : decode prog_16_method_4_code 37 = .ok (.ifCond .ne 7, 3) := by decide +kernel
theorem own_d3_40 : decode prog_16_method_4_code 40 = .ok (.iconst 1, 1) := by decide +kernel
theorem own_d3_41 : decode prog_16_method_4_code 41 = .ok (.goto 4, 3) := by decide +kernel
theorem own_d3_45 : decode prog_16_method_4_code 45 = .ok (.ireturn, 1) := by decide +kernel
theorem own_d3_44 : decode prog_16_method_4_code 44 = .ok (.iconst 0, 1) := by decide +kernel
def own_Q_own_eqT (Z : State) (a1 : Addr) (a2 : Addr) (t1 : Addr) (t2 : Addr) (q1 : Int64) (q2 : Int64) (h0 : Heap) (n0 : Nat) (v : Option Value) (h : Heap) (L : List Loc) : Prop := v = some (.int (own_bi (decide (t1 = t2) && decide (q1 = q2)))) ∧ Fr n0 L ∧ h = h0
set_option maxRecDepth 65536 in
set_option maxHeartbeats 40000000 in
theorem own_eqT (l : Launch) (Z : State) (a0 : Array Value) (hw : ∀ d ∈ tables_1, d.before a0 Z = true) (ws : List Jvm.Cond) (a1 : Addr) (a2 : Addr) (t1 : Addr) (t2 : Addr) (q1 : Int64) (q2 : Int64) (h0 : Heap) (n0 : Nat) (O0 : Old Z n0 h0) (E2 : Exa Z h0 a2 "com/example/tagwright/tagwright/model/Tag") (Ft1 : Fld Z h0 a1 "com/example/tagwright/tagwright/model/Tag" "tagClass" "Lcom/example/tagwright/tagwright/model/TagClass;" (.ref t1)) (Fn1 : Fld Z h0 a1 "com/example/tagwright/tagwright/model/Tag" "number" "J" (.long q1)) (Ft2 : Fld Z h0 a2 "com/example/tagwright/tagwright/model/Tag" "tagClass" "Lcom/example/tagwright/tagwright/model/TagClass;" (.ref t2)) (Fn2 : Fld Z h0 a2 "com/example/tagwright/tagwright/model/Tag" "number" "J" (.long q2)) :
    MetFree l (⟨"com/example/tagwright/tagwright/model/Tag", "equals", "(Ljava/lang/Object;)Z"⟩ : MethodName) (head1 (Jvm.Cond.code (⟨"com/example/tagwright/tagwright/model/Tag", "equals", "(Ljava/lang/Object;)Z"⟩ : MethodName) prog_16_method_4_code 3 (some .boolean) :: ws) ({ frames := 0, cells := 0, slots := 0, locals := 0 } : Room)) (fun as' U => as' = #[(.ref a1), (.ref a2)] ∧ Z.Warmed39 U.vm ∧ U.heap = h0) (fun _ _ _ _ _ => True) (fun _ U o U' => ∃ v L, o = .returned v ∧ own_Q_own_eqT Z a1 a2 t1 t2 q1 q2 h0 n0 v U'.heap L ∧ FrameEnd U o U' L ({ frames := 0, cells := 0, slots := 0, locals := 0 } : Room).cells ({ frames := 0, cells := 0, slots := 0, locals := 0 } : Room).slots) := by
  refine MetFree.of_bodySF (plainFor_of_name own_pn2) hisR ?_
  intro p e s m args below meth c s₁ Bd hml0 hP hK
  obtain ⟨rfl, hZ, hh⟩ := hP
  have hx := Bd.exec
  have hby := Bd.bytes
  have hml : c.maxLocals = 3 := hml0
  have hown : s.vm.findClass "com/example/tagwright/tagwright/model/Tag" = some m.cls := findClass_of_methodNamed Bd.named
  have hnm := (name_of_methodNamed Bd.named Bd.method).1
  have X0 : Stand p l e ({ frames := 0, cells := 0, slots := 0, locals := 0 } : Room) s m #[(.ref a1), (.ref a2)] below meth c s₁ [] 0 0 := Stand.of_body Bd
  have e0 : s₁.heap = h0 := by rw [← hh, Bd.state]; rfl
  have N0 := Fr.nil n0
  show own_Fin p.tables e below (fun s₂ o => ∃ v L, o = .returned v ∧ own_Q_own_eqT Z a1 a2 t1 t2 q1 q2 h0 n0 v s₂.heap L ∧ FrameEnd s o s₂ L ({ frames := 0, cells := 0, slots := 0, locals := 0 } : Room).cells ({ frames := 0, cells := 0, slots := 0, locals := 0 } : Room).slots) _
  generalize hG : (fun (s₂ : State) (o : Outcome) => ∃ v L, o = Outcome.returned v ∧ own_Q_own_eqT Z a1 a2 t1 t2 q1 q2 h0 n0 v s₂.heap L ∧ FrameEnd s o s₂ L ({ frames := 0, cells := 0, slots := 0, locals := 0 } : Room).cells ({ frames := 0, cells := 0, slots := 0, locals := 0 } : Room).slots) = G
  refine own_go (fun _ k => castTop (own_ef_own_eqT m a1 a2) k) ?_
  show own_Fin p.tables e below G (s₁.setTop (mkF m 0 #[.val (.ref a1), .val (.ref a2), .unset] []))
  refine own_go (fun _ k => XS.aloadN X0.here hx rfl (hb hby own_d3_0) rfl rfl k) ?_
  show own_Fin p.tables e below G (s₁.setTop (mkF m 1 #[.val (.ref a1), .val (.ref a2), .unset] [(.ref a2)]))
  obtain ⟨T28, X28, e28, st28⟩ := instY X0 hx hZ hown (own_at hw 38 rfl) e0 (Ins.self E2) (g := (mkF m 1 #[.val (.ref a1), .val (.ref a2), .unset] [(.ref a2)])) rfl rfl (hb hby own_d3_1)
  refine own_go st28 ?_
  show own_Fin p.tables e below G (T28.setTop (mkF m 4 #[.val (.ref a1), .val (.ref a2), .unset] [(.int (1 : Int32))]))
  refine own_go (fun _ k => XS.ifNo X28.here hx rfl (hb hby own_d3_4) rfl (Jvm.Free.XT.i0_eq_f (by decide)) k) ?_
  show own_Fin p.tables e below G (T28.setTop (mkF m 7 #[.val (.ref a1), .val (.ref a2), .unset] []))
  refine own_go (fun _ k => XS.aloadN X28.here hx rfl (hb hby own_d3_7) rfl rfl k) ?_
  show own_Fin p.tables e below G (T28.setTop (mkF m 8 #[.val (.ref a1), .val (.ref a2), .unset] [(.ref a2)]))
  obtain ⟨T29, X29, e29, st29⟩ := castY X28 hx hZ hown (own_at hw 38 rfl) e28 (Ins.self E2) (g := (mkF m 8 #[.val (.ref a1), .val (.ref a2), .unset] [(.ref a2)])) rfl rfl (hb hby own_d3_8)
  refine own_go st29 ?_
  show own_Fin p.tables e below G (T29.setTop (mkF m 11 #[.val (.ref a1), .val (.ref a2), .unset] [(.ref a2)]))
  refine own_go (fun _ k => XS.astoreN X29.here hx rfl (hb hby own_d3_11) rfl rfl (l' := #[.val (.ref a1), .val (.ref a2), .val (.ref a2)]) rfl k) ?_
  show own_Fin p.tables e below G (T29.setTop (mkF m 12 #[.val (.ref a1), .val (.ref a2), .val (.ref a2)] []))
  refine own_go (fun _ k => XS.goto X29.here hx rfl (pc0 := 12) (pc' := 17) rfl (hb hby own_d3_12) (by decide) (by decide) k) ?_
  show own_Fin p.tables e below G (T29.setTop (mkF m 17 #[.val (.ref a1), .val (.ref a2), .val (.ref a2)] []))
  refine own_go (fun _ k => XS.aloadN X29.here hx rfl (hb hby own_d3_17) rfl rfl k) ?_
  show own_Fin p.tables e below G (T29.setTop (mkF m 18 #[.val (.ref a1), .val (.ref a2), .val (.ref a2)] [(.ref a1)]))
  obtain ⟨T30, X30, e30, st30⟩ := getF X29 hx hZ hown (host := "") (Or.inl (own_at hw 29 rfl)) Via.refl e29 Ft1 (g := (mkF m 18 #[.val (.ref a1), .val (.ref a2), .val (.ref a2)] [(.ref a1)])) rfl rfl (hb hby own_d3_18)
  refine own_go st30 ?_
  show own_Fin p.tables e below G (T30.setTop (mkF m 21 #[.val (.ref a1), .val (.ref a2), .val (.ref a2)] [(.ref t1)]))
  refine own_go (fun _ k => XS.aloadN X30.here hx rfl (hb hby own_d3_21) rfl rfl k) ?_
  show own_Fin p.tables e below G (T30.setTop (mkF m 22 #[.val (.ref a1), .val (.ref a2), .val (.ref a2)] [(.ref a2), (.ref t1)]))
  obtain ⟨T31, X31, e31, st31⟩ := getF X30 hx hZ hown (host := "") (Or.inl (own_at hw 29 rfl)) Via.refl e30 Ft2 (g := (mkF m 22 #[.val (.ref a1), .val (.ref a2), .val (.ref a2)] [(.ref a2), (.ref t1)])) rfl rfl (hb hby own_d3_22)
  refine own_go st31 ?_
  show own_Fin p.tables e below G (T31.setTop (mkF m 25 #[.val (.ref a1), .val (.ref a2), .val (.ref a2)] [(.ref t2), (.ref t1)]))
  by_cases hc25 : (Value.ref t1) = (Value.ref t2)
  · refine own_go (fun _ k => Jvm.Free.XT.acmpNo X31.here hx rfl (hb hby own_d3_25) rfl rfl rfl (Jvm.Free.XT.aa_ne_f hc25) k) ?_
    show own_Fin p.tables e below G (T31.setTop (mkF m 28 #[.val (.ref a1), .val (.ref a2), .val (.ref a2)] []))
    refine own_go (fun _ k => XS.aloadN X31.here hx rfl (hb hby own_d3_28) rfl rfl k) ?_
    show own_Fin p.tables e below G (T31.setTop (mkF m 29 #[.val (.ref a1), .val (.ref a2), .val (.ref a2)] [(.ref a1)]))
    obtain ⟨T32, X32, e32, st32⟩ := getF X31 hx hZ hown (host := "") (Or.inl (own_at hw 31 rfl)) Via.refl e31 Fn1 (g := (mkF m 29 #[.val (.ref a1), .val (.ref a2), .val (.ref a2)] [(.ref a1)])) rfl rfl (hb hby own_d3_29)
    refine own_go st32 ?_
    show own_Fin p.tables e below G (T32.setTop (mkF m 32 #[.val (.ref a1), .val (.ref a2), .val (.ref a2)] [(.long q1)]))
    refine own_go (fun _ k => XS.aloadN X32.here hx rfl (hb hby own_d3_32) rfl rfl k) ?_
    show own_Fin p.tables e below G (T32.setTop (mkF m 33 #[.val (.ref a1), .val (.ref a2), .val (.ref a2)] [(.ref a2), (.long q1)]))
    obtain ⟨T33, X33, e33, st33⟩ := getF X32 hx hZ hown (host := "") (Or.inl (own_at hw 31 rfl)) Via.refl e32 Fn2 (g := (mkF m 33 #[.val (.ref a1), .val (.ref a2), .val (.ref a2)] [(.ref a2), (.long q1)])) rfl rfl (hb hby own_d3_33)
    refine own_go st33 ?_
    show own_Fin p.tables e below G (T33.setTop (mkF m 36 #[.val (.ref a1), .val (.ref a2), .val (.ref a2)] [(.long q2), (.long q1)]))
    refine own_go (fun _ k => Jvm.Free.XT.lcmp X33.here hx rfl (hb hby own_d3_36) rfl k) ?_
    show own_Fin p.tables e below G (T33.setTop (mkF m 37 #[.val (.ref a1), .val (.ref a2), .val (.ref a2)] [(.int (Jvm.Free.XT.cmpL q1 q2))]))
    by_cases hc37 : q1 = q2
    · refine own_go (fun _ k => XS.ifNo X33.here hx rfl (hb hby own_d3_37) rfl (Jvm.Free.XT.ll_ne_f hc37) k) ?_
      show own_Fin p.tables e below G (T33.setTop (mkF m 40 #[.val (.ref a1), .val (.ref a2), .val (.ref a2)] []))
      refine own_go (fun _ k => XS.iconst X33.here hx rfl (hb hby own_d3_40)  k) ?_
      show own_Fin p.tables e below G (T33.setTop (mkF m 41 #[.val (.ref a1), .val (.ref a2), .val (.ref a2)] [(.int (1 : Int32))]))
      refine own_go (fun _ k => XS.goto X33.here hx rfl (pc0 := 41) (pc' := 45) rfl (hb hby own_d3_41) (by decide) (by decide) k) ?_
      show own_Fin p.tables e below G (T33.setTop (mkF m 45 #[.val (.ref a1), .val (.ref a2), .val (.ref a2)] [(.int (1 : Int32))]))
      subst hG
      exact own_rv X33 hx (t := .boolean) Bd.returns rfl (Or.inl ⟨rfl, Or.inr (Or.inl rfl), _, rfl⟩) (hb hby own_d3_45) Bd.notSynchronized (by decide) (by decide) ⟨by simp only [Value.ref.injEq] at hc25; simp [own_bi, hc25, hc37], N0, e33⟩
    · refine own_go (fun _ k => XS.ifYes X33.here hx rfl (pc0 := 37) (pc' := 44) rfl (hb hby own_d3_37) rfl (Jvm.Free.XT.ll_ne_t hc37) (by decide) (by decide) k) ?_
      show own_Fin p.tables e below G (T33.setTop (mkF m 44 #[.val (.ref a1), .val (.ref a2), .val (.ref a2)] []))
      refine own_go (fun _ k => XS.iconst X33.here hx rfl (hb hby own_d3_44)  k) ?_
      show own_Fin p.tables e below G (T33.setTop (mkF m 45 #[.val (.ref a1), .val (.ref a2), .val (.ref a2)] [(.int (0 : Int32))]))
      subst hG
      exact own_rv X33 hx (t := .boolean) Bd.returns rfl (Or.inl ⟨rfl, Or.inr (Or.inl rfl), _, rfl⟩) (hb hby own_d3_45) Bd.notSynchronized (by decide) (by decide) ⟨by simp only [Value.ref.injEq] at hc25; simp [own_bi, hc25, hc37], N0, e33⟩
  · refine own_go (fun _ k => Jvm.Free.XT.acmpYes X31.here hx rfl (pc0 := 25) (pc' := 44) rfl (hb hby own_d3_25) rfl rfl rfl (Jvm.Free.XT.aa_ne_t hc25) (by decide) (by decide) k) ?_
    show own_Fin p.tables e below G (T31.setTop (mkF m 44 #[.val (.ref a1), .val (.ref a2), .val (.ref a2)] []))
    refine own_go (fun _ k => XS.iconst X31.here hx rfl (hb hby own_d3_44)  k) ?_
    show own_Fin p.tables e below G (T31.setTop (mkF m 45 #[.val (.ref a1), .val (.ref a2), .val (.ref a2)] [(.int (0 : Int32))]))
    subst hG
    exact own_rv X31 hx (t := .boolean) Bd.returns rfl (Or.inl ⟨rfl, Or.inr (Or.inl rfl), _, rfl⟩) (hb hby own_d3_45) Bd.notSynchronized (by decide) (by decide) ⟨by simp only [Value.ref.injEq] at hc25; simp [own_bi, hc25], N0, e31⟩
theorem own_ef_own_ni (m : MethodId) (a : Addr)  : entryFrame m #[(.ref a)] 1 = (mkF m 0 #[.val (.ref a)] []) := by first | (simp [entryFrame, mkF, argsToLocals, Value.category]; done) | rfl
theorem own_pn3 : plainName "java/lang/Number" = true := by first | (simp [plainName, overriddenIn]; done) | decide +kernel
theorem own_d4_0 : decode jdk_18_method_1_code 0 = .ok (.aload_n 0, 1) := by decide +kernel
theorem own_d4_1 : decode jdk_18_method_1_code 1 = .ok (.invokespecial 1, 3) := by decide +kernel
theorem own_d4_4 : decode jdk_18_method_1_code 4 = .ok (.return_, 1) := by decide +kernel
def own_Q_own_ni (Z : State) (a : Addr) (h0 : Heap) (n0 : Nat) (v : Option Value) (h : Heap) (L : List Loc) : Prop := v = none ∧ Fr n0 L ∧ h = h0
set_option maxRecDepth 65536 in
set_option maxHeartbeats 40000000 in
theorem own_ni (l : Launch) (Z : State) (a0 : Array Value) (hw : ∀ d ∈ tables_1, d.before a0 Z = true) (ws : List Jvm.Cond) (a : Addr) (h0 : Heap) (n0 : Nat) (O0 : Old Z n0 h0) :
    MetFree l (⟨"java/lang/Number", "<init>", "()V"⟩ : MethodName) (head1 (Jvm.Cond.code (⟨"java/lang/Number", "<init>", "()V"⟩ : MethodName) jdk_18_method_1_code 1 none :: ws) ({ frames := 1, cells := 0, slots := 0, locals := 12 } : Room)) (fun as' U => as' = #[(.ref a)] ∧ Z.Warmed39 U.vm ∧ U.heap = h0) (fun _ _ _ _ _ => True) (fun _ U o U' => ∃ v L, o = .returned v ∧ own_Q_own_ni Z a h0 n0 v U'.heap L ∧ FrameEnd U o U' L ({ frames := 1, cells := 0, slots := 0, locals := 12 } : Room).cells ({ frames := 1, cells := 0, slots := 0, locals := 12 } : Room).slots) := by
  refine MetFree.of_bodySF (plainFor_of_name own_pn3) hisR ?_
  intro p e s m args below meth c s₁ Bd hml0 hP hK
  obtain ⟨rfl, hZ, hh⟩ := hP
  have hx := Bd.exec
  have hby := Bd.bytes
  have hml : c.maxLocals = 1 := hml0
  have hown : s.vm.findClass "java/lang/Number" = some m.cls := findClass_of_methodNamed Bd.named
  have hnm := (name_of_methodNamed Bd.named Bd.method).1
  have X0 : Stand p l e ({ frames := 1, cells := 0, slots := 0, locals := 12 } : Room) s m #[(.ref a)] below meth c s₁ [] 0 0 := Stand.of_body Bd
  have e0 : s₁.heap = h0 := by rw [← hh, Bd.state]; rfl
  have N0 := Fr.nil n0
  show own_Fin p.tables e below (fun s₂ o => ∃ v L, o = .returned v ∧ own_Q_own_ni Z a h0 n0 v s₂.heap L ∧ FrameEnd s o s₂ L ({ frames := 1, cells := 0, slots := 0, locals := 12 } : Room).cells ({ frames := 1, cells := 0, slots := 0, locals := 12 } : Room).slots) _
  generalize hG : (fun (s₂ : State) (o : Outcome) => ∃ v L, o = Outcome.returned v ∧ own_Q_own_ni Z a h0 n0 v s₂.heap L ∧ FrameEnd s o s₂ L ({ frames := 1, cells := 0, slots := 0, locals := 12 } : Room).cells ({ frames := 1, cells := 0, slots := 0, locals := 12 } : Room).slots) = G
  refine own_go (fun _ k => castTop (own_ef_own_ni m a) k) ?_
  show own_Fin p.tables e below G (s₁.setTop (mkF m 0 #[.val (.ref a)] []))
  refine own_go (fun _ k => XS.aloadN X0.here hx rfl (hb hby own_d4_0) rfl rfl k) ?_
  show own_Fin p.tables e below G (s₁.setTop (mkF m 1 #[.val (.ref a)] [(.ref a)]))
  obtain ⟨T34, X34, e34, st34⟩ := initO X0 hx hZ hown (own_at hw 89 rfl) (own_at hw 15 rfl) (own_at hw 16 rfl) e0 (g := (mkF m 1 #[.val (.ref a)] [(.ref a)])) rfl (by rw [hml]; rfl) rfl (hb hby own_d4_1) (by decide) (W := 0) (by show 2 * 0 + _ ≤ _; exact Nat.le_of_eq rfl) (by decide)
  refine own_go st34 ?_
  show own_Fin p.tables e below G (T34.setTop (mkF m 4 #[.val (.ref a)] []))
  subst hG
  exact own_r0 X34 hx Bd.returns (hb hby own_d4_4) Bd.notSynchronized (by decide) (by decide) ⟨rfl, N0, e34⟩
theorem own_ef_own_li (m : MethodId) (a : Addr) (q : Int64)  : entryFrame m #[(.ref a), (.long q)] 3 = (mkF m 0 #[.val (.ref a), .val (.long q), .second] []) := by first | (simp [entryFrame, mkF, argsToLocals, Value.category]; done) | rfl
theorem own_pn4 : plainName "java/lang/Long" = true := by first | (simp [plainName, overriddenIn]; done) | decide +kernel
theorem own_d5_0 : decode jdk_35_method_26_code 0 = .ok (.aload_n 0, 1) := by decide +kernel
theorem own_pd1 : parseMethodDescriptor "()V" = some ⟨[], none⟩ := by decide +kernel
theorem own_d5_1 : decode jdk_35_method_26_code 1 = .ok (.invokespecial 270, 3) := by decide +kernel
theorem own_d5_4 : decode jdk_35_method_26_code 4 = .ok (.aload_n 0, 1) := by decide +kernel
theorem own_d5_5 : decode jdk_35_method_26_code 5 = .ok (.lload_n 1, 1) := by decide +kernel
theorem own_d5_6 : decode jdk_35_method_26_code 6 = .ok (.putfield 273, 3) := by decide +kernel
theorem own_d5_9 : decode jdk_35_method_26_code 9 = .ok (.return_, 1) := by decide +kernel
def own_Q_own_li (Z : State) (a : Addr) (q : Int64) (h0 : Heap) (n0 : Nat) (v : Option Value) (h : Heap) (L : List Loc) : Prop := v = none ∧ Fr n0 L ∧ (fun h => Keep h0 h [a] ∧ Exa Z h a "java/lang/Long") h
set_option maxRecDepth 65536 in
set_option maxHeartbeats 40000000 in
theorem own_li (l : Launch) (Z : State) (a0 : Array Value) (hw : ∀ d ∈ tables_1, d.before a0 Z = true) (ws : List Jvm.Cond) (a : Addr) (q : Int64) (h0 : Heap) (n0 : Nat) (O0 : Old Z n0 h0) (Ea : Exa Z h0 a "java/lang/Long") (Fv : Fld Z h0 a "java/lang/Long" "value" "J" (.long (0 : Int64))) (ga : n0 ≤ a) :
    MetFree l (⟨"java/lang/Long", "<init>", "(J)V"⟩ : MethodName) (head1 (Jvm.Cond.code (⟨"java/lang/Long", "<init>", "(J)V"⟩ : MethodName) jdk_35_method_26_code 3 none :: ws) ({ frames := 2, cells := 0, slots := 0, locals := 24 } : Room)) (fun as' U => as' = #[(.ref a), (.long q)] ∧ Z.Warmed39 U.vm ∧ U.heap = h0) (fun _ _ _ _ _ => True) (fun _ U o U' => ∃ v L, o = .returned v ∧ own_Q_own_li Z a q h0 n0 v U'.heap L ∧ FrameEnd U o U' L ({ frames := 2, cells := 0, slots := 0, locals := 24 } : Room).cells ({ frames := 2, cells := 0, slots := 0, locals := 24 } : Room).slots) := by
  refine MetFree.of_bodySF (plainFor_of_name own_pn4) hisR ?_
  intro p e s m args below meth c s₁ Bd hml0 hP hK
  obtain ⟨rfl, hZ, hh⟩ := hP
  have hx := Bd.exec
  have hby := Bd.bytes
  have hml : c.maxLocals = 3 := hml0
  have hown : s.vm.findClass "java/lang/Long" = some m.cls := findClass_of_methodNamed Bd.named
  have hnm := (name_of_methodNamed Bd.named Bd.method).1
  have X0 : Stand p l e ({ frames := 2, cells := 0, slots := 0, locals := 24 } : Room) s m #[(.ref a), (.long q)] below meth c s₁ [] 0 0 := Stand.of_body Bd
  have e0 : s₁.heap = h0 := by rw [← hh, Bd.state]; rfl
  have N0 := Fr.nil n0
  show own_Fin p.tables e below (fun s₂ o => ∃ v L, o = .returned v ∧ own_Q_own_li Z a q h0 n0 v s₂.heap L ∧ FrameEnd s o s₂ L ({ frames := 2, cells := 0, slots := 0, locals := 24 } : Room).cells ({ frames := 2, cells := 0, slots := 0, locals := 24 } : Room).slots) _
  generalize hG : (fun (s₂ : State) (o : Outcome) => ∃ v L, o = Outcome.returned v ∧ own_Q_own_li Z a q h0 n0 v s₂.heap L ∧ FrameEnd s o s₂ L ({ frames := 2, cells := 0, slots := 0, locals := 24 } : Room).cells ({ frames := 2, cells := 0, slots := 0, locals := 24 } : Room).slots) = G
  have K0 := Keep.refl h0 [a]
  refine own_go (fun _ k => castTop (own_ef_own_li m a q) k) ?_
  show own_Fin p.tables e below G (s₁.setTop (mkF m 0 #[.val (.ref a), .val (.long q), .second] []))
  refine own_go (fun _ k => XS.aloadN X0.here hx rfl (hb hby own_d5_0) rfl rfl k) ?_
  show own_Fin p.tables e below G (s₁.setTop (mkF m 1 #[.val (.ref a), .val (.long q), .second] [(.ref a)]))
  obtain ⟨_, _, ⟨T35, L35, k35, n35⟩, -, X35, ⟨Lc35, hQ35, l35, y35, z35⟩, st35⟩ := X0.specialBack hx (y := (⟨"java/lang/Number", "<init>", "()V"⟩ : MethodName)) rfl hown (mvT hZ (own_at hw 83 rfl)) (mvT hZ (own_at hw 84 rfl)) (mvT hZ (own_at hw 88 rfl)) (by decide) (backOf (W := 0) (own_ni l Z a0 hw [] a h0 n0 O0) hZ (own_at hw 88 rfl) (own_at hw 87 rfl) (by decide) (by decide)) (g := (mkF m 1 #[.val (.ref a), .val (.long q), .second] [(.ref a)])) rfl (by rw [hml]; rfl) (Steps.refl _) (a := a) (argsL := []) (rest := []) (lenOf own_pd1 rfl) rfl (by show 2 * 0 + _ ≤ _; exact Nat.le_of_eq rfl) (hb hby own_d5_1) (fun _ _ => ⟨rfl, e0, (by decide : 0 + 0 ≤ _), (by decide : 0 + 0 ≤ _)⟩)
  dsimp only [Pt.U, Pt.locs, Pt.cells, Pt.slots] at X35 l35 y35 z35 st35 hQ35
  subst l35 y35 z35
  obtain ⟨rfl, N35q, e35⟩ := hQ35
  have N35 := Fr.app N0 N35q
  refine own_go (fun _ k => st35.trans k) ?_
  show own_Fin p.tables e below G (T35.setTop (mkF m 4 #[.val (.ref a), .val (.long q), .second] []))
  refine own_go (fun _ k => XS.aloadN X35.here hx rfl (hb hby own_d5_4) rfl rfl k) ?_
  show own_Fin p.tables e below G (T35.setTop (mkF m 5 #[.val (.ref a), .val (.long q), .second] [(.ref a)]))
  refine own_go (fun _ k => XS.lloadN X35.here hx rfl (hb hby own_d5_5) rfl k) ?_
  show own_Fin p.tables e below G (T35.setTop (mkF m 6 #[.val (.ref a), .val (.long q), .second] [(.long q), (.ref a)]))
  obtain ⟨T36, h36, X36, e36, W36, st36⟩ := putF X35 hx hZ hown (host := "") (Or.inl (own_at hw 90 rfl)) Via.refl e35 Fv Ea (Or.inr ⟨(own_at hw 91 rfl), rfl, hnm⟩) (own_at hw 78 rfl) (ty := .long) (by decide) rfl rfl (g := (mkF m 6 #[.val (.ref a), .val (.long q), .second] [(.long q), (.ref a)])) rfl rfl (hb hby own_d5_6)
  refine own_go st36 ?_
  have Fw36 := Fv.same W36
  have E37 := Ea.wr W36
  have O38 := O0.wr W36 ga
  have K39 := K0.wr W36 (Or.inl (List.mem_of_getElem? (i := 0) rfl))
  have N36 := Fr.snoc X36 N35 ga
  show own_Fin p.tables e below G (T36.setTop (mkF m 9 #[.val (.ref a), .val (.long q), .second] []))
  subst hG
  exact own_r0 X36 hx Bd.returns (hb hby own_d5_9) Bd.notSynchronized (by decide) (by decide) ⟨rfl, N36, (by rw [e36]; exact ⟨K39, E37⟩)⟩
theorem own_ef_own_lvo (m : MethodId) (q : Int64)  : entryFrame m #[(.long q)] 3 = (mkF m 0 #[.val (.long q), .second, .unset] []) := by first | (simp [entryFrame, mkF, argsToLocals, Value.category]; done) | rfl
theorem own_d6_0 : decode jdk_35_method_24_code 0 = .ok (.sipush 128, 3) := by decide +kernel
theorem own_d6_3 : decode jdk_35_method_24_code 3 = .ok (.istore_n 2, 1) := by decide +kernel
theorem own_d6_4 : decode jdk_35_method_24_code 4 = .ok (.lload_n 0, 1) := by decide +kernel
theorem own_d6_5 : decode jdk_35_method_24_code 5 = .ok (.ldc2_w 230, 3) := by decide +kernel
theorem own_d6_8 : decode jdk_35_method_24_code 8 = .ok (.lcmp, 1) := by decide +kernel
theorem own_d6_9 : decode jdk_35_method_24_code 9 = .ok (.ifCond .lt 22, 3) := by decide +kernel
theorem own_d6_31 : decode jdk_35_method_24_code 31 = .ok (.new 1, 3) := by decide +kernel
theorem own_d6_34 : decode jdk_35_method_24_code 34 = .ok (.dup, 1) := by decide +kernel
theorem own_d6_35 : decode jdk_35_method_24_code 35 = .ok (.lload_n 0, 1) := by decide +kernel
theorem own_pd2 : parseMethodDescriptor "(J)V" = some ⟨[.long], none⟩ := by decide +kernel
theorem own_d6_36 : decode jdk_35_method_24_code 36 = .ok (.invokespecial 240, 3) := by decide +kernel
theorem own_d6_39 : decode jdk_35_method_24_code 39 = .ok (.areturn, 1) := by decide +kernel
theorem own_d6_12 : decode jdk_35_method_24_code 12 = .ok (.lload_n 0, 1) := by decide +kernel
theorem own_d6_13 : decode jdk_35_method_24_code 13 = .ok (.ldc2_w 232, 3) := by decide +kernel
theorem own_d6_16 : decode jdk_35_method_24_code 16 = .ok (.lcmp, 1) := by decide +kernel
theorem own_d6_17 : decode jdk_35_method_24_code 17 = .ok (.ifCond .gt 14, 3) := by decide +kernel
theorem own_d6_20 : decode jdk_35_method_24_code 20 = .ok (.getstatic 234, 3) := by decide +kernel
theorem own_d6_23 : decode jdk_35_method_24_code 23 = .ok (.lload_n 0, 1) := by decide +kernel
theorem own_d6_24 : decode jdk_35_method_24_code 24 = .ok (.l2i, 1) := by decide +kernel
theorem own_d6_25 : decode jdk_35_method_24_code 25 = .ok (.sipush 128, 3) := by decide +kernel
theorem own_d6_28 : decode jdk_35_method_24_code 28 = .ok (.iadd, 1) := by decide +kernel
theorem own_d6_29 : decode jdk_35_method_24_code 29 = .ok (.aaload, 1) := by decide +kernel
theorem own_d6_30 : decode jdk_35_method_24_code 30 = .ok (.areturn, 1) := by decide +kernel
def own_Q_own_lvo (Z : State) (q : Int64) (oc : Addr) (cc : Cell) (h0 : Heap) (n0 : Nat) (v : Option Value) (h : Heap) (L : List Loc) : Prop := ∃ b : Addr, v = some (.ref b) ∧ Fr n0 L ∧ (fun h => Keep h0 h [] ∧ Exa Z h b "java/lang/Long") h
set_option maxRecDepth 65536 in
set_option maxHeartbeats 40000000 in
theorem own_lvo (l : Launch) (Z : State) (a0 : Array Value) (hw : ∀ d ∈ tables_1, d.before a0 Z = true) (ws : List Jvm.Cond) (q : Int64) (oc : Addr) (cc : Cell) (h0 : Heap) (n0 : Nat) (O0 : Old Z n0 h0) (SC : Sta Z Z.heap "java/lang/Long$LongCache" "cache" "[Ljava/lang/Long;" (.ref oc)) (BX : Bxs Z oc cc "java/lang/Long" "J" (256 : Int32) (fun j => .long (own_lv j))) :
    MetFree l (⟨"java/lang/Long", "valueOf", "(J)Ljava/lang/Long;"⟩ : MethodName) (head1 (Jvm.Cond.code (⟨"java/lang/Long", "valueOf", "(J)Ljava/lang/Long;"⟩ : MethodName) jdk_35_method_24_code 3 (some (.object "java/lang/Long")) :: ws) ({ frames := 3, cells := 1, slots := 1, locals := 39 } : Room)) (fun as' U => as' = #[(.long q)] ∧ Z.Warmed39 U.vm ∧ U.heap = h0) (fun _ _ _ _ _ => True) (fun _ U o U' => ∃ v L, o = .returned v ∧ own_Q_own_lvo Z q oc cc h0 n0 v U'.heap L ∧ FrameEnd U o U' L ({ frames := 3, cells := 1, slots := 1, locals := 39 } : Room).cells ({ frames := 3, cells := 1, slots := 1, locals := 39 } : Room).slots) := by
  refine MetFree.of_bodySF (plainFor_of_name own_pn4) hisR ?_
  intro p e s m args below meth c s₁ Bd hml0 hP hK
  obtain ⟨rfl, hZ, hh⟩ := hP
  have hx := Bd.exec
  have hby := Bd.bytes
  have hml : c.maxLocals = 3 := hml0
  have hown : s.vm.findClass "java/lang/Long" = some m.cls := findClass_of_methodNamed Bd.named
  have hnm := (name_of_methodNamed Bd.named Bd.method).1
  have X0 : Stand p l e ({ frames := 3, cells := 1, slots := 1, locals := 39 } : Room) s m #[(.long q)] below meth c s₁ [] 0 0 := Stand.of_body Bd
  have e0 : s₁.heap = h0 := by rw [← hh, Bd.state]; rfl
  have N0 := Fr.nil n0
  show own_Fin p.tables e below (fun s₂ o => ∃ v L, o = .returned v ∧ own_Q_own_lvo Z q oc cc h0 n0 v s₂.heap L ∧ FrameEnd s o s₂ L ({ frames := 3, cells := 1, slots := 1, locals := 39 } : Room).cells ({ frames := 3, cells := 1, slots := 1, locals := 39 } : Room).slots) _
  generalize hG : (fun (s₂ : State) (o : Outcome) => ∃ v L, o = Outcome.returned v ∧ own_Q_own_lvo Z q oc cc h0 n0 v s₂.heap L ∧ FrameEnd s o s₂ L ({ frames := 3, cells := 1, slots := 1, locals := 39 } : Room).cells ({ frames := 3, cells := 1, slots := 1, locals := 39 } : Room).slots) = G
  have K0 := Keep.refl h0 []
  refine own_go (fun _ k => castTop (own_ef_own_lvo m q) k) ?_
  show own_Fin p.tables e below G (s₁.setTop (mkF m 0 #[.val (.long q), .second, .unset] []))
  refine own_go (fun _ k => XS.sipush X0.here hx rfl (hb hby own_d6_0)  k) ?_
  show own_Fin p.tables e below G (s₁.setTop (mkF m 3 #[.val (.long q), .second, .unset] [(.int (128 : Int32))]))
  refine own_go (fun _ k => XS.istoreN X0.here hx rfl (hb hby own_d6_3) rfl (l' := #[.val (.long q), .second, .val (.int (128 : Int32))]) rfl k) ?_
  show own_Fin p.tables e below G (s₁.setTop (mkF m 4 #[.val (.long q), .second, .val (.int (128 : Int32))] []))
  refine own_go (fun _ k => XS.lloadN X0.here hx rfl (hb hby own_d6_4) rfl k) ?_
  show own_Fin p.tables e below G (s₁.setTop (mkF m 5 #[.val (.long q), .second, .val (.int (128 : Int32))] [(.long q)]))
  refine own_go (fun _ k => X0.ldc2Long hx hown (mvT hZ (own_at hw 71 rfl)) (g := (mkF m 5 #[.val (.long q), .second, .val (.int (128 : Int32))] [(.long q)])) rfl (hb hby own_d6_5) _ k) ?_
  show own_Fin p.tables e below G (s₁.setTop (mkF m 8 #[.val (.long q), .second, .val (.int (128 : Int32))] [(.long (-128 : Int64)), (.long q)]))
  refine own_go (fun _ k => Jvm.Free.XT.lcmp X0.here hx rfl (hb hby own_d6_8) rfl k) ?_
  show own_Fin p.tables e below G (s₁.setTop (mkF m 9 #[.val (.long q), .second, .val (.int (128 : Int32))] [(.int (Jvm.Free.XT.cmpL q (-128 : Int64)))]))
  by_cases hc9 : q < (-128 : Int64)
  · refine own_go (fun _ k => XS.ifYes X0.here hx rfl (pc0 := 9) (pc' := 31) rfl (hb hby own_d6_9) rfl (Jvm.Free.XT.ll_lt_t hc9) (by decide) (by decide) k) ?_
    show own_Fin p.tables e below G (s₁.setTop (mkF m 31 #[.val (.long q), .second, .val (.int (128 : Int32))] []))
    obtain ⟨T40, h40, X40, e40, E40, A40, D40, -, st40⟩ := newO X0 hx hZ hown (own_at hw 77 rfl) (own_at hw 78 rfl) (own_at hw 69 rfl) e0 (g := (mkF m 31 #[.val (.long q), .second, .val (.int (128 : Int32))] [])) rfl (hb hby own_d6_31) (by decide) (by decide)
    obtain ⟨b40, g40⟩ : ∃ z, z = h0.size := ⟨_, rfl⟩
    rw [← g40] at A40 D40 st40
    refine own_go st40 ?_
    have gn_b40 : n0 ≤ b40 := Nat.le_trans (own_size O0) (Nat.le_of_eq g40.symm)
    have gk_b40 : h0.size ≤ b40 := Nat.le_trans K0.1 (Nat.le_of_eq g40.symm)
    have O41 := O0.ext E40
    have K42 := K0.ext E40
    have F43 : Fld Z h40 b40 "java/lang/Long" "value" "J" (.long (0 : Int64)) := D40 (Or.inr (own_at hw 91 rfl)) (ty := .long) (by decide)
    show own_Fin p.tables e below G (T40.setTop (mkF m 34 #[.val (.long q), .second, .val (.int (128 : Int32))] [(.ref b40)]))
    refine own_go (fun _ k => XS.dup X40.here hx rfl (hb hby own_d6_34) rfl rfl k) ?_
    show own_Fin p.tables e below G (T40.setTop (mkF m 35 #[.val (.long q), .second, .val (.int (128 : Int32))] [(.ref b40), (.ref b40)]))
    refine own_go (fun _ k => XS.lloadN X40.here hx rfl (hb hby own_d6_35) rfl k) ?_
    show own_Fin p.tables e below G (T40.setTop (mkF m 36 #[.val (.long q), .second, .val (.int (128 : Int32))] [(.long q), (.ref b40), (.ref b40)]))
    obtain ⟨_, _, ⟨T44, L44, k44, n44⟩, -, X44, ⟨Lc44, hQ44, l44, y44, z44⟩, st44⟩ := X40.specialBack hx (y := (⟨"java/lang/Long", "<init>", "(J)V"⟩ : MethodName)) rfl hown (mvT hZ (own_at hw 79 rfl)) (mvT hZ (own_at hw 80 rfl)) (mvT hZ (own_at hw 82 rfl)) (by decide) (backOf (W := 1) (own_li l Z a0 hw [] b40 q h40 n0 O41 A40 F43 gn_b40) hZ (own_at hw 82 rfl) (own_at hw 69 rfl) (by decide) (by decide)) (g := (mkF m 36 #[.val (.long q), .second, .val (.int (128 : Int32))] [(.long q), (.ref b40), (.ref b40)])) rfl (by rw [hml]; rfl) (Steps.refl _) (a := b40) (argsL := [(.long q)]) (rest := [(.ref b40)]) (lenOf own_pd2 rfl) rfl (by show 2 * 0 + _ ≤ _; exact Nat.le_of_eq rfl) (hb hby own_d6_36) (fun _ _ => ⟨rfl, e40, (by decide : 1 + 0 ≤ _), (by decide : 1 + 0 ≤ _)⟩)
    dsimp only [Pt.U, Pt.locs, Pt.cells, Pt.slots] at X44 l44 y44 z44 st44 hQ44
    subst l44 y44 z44
    obtain ⟨rfl, N44q, K44, Ew44⟩ := hQ44
    have N44 := Fr.app N0 N44q
    have E45 := A40.keep K44
    have O46 := O41.keep K44 (allS gn_b40 all0)
    have K47 := K42.trans K44 (allS (Or.inr gk_b40) all0)
    refine own_go (fun _ k => st44.trans k) ?_
    show own_Fin p.tables e below G (T44.setTop (mkF m 39 #[.val (.long q), .second, .val (.int (128 : Int32))] [(.ref b40)]))
    subst hG
    exact own_rv X44 hx (t := (.object "java/lang/Long")) Bd.returns rfl (Or.inr (Or.inr (Or.inr (Or.inr ⟨rfl, rfl, rfl⟩)))) (hb hby own_d6_39) Bd.notSynchronized (by decide) (by decide) ⟨b40, rfl, N44, (by exact ⟨K47, E45⟩)⟩
  · refine own_go (fun _ k => XS.ifNo X0.here hx rfl (hb hby own_d6_9) rfl (Jvm.Free.XT.ll_lt_f hc9) k) ?_
    show own_Fin p.tables e below G (s₁.setTop (mkF m 12 #[.val (.long q), .second, .val (.int (128 : Int32))] []))
    refine own_go (fun _ k => XS.lloadN X0.here hx rfl (hb hby own_d6_12) rfl k) ?_
    show own_Fin p.tables e below G (s₁.setTop (mkF m 13 #[.val (.long q), .second, .val (.int (128 : Int32))] [(.long q)]))
    refine own_go (fun _ k => X0.ldc2Long hx hown (mvT hZ (own_at hw 72 rfl)) (g := (mkF m 13 #[.val (.long q), .second, .val (.int (128 : Int32))] [(.long q)])) rfl (hb hby own_d6_13) _ k) ?_
    show own_Fin p.tables e below G (s₁.setTop (mkF m 16 #[.val (.long q), .second, .val (.int (128 : Int32))] [(.long (127 : Int64)), (.long q)]))
    refine own_go (fun _ k => Jvm.Free.XT.lcmp X0.here hx rfl (hb hby own_d6_16) rfl k) ?_
    show own_Fin p.tables e below G (s₁.setTop (mkF m 17 #[.val (.long q), .second, .val (.int (128 : Int32))] [(.int (Jvm.Free.XT.cmpL q (127 : Int64)))]))
    by_cases hc17 : (127 : Int64) < q
    · refine own_go (fun _ k => XS.ifYes X0.here hx rfl (pc0 := 17) (pc' := 31) rfl (hb hby own_d6_17) rfl (Jvm.Free.XT.ll_gt_t hc17) (by decide) (by decide) k) ?_
      show own_Fin p.tables e below G (s₁.setTop (mkF m 31 #[.val (.long q), .second, .val (.int (128 : Int32))] []))
      obtain ⟨T48, h48, X48, e48, E48, A48, D48, -, st48⟩ := newO X0 hx hZ hown (own_at hw 77 rfl) (own_at hw 78 rfl) (own_at hw 69 rfl) e0 (g := (mkF m 31 #[.val (.long q), .second, .val (.int (128 : Int32))] [])) rfl (hb hby own_d6_31) (by decide) (by decide)
      obtain ⟨b48, g48⟩ : ∃ z, z = h0.size := ⟨_, rfl⟩
      rw [← g48] at A48 D48 st48
      refine own_go st48 ?_
      have gn_b48 : n0 ≤ b48 := Nat.le_trans (own_size O0) (Nat.le_of_eq g48.symm)
      have gk_b48 : h0.size ≤ b48 := Nat.le_trans K0.1 (Nat.le_of_eq g48.symm)
      have O49 := O0.ext E48
      have K50 := K0.ext E48
      have F51 : Fld Z h48 b48 "java/lang/Long" "value" "J" (.long (0 : Int64)) := D48 (Or.inr (own_at hw 91 rfl)) (ty := .long) (by decide)
      show own_Fin p.tables e below G (T48.setTop (mkF m 34 #[.val (.long q), .second, .val (.int (128 : Int32))] [(.ref b48)]))
      refine own_go (fun _ k => XS.dup X48.here hx rfl (hb hby own_d6_34) rfl rfl k) ?_
      show own_Fin p.tables e below G (T48.setTop (mkF m 35 #[.val (.long q), .second, .val (.int (128 : Int32))] [(.ref b48), (.ref b48)]))
      refine own_go (fun _ k => XS.lloadN X48.here hx rfl (hb hby own_d6_35) rfl k) ?_
      show own_Fin p.tables e below G (T48.setTop (mkF m 36 #[.val (.long q), .second, .val (.int (128 : Int32))] [(.long q), (.ref b48), (.ref b48)]))
      obtain ⟨_, _, ⟨T52, L52, k52, n52⟩, -, X52, ⟨Lc52, hQ52, l52, y52, z52⟩, st52⟩ := X48.specialBack hx (y := (⟨"java/lang/Long", "<init>", "(J)V"⟩ : MethodName)) rfl hown (mvT hZ (own_at hw 79 rfl)) (mvT hZ (own_at hw 80 rfl)) (mvT hZ (own_at hw 82 rfl)) (by decide) (backOf (W := 1) (own_li l Z a0 hw [] b48 q h48 n0 O49 A48 F51 gn_b48) hZ (own_at hw 82 rfl) (own_at hw 69 rfl) (by decide) (by decide)) (g := (mkF m 36 #[.val (.long q), .second, .val (.int (128 : Int32))] [(.long q), (.ref b48), (.ref b48)])) rfl (by rw [hml]; rfl) (Steps.refl _) (a := b48) (argsL := [(.long q)]) (rest := [(.ref b48)]) (lenOf own_pd2 rfl) rfl (by show 2 * 0 + _ ≤ _; exact Nat.le_of_eq rfl) (hb hby own_d6_36) (fun _ _ => ⟨rfl, e48, (by decide : 1 + 0 ≤ _), (by decide : 1 + 0 ≤ _)⟩)
      dsimp only [Pt.U, Pt.locs, Pt.cells, Pt.slots] at X52 l52 y52 z52 st52 hQ52
      subst l52 y52 z52
      obtain ⟨rfl, N52q, K52, Ew52⟩ := hQ52
      have N52 := Fr.app N0 N52q
      have E53 := A48.keep K52
      have O54 := O49.keep K52 (allS gn_b48 all0)
      have K55 := K50.trans K52 (allS (Or.inr gk_b48) all0)
      refine own_go (fun _ k => st52.trans k) ?_
      show own_Fin p.tables e below G (T52.setTop (mkF m 39 #[.val (.long q), .second, .val (.int (128 : Int32))] [(.ref b48)]))
      subst hG
      exact own_rv X52 hx (t := (.object "java/lang/Long")) Bd.returns rfl (Or.inr (Or.inr (Or.inr (Or.inr ⟨rfl, rfl, rfl⟩)))) (hb hby own_d6_39) Bd.notSynchronized (by decide) (by decide) ⟨b48, rfl, N52, (by exact ⟨K55, E53⟩)⟩
    · refine own_go (fun _ k => XS.ifNo X0.here hx rfl (hb hby own_d6_17) rfl (Jvm.Free.XT.ll_gt_f hc17) k) ?_
      show own_Fin p.tables e below G (s₁.setTop (mkF m 20 #[.val (.long q), .second, .val (.int (128 : Int32))] []))
      obtain ⟨T56, X56, e56, st56⟩ := getS2 X0 hx hZ hown (host := "") (Or.inl (own_at hw 73 rfl)) Via.refl e0 (SC.ext O0.2) (g := (mkF m 20 #[.val (.long q), .second, .val (.int (128 : Int32))] [])) rfl (hb hby own_d6_20)
      refine own_go st56 ?_
      show own_Fin p.tables e below G (T56.setTop (mkF m 23 #[.val (.long q), .second, .val (.int (128 : Int32))] [(.ref oc)]))
      refine own_go (fun _ k => XS.lloadN X56.here hx rfl (hb hby own_d6_23) rfl k) ?_
      show own_Fin p.tables e below G (T56.setTop (mkF m 24 #[.val (.long q), .second, .val (.int (128 : Int32))] [(.long q), (.ref oc)]))
      refine own_go (fun _ k => XS.l2i X56.here hx rfl (hb hby own_d6_24) rfl k) ?_
      show own_Fin p.tables e below G (T56.setTop (mkF m 25 #[.val (.long q), .second, .val (.int (128 : Int32))] [(.int (q.toInt32)), (.ref oc)]))
      refine own_go (fun _ k => XS.sipush X56.here hx rfl (hb hby own_d6_25)  k) ?_
      show own_Fin p.tables e below G (T56.setTop (mkF m 28 #[.val (.long q), .second, .val (.int (128 : Int32))] [(.int (128 : Int32)), (.int (q.toInt32)), (.ref oc)]))
      refine own_go (fun _ k => XS.iadd X56.here hx rfl (hb hby own_d6_28) rfl k) ?_
      show own_Fin p.tables e below G (T56.setTop (mkF m 29 #[.val (.long q), .second, .val (.int (128 : Int32))] [(.int ((q.toInt32) + (128 : Int32))), (.ref oc)]))
      obtain ⟨Ac, Sc, zc⟩ := BX.ext O0.2
      have hin := own_inb q cc Sc hc9 hc17
      obtain ⟨bx, hat, Eb, -⟩ := BX.2.2.2 _ hin
      refine own_go (fun _ k => X56.aaload hx (j := ((q.toInt32) + (128 : Int32))) (v := (.ref bx)) (by rw [e56]; exact Ac.1) (State.isArrayOf_alike hZ.alike Ac.2.1) rfl Ac.2.2 hin hat (g := (mkF m 29 #[.val (.long q), .second, .val (.int (128 : Int32))] [(.int ((q.toInt32) + (128 : Int32))), (.ref oc)])) rfl rfl (hb hby own_d6_29) _ k) ?_
      show own_Fin p.tables e below G (T56.setTop (mkF m 30 #[.val (.long q), .second, .val (.int (128 : Int32))] [(.ref bx)]))
      subst hG
      exact own_rv X56 hx (t := (.object "java/lang/Long")) Bd.returns rfl (Or.inr (Or.inr (Or.inr (Or.inr ⟨rfl, rfl, rfl⟩)))) (hb hby own_d6_30) Bd.notSynchronized (by decide) (by decide) ⟨bx, rfl, N0, (by rw [e56]; exact ⟨K0, Eb.ext O0.2⟩)⟩
theorem own_ef_own_ce (m : MethodId) (p1 : Int32)  : entryFrame m #[(.int p1)] 1 = (mkF m 0 #[.val (.int p1)] []) := by first | (simp [entryFrame, mkF, argsToLocals, Value.category]; done) | rfl
theorem own_pn5 : plainName "java/lang/StringLatin1" = true := by first | (simp [plainName, overriddenIn]; done) | decide +kernel
theorem own_d7_0 : decode jdk_43_method_3_code 0 = .ok (.iload_n 0, 1) := by decide +kernel
theorem own_d7_1 : decode jdk_43_method_3_code 1 = .ok (.sipush 255, 3) := by decide +kernel
theorem own_d7_4 : decode jdk_43_method_3_code 4 = .ok (.if_icmp .gt 7, 3) := by decide +kernel
theorem own_d7_7 : decode jdk_43_method_3_code 7 = .ok (.iconst 1, 1) := by decide +kernel
theorem own_d7_8 : decode jdk_43_method_3_code 8 = .ok (.goto 4, 3) := by decide +kernel
theorem own_d7_12 : decode jdk_43_method_3_code 12 = .ok (.ireturn, 1) := by decide +kernel
def own_Q_own_ce (Z : State) (p1 : Int32) (h0 : Heap) (n0 : Nat) (v : Option Value) (h : Heap) (L : List Loc) : Prop := v = some (.int (1 : Int32)) ∧ Fr n0 L ∧ h = h0
set_option maxRecDepth 65536 in
set_option maxHeartbeats 40000000 in
theorem own_ce (l : Launch) (Z : State) (a0 : Array Value) (hw : ∀ d ∈ tables_1, d.before a0 Z = true) (ws : List Jvm.Cond) (p1 : Int32) (h0 : Heap) (n0 : Nat) (O0 : Old Z n0 h0) (hc : ¬ ((255 : Int32) < p1)) :
    MetFree l (⟨"java/lang/StringLatin1", "canEncode", "(C)Z"⟩ : MethodName) (head1 (Jvm.Cond.code (⟨"java/lang/StringLatin1", "canEncode", "(C)Z"⟩ : MethodName) jdk_43_method_3_code 1 (some .boolean) :: ws) ({ frames := 0, cells := 0, slots := 0, locals := 0 } : Room)) (fun as' U => as' = #[(.int p1)] ∧ Z.Warmed39 U.vm ∧ U.heap = h0) (fun _ _ _ _ _ => True) (fun _ U o U' => ∃ v L, o = .returned v ∧ own_Q_own_ce Z p1 h0 n0 v U'.heap L ∧ FrameEnd U o U' L ({ frames := 0, cells := 0, slots := 0, locals := 0 } : Room).cells ({ frames := 0, cells := 0, slots := 0, locals := 0 } : Room).slots) := by
  refine MetFree.of_bodySF (plainFor_of_name own_pn5) hisR ?_
  intro p e s m args below meth c s₁ Bd hml0 hP hK
  obtain ⟨rfl, hZ, hh⟩ := hP
  have hx := Bd.exec
  have hby := Bd.bytes
  have hml : c.maxLocals = 1 := hml0
  have hown : s.vm.findClass "java/lang/StringLatin1" = some m.cls := findClass_of_methodNamed Bd.named
  have hnm := (name_of_methodNamed Bd.named Bd.method).1
  have X0 : Stand p l e ({ frames := 0, cells := 0, slots := 0, locals := 0 } : Room) s m #[(.int p1)] below meth c s₁ [] 0 0 := Stand.of_body Bd
  have e0 : s₁.heap = h0 := by rw [← hh, Bd.state]; rfl
  have N0 := Fr.nil n0
  show own_Fin p.tables e below (fun s₂ o => ∃ v L, o = .returned v ∧ own_Q_own_ce Z p1 h0 n0 v s₂.heap L ∧ FrameEnd s o s₂ L ({ frames := 0, cells := 0, slots := 0, locals := 0 } : Room).cells ({ frames := 0, cells := 0, slots := 0, locals := 0 } : Room).slots) _
  generalize hG : (fun (s₂ : State) (o : Outcome) => ∃ v L, o = Outcome.returned v ∧ own_Q_own_ce Z p1 h0 n0 v s₂.heap L ∧ FrameEnd s o s₂ L ({ frames := 0, cells := 0, slots := 0, locals := 0 } : Room).cells ({ frames := 0, cells := 0, slots := 0, locals := 0 } : Room).slots) = G
  refine own_go (fun _ k => castTop (own_ef_own_ce m p1) k) ?_
  show own_Fin p.tables e below G (s₁.setTop (mkF m 0 #[.val (.int p1)] []))
  refine own_go (fun _ k => XS.iloadN X0.here hx rfl (hb hby own_d7_0) rfl k) ?_
  show own_Fin p.tables e below G (s₁.setTop (mkF m 1 #[.val (.int p1)] [(.int p1)]))
  refine own_go (fun _ k => XS.sipush X0.here hx rfl (hb hby own_d7_1)  k) ?_
  show own_Fin p.tables e below G (s₁.setTop (mkF m 4 #[.val (.int p1)] [(.int (255 : Int32)), (.int p1)]))
  refine own_go (fun _ k => XS.icmpNo X0.here hx rfl (hb hby own_d7_4) rfl (Jvm.Free.XT.ii_gt_f hc) k) ?_
  show own_Fin p.tables e below G (s₁.setTop (mkF m 7 #[.val (.int p1)] []))
  refine own_go (fun _ k => XS.iconst X0.here hx rfl (hb hby own_d7_7)  k) ?_
  show own_Fin p.tables e below G (s₁.setTop (mkF m 8 #[.val (.int p1)] [(.int (1 : Int32))]))
  refine own_go (fun _ k => XS.goto X0.here hx rfl (pc0 := 8) (pc' := 12) rfl (hb hby own_d7_8) (by decide) (by decide) k) ?_
  show own_Fin p.tables e below G (s₁.setTop (mkF m 12 #[.val (.int p1)] [(.int (1 : Int32))]))
  subst hG
  exact own_rv X0 hx (t := .boolean) Bd.returns rfl (Or.inl ⟨rfl, Or.inr (Or.inl rfl), _, rfl⟩) (hb hby own_d7_12) Bd.notSynchronized (by decide) (by decide) ⟨rfl, N0, e0⟩
theorem own_ef_own_tb (m : MethodId) (p1 : Int32)  : entryFrame m #[(.int p1)] 1 = (mkF m 0 #[.val (.int p1)] []) := by first | (simp [entryFrame, mkF, argsToLocals, Value.category]; done) | rfl
theorem own_d8_0 : decode jdk_43_method_46_code 0 = .ok (.iconst 1, 1) := by decide +kernel
theorem own_d8_1 : decode jdk_43_method_46_code 1 = .ok (.newarray .byte, 2) := by decide +kernel
theorem own_d8_3 : decode jdk_43_method_46_code 3 = .ok (.dup, 1) := by decide +kernel
theorem own_d8_4 : decode jdk_43_method_46_code 4 = .ok (.iconst 0, 1) := by decide +kernel
theorem own_d8_5 : decode jdk_43_method_46_code 5 = .ok (.iload_n 0, 1) := by decide +kernel
theorem own_d8_6 : decode jdk_43_method_46_code 6 = .ok (.i2b, 1) := by decide +kernel
theorem own_d8_7 : decode jdk_43_method_46_code 7 = .ok (.bastore, 1) := by decide +kernel
theorem own_d8_8 : decode jdk_43_method_46_code 8 = .ok (.areturn, 1) := by decide +kernel
def own_Q_own_tb (Z : State) (p1 : Int32) (h0 : Heap) (n0 : Nat) (v : Option Value) (h : Heap) (L : List Loc) : Prop := ∃ b : Addr, v = some (.ref b) ∧ Fr n0 L ∧ (fun h => Keep h0 h []) h
set_option maxRecDepth 65536 in
set_option maxHeartbeats 40000000 in
theorem own_tb (l : Launch) (Z : State) (a0 : Array Value) (hw : ∀ d ∈ tables_1, d.before a0 Z = true) (ws : List Jvm.Cond) (p1 : Int32) (h0 : Heap) (n0 : Nat) (O0 : Old Z n0 h0) :
    MetFree l (⟨"java/lang/StringLatin1", "toBytes", "(C)[B"⟩ : MethodName) (head1 (Jvm.Cond.code (⟨"java/lang/StringLatin1", "toBytes", "(C)[B"⟩ : MethodName) jdk_43_method_46_code 1 (some (.array .byte)) :: ws) ({ frames := 0, cells := 1, slots := 1, locals := 0 } : Room)) (fun as' U => as' = #[(.int p1)] ∧ Z.Warmed39 U.vm ∧ U.heap = h0) (fun _ _ _ _ _ => True) (fun _ U o U' => ∃ v L, o = .returned v ∧ own_Q_own_tb Z p1 h0 n0 v U'.heap L ∧ FrameEnd U o U' L ({ frames := 0, cells := 1, slots := 1, locals := 0 } : Room).cells ({ frames := 0, cells := 1, slots := 1, locals := 0 } : Room).slots) := by
  refine MetFree.of_bodySF (plainFor_of_name own_pn5) hisR ?_
  intro p e s m args below meth c s₁ Bd hml0 hP hK
  obtain ⟨rfl, hZ, hh⟩ := hP
  have hx := Bd.exec
  have hby := Bd.bytes
  have hml : c.maxLocals = 1 := hml0
  have hown : s.vm.findClass "java/lang/StringLatin1" = some m.cls := findClass_of_methodNamed Bd.named
  have hnm := (name_of_methodNamed Bd.named Bd.method).1
  have X0 : Stand p l e ({ frames := 0, cells := 1, slots := 1, locals := 0 } : Room) s m #[(.int p1)] below meth c s₁ [] 0 0 := Stand.of_body Bd
  have e0 : s₁.heap = h0 := by rw [← hh, Bd.state]; rfl
  have N0 := Fr.nil n0
  show own_Fin p.tables e below (fun s₂ o => ∃ v L, o = .returned v ∧ own_Q_own_tb Z p1 h0 n0 v s₂.heap L ∧ FrameEnd s o s₂ L ({ frames := 0, cells := 1, slots := 1, locals := 0 } : Room).cells ({ frames := 0, cells := 1, slots := 1, locals := 0 } : Room).slots) _
  generalize hG : (fun (s₂ : State) (o : Outcome) => ∃ v L, o = Outcome.returned v ∧ own_Q_own_tb Z p1 h0 n0 v s₂.heap L ∧ FrameEnd s o s₂ L ({ frames := 0, cells := 1, slots := 1, locals := 0 } : Room).cells ({ frames := 0, cells := 1, slots := 1, locals := 0 } : Room).slots) = G
  have K0 := Keep.refl h0 []
  refine own_go (fun _ k => castTop (own_ef_own_tb m p1) k) ?_
  show own_Fin p.tables e below G (s₁.setTop (mkF m 0 #[.val (.int p1)] []))
  refine own_go (fun _ k => XS.iconst X0.here hx rfl (hb hby own_d8_0)  k) ?_
  show own_Fin p.tables e below G (s₁.setTop (mkF m 1 #[.val (.int p1)] [(.int (1 : Int32))]))
  obtain ⟨T57, h57, k57, X57, e57, E57, A57, st57⟩ := newP X0 hx hZ (own_at hw 20 rfl) e0 (g := (mkF m 1 #[.val (.int p1)] [(.int (1 : Int32))])) rfl (hb hby own_d8_1) rfl (by decide) (cap := 1) (by decide) (by decide) (by decide) (by decide)
  obtain ⟨b57, g57⟩ : ∃ z, z = h0.size := ⟨_, rfl⟩
  rw [← g57] at A57 st57
  refine own_go st57 ?_
  have gn_b57 : n0 ≤ b57 := Nat.le_trans (own_size O0) (Nat.le_of_eq g57.symm)
  have gk_b57 : h0.size ≤ b57 := Nat.le_trans K0.1 (Nat.le_of_eq g57.symm)
  have V_b57 := Arv.new A57 (by decide)
  have O58 := O0.ext E57
  have K59 := K0.ext E57
  show own_Fin p.tables e below G (T57.setTop (mkF m 3 #[.val (.int p1)] [(.ref b57)]))
  refine own_go (fun _ k => XS.dup X57.here hx rfl (hb hby own_d8_3) rfl rfl k) ?_
  show own_Fin p.tables e below G (T57.setTop (mkF m 4 #[.val (.int p1)] [(.ref b57), (.ref b57)]))
  refine own_go (fun _ k => XS.iconst X57.here hx rfl (hb hby own_d8_4)  k) ?_
  show own_Fin p.tables e below G (T57.setTop (mkF m 5 #[.val (.int p1)] [(.int (0 : Int32)), (.ref b57), (.ref b57)]))
  refine own_go (fun _ k => XS.iloadN X57.here hx rfl (hb hby own_d8_5) rfl k) ?_
  show own_Fin p.tables e below G (T57.setTop (mkF m 6 #[.val (.int p1)] [(.int p1), (.int (0 : Int32)), (.ref b57), (.ref b57)]))
  refine own_go (fun _ k => XS.i2b X57.here hx rfl (hb hby own_d8_6) rfl k) ?_
  show own_Fin p.tables e below G (T57.setTop (mkF m 7 #[.val (.int p1)] [(.int (p1.toInt8.toInt32)), (.int (0 : Int32)), (.ref b57), (.ref b57)]))
  obtain ⟨T60, h60, X60, e60, W60, st60⟩ := stB X57 hx hZ e57 A57 (j := (0 : Int32)) (own_in1 _) (g := (mkF m 7 #[.val (.int p1)] [(.int (p1.toInt8.toInt32)), (.int (0 : Int32)), (.ref b57), (.ref b57)])) rfl rfl (hb hby own_d8_7)
  refine own_go st60 ?_
  have N60 := Fr.snoc X60 N0 gn_b57
  have K60 := K59.wr W60 (Or.inr gk_b57)
  show own_Fin p.tables e below G (T60.setTop (mkF m 8 #[.val (.int p1)] [(.ref b57)]))
  subst hG
  exact own_rv X60 hx (t := (.array .byte)) Bd.returns rfl (Or.inr (Or.inr (Or.inr (Or.inr ⟨rfl, rfl, rfl⟩)))) (hb hby own_d8_8) Bd.notSynchronized (by decide) (by decide) ⟨b57, rfl, N60, (by rw [e60]; exact K60)⟩
theorem own_ef_own_si (m : MethodId) (a : Addr) (b : Addr)  : entryFrame m #[(.ref a), (.ref b), (.int (0 : Int32))] 3 = (mkF m 0 #[.val (.ref a), .val (.ref b), .val (.int (0 : Int32))] []) := by first | (simp [entryFrame, mkF, argsToLocals, Value.category]; done) | rfl
theorem own_pn6 : plainName "java/lang/String" = true := by first | (simp [plainName, overriddenIn]; done) | decide +kernel
theorem own_d9_0 : decode jdk_42_method_151_code 0 = .ok (.aload_n 0, 1) := by decide +kernel
theorem own_d9_1 : decode jdk_42_method_151_code 1 = .ok (.invokespecial 1, 3) := by decide +kernel
theorem own_d9_4 : decode jdk_42_method_151_code 4 = .ok (.aload_n 0, 1) := by decide +kernel
theorem own_d9_5 : decode jdk_42_method_151_code 5 = .ok (.aload_n 1, 1) := by decide +kernel
theorem own_d9_6 : decode jdk_42_method_151_code 6 = .ok (.putfield 9, 3) := by decide +kernel
theorem own_d9_9 : decode jdk_42_method_151_code 9 = .ok (.aload_n 0, 1) := by decide +kernel
theorem own_d9_10 : decode jdk_42_method_151_code 10 = .ok (.iload_n 2, 1) := by decide +kernel
theorem own_d9_11 : decode jdk_42_method_151_code 11 = .ok (.putfield 15, 3) := by decide +kernel
theorem own_d9_14 : decode jdk_42_method_151_code 14 = .ok (.return_, 1) := by decide +kernel
def own_Q_own_si (Z : State) (a : Addr) (b : Addr) (h0 : Heap) (n0 : Nat) (v : Option Value) (h : Heap) (L : List Loc) : Prop := v = none ∧ Fr n0 L ∧ (fun h => Keep h0 h [a] ∧ Exa Z h a "java/lang/String") h
set_option maxRecDepth 65536 in
set_option maxHeartbeats 40000000 in
theorem own_si (l : Launch) (Z : State) (a0 : Array Value) (hw : ∀ d ∈ tables_1, d.before a0 Z = true) (ws : List Jvm.Cond) (a : Addr) (b : Addr) (h0 : Heap) (n0 : Nat) (O0 : Old Z n0 h0) (Ea : Exa Z h0 a "java/lang/String") (Fv : Fld Z h0 a "java/lang/String" "value" "[B" .null) (Fc : Fld Z h0 a "java/lang/String" "coder" "B" (.int (0 : Int32))) (ga : n0 ≤ a) :
    MetFree l (⟨"java/lang/String", "<init>", "([BB)V"⟩ : MethodName) (head1 (Jvm.Cond.code (⟨"java/lang/String", "<init>", "([BB)V"⟩ : MethodName) jdk_42_method_151_code 3 none :: ws) ({ frames := 1, cells := 0, slots := 0, locals := 12 } : Room)) (fun as' U => as' = #[(.ref a), (.ref b), (.int (0 : Int32))] ∧ Z.Warmed39 U.vm ∧ U.heap = h0) (fun _ _ _ _ _ => True) (fun _ U o U' => ∃ v L, o = .returned v ∧ own_Q_own_si Z a b h0 n0 v U'.heap L ∧ FrameEnd U o U' L ({ frames := 1, cells := 0, slots := 0, locals := 12 } : Room).cells ({ frames := 1, cells := 0, slots := 0, locals := 12 } : Room).slots) := by
  refine MetFree.of_bodySF (plainFor_of_name own_pn6) hisR ?_
  intro p e s m args below meth c s₁ Bd hml0 hP hK
  obtain ⟨rfl, hZ, hh⟩ := hP
  have hx := Bd.exec
  have hby := Bd.bytes
  have hml : c.maxLocals = 3 := hml0
  have hown : s.vm.findClass "java/lang/String" = some m.cls := findClass_of_methodNamed Bd.named
  have hnm := (name_of_methodNamed Bd.named Bd.method).1
  have X0 : Stand p l e ({ frames := 1, cells := 0, slots := 0, locals := 12 } : Room) s m #[(.ref a), (.ref b), (.int (0 : Int32))] below meth c s₁ [] 0 0 := Stand.of_body Bd
  have e0 : s₁.heap = h0 := by rw [← hh, Bd.state]; rfl
  have N0 := Fr.nil n0
  show own_Fin p.tables e below (fun s₂ o => ∃ v L, o = .returned v ∧ own_Q_own_si Z a b h0 n0 v s₂.heap L ∧ FrameEnd s o s₂ L ({ frames := 1, cells := 0, slots := 0, locals := 12 } : Room).cells ({ frames := 1, cells := 0, slots := 0, locals := 12 } : Room).slots) _
  generalize hG : (fun (s₂ : State) (o : Outcome) => ∃ v L, o = Outcome.returned v ∧ own_Q_own_si Z a b h0 n0 v s₂.heap L ∧ FrameEnd s o s₂ L ({ frames := 1, cells := 0, slots := 0, locals := 12 } : Room).cells ({ frames := 1, cells := 0, slots := 0, locals := 12 } : Room).slots) = G
  have K0 := Keep.refl h0 [a]
  refine own_go (fun _ k => castTop (own_ef_own_si m a b) k) ?_
  show own_Fin p.tables e below G (s₁.setTop (mkF m 0 #[.val (.ref a), .val (.ref b), .val (.int (0 : Int32))] []))
  refine own_go (fun _ k => XS.aloadN X0.here hx rfl (hb hby own_d9_0) rfl rfl k) ?_
  show own_Fin p.tables e below G (s₁.setTop (mkF m 1 #[.val (.ref a), .val (.ref b), .val (.int (0 : Int32))] [(.ref a)]))
  obtain ⟨T61, X61, e61, st61⟩ := initO X0 hx hZ hown (own_at hw 60 rfl) (own_at hw 15 rfl) (own_at hw 16 rfl) e0 (g := (mkF m 1 #[.val (.ref a), .val (.ref b), .val (.int (0 : Int32))] [(.ref a)])) rfl (by rw [hml]; rfl) rfl (hb hby own_d9_1) (by decide) (W := 0) (by show 2 * 0 + _ ≤ _; exact Nat.le_of_eq rfl) (by decide)
  refine own_go st61 ?_
  show own_Fin p.tables e below G (T61.setTop (mkF m 4 #[.val (.ref a), .val (.ref b), .val (.int (0 : Int32))] []))
  refine own_go (fun _ k => XS.aloadN X61.here hx rfl (hb hby own_d9_4) rfl rfl k) ?_
  show own_Fin p.tables e below G (T61.setTop (mkF m 5 #[.val (.ref a), .val (.ref b), .val (.int (0 : Int32))] [(.ref a)]))
  refine own_go (fun _ k => XS.aloadN X61.here hx rfl (hb hby own_d9_5) rfl rfl k) ?_
  show own_Fin p.tables e below G (T61.setTop (mkF m 6 #[.val (.ref a), .val (.ref b), .val (.int (0 : Int32))] [(.ref b), (.ref a)]))
  obtain ⟨T62, h62, X62, e62, W62, st62⟩ := putF X61 hx hZ hown (host := "") (Or.inl (own_at hw 61 rfl)) Via.refl e61 Fv Ea (Or.inr ⟨(own_at hw 21 rfl), rfl, hnm⟩) (own_at hw 19 rfl) (ty := (.array .byte)) (by decide) rfl rfl (g := (mkF m 6 #[.val (.ref a), .val (.ref b), .val (.int (0 : Int32))] [(.ref b), (.ref a)])) rfl rfl (hb hby own_d9_6)
  refine own_go st62 ?_
  have Fw62 := Fv.same W62
  have F63 := Fc.other W62 (Or.inr (slot_ne (Or.inr (own_at hw 22 rfl)) (Or.inr (own_at hw 21 rfl)) (by decide) (t := .byte) (t' := (.array .byte)) (by decide) (by decide)))
  have E64 := Ea.wr W62
  have O65 := O0.wr W62 ga
  have K66 := K0.wr W62 (Or.inl (List.mem_of_getElem? (i := 0) rfl))
  have N62 := Fr.snoc X62 N0 ga
  show own_Fin p.tables e below G (T62.setTop (mkF m 9 #[.val (.ref a), .val (.ref b), .val (.int (0 : Int32))] []))
  refine own_go (fun _ k => XS.aloadN X62.here hx rfl (hb hby own_d9_9) rfl rfl k) ?_
  show own_Fin p.tables e below G (T62.setTop (mkF m 10 #[.val (.ref a), .val (.ref b), .val (.int (0 : Int32))] [(.ref a)]))
  refine own_go (fun _ k => XS.iloadN X62.here hx rfl (hb hby own_d9_10) rfl k) ?_
  show own_Fin p.tables e below G (T62.setTop (mkF m 11 #[.val (.ref a), .val (.ref b), .val (.int (0 : Int32))] [(.int (0 : Int32)), (.ref a)]))
  obtain ⟨T67, h67, X67, e67, W67, st67⟩ := putF X62 hx hZ hown (host := "") (Or.inl (own_at hw 62 rfl)) Via.refl e62 F63 E64 (Or.inr ⟨(own_at hw 22 rfl), rfl, hnm⟩) (own_at hw 19 rfl) (ty := .byte) (by decide) rfl rfl (g := (mkF m 11 #[.val (.ref a), .val (.ref b), .val (.int (0 : Int32))] [(.int (0 : Int32)), (.ref a)])) rfl rfl (hb hby own_d9_11)
  refine own_go st67 ?_
  have Fw67 := F63.same W67
  have F68 := Fw62.other W67 (Or.inr (slot_ne (Or.inr (own_at hw 21 rfl)) (Or.inr (own_at hw 22 rfl)) (by decide) (t := (.array .byte)) (t' := .byte) (by decide) (by decide)))
  have E69 := E64.wr W67
  have O70 := O65.wr W67 ga
  have K71 := K66.wr W67 (Or.inl (List.mem_of_getElem? (i := 0) rfl))
  have N67 := Fr.snoc X67 N62 ga
  show own_Fin p.tables e below G (T67.setTop (mkF m 14 #[.val (.ref a), .val (.ref b), .val (.int (0 : Int32))] []))
  subst hG
  exact own_r0 X67 hx Bd.returns (hb hby own_d9_14) Bd.notSynchronized (by decide) (by decide) ⟨rfl, N67, (by rw [e67]; exact ⟨K71, E69⟩)⟩
theorem own_ef_own_vo (m : MethodId) (p1 : Int32)  : entryFrame m #[(.int p1)] 1 = (mkF m 0 #[.val (.int p1)] []) := by first | (simp [entryFrame, mkF, argsToLocals, Value.category]; done) | rfl
theorem own_d10_0 : decode jdk_42_method_139_code 0 = .ok (.getstatic 38, 3) := by decide +kernel
theorem own_d10_3 : decode jdk_42_method_139_code 3 = .ok (.ifCond .eq 23, 3) := by decide +kernel
theorem own_d10_6 : decode jdk_42_method_139_code 6 = .ok (.iload_n 0, 1) := by decide +kernel
theorem own_pd3 : parseMethodDescriptor "(C)Z" = some ⟨[.char], some .boolean⟩ := by decide +kernel
theorem own_d10_7 : decode jdk_42_method_139_code 7 = .ok (.invokestatic 1015, 3) := by decide +kernel
theorem own_d10_10 : decode jdk_42_method_139_code 10 = .ok (.ifCond .eq 16, 3) := by decide +kernel
theorem own_d10_13 : decode jdk_42_method_139_code 13 = .ok (.new 10, 3) := by decide +kernel
theorem own_d10_16 : decode jdk_42_method_139_code 16 = .ok (.dup, 1) := by decide +kernel
theorem own_d10_17 : decode jdk_42_method_139_code 17 = .ok (.iload_n 0, 1) := by decide +kernel
theorem own_pd4 : parseMethodDescriptor "(C)[B" = some ⟨[.char], some (.array .byte)⟩ := by decide +kernel
theorem own_d10_18 : decode jdk_42_method_139_code 18 = .ok (.invokestatic 1018, 3) := by decide +kernel
theorem own_d10_21 : decode jdk_42_method_139_code 21 = .ok (.iconst 0, 1) := by decide +kernel
theorem own_pd5 : parseMethodDescriptor "([BB)V" = some ⟨[(.array .byte), .byte], none⟩ := by decide +kernel
theorem own_d10_22 : decode jdk_42_method_139_code 22 = .ok (.invokespecial 209, 3) := by decide +kernel
theorem own_d10_25 : decode jdk_42_method_139_code 25 = .ok (.areturn, 1) := by decide +kernel
def own_Q_own_vo (Z : State) (p1 : Int32) (cs : Int32) (h0 : Heap) (n0 : Nat) (v : Option Value) (h : Heap) (L : List Loc) : Prop := ∃ b : Addr, v = some (.ref b) ∧ Fr n0 L ∧ (fun h => Keep h0 h [] ∧ Exa Z h b "java/lang/String") h
set_option maxRecDepth 65536 in
set_option maxHeartbeats 40000000 in
theorem own_vo (l : Launch) (Z : State) (a0 : Array Value) (hw : ∀ d ∈ tables_1, d.before a0 Z = true) (ws : List Jvm.Cond) (p1 : Int32) (cs : Int32) (h0 : Heap) (n0 : Nat) (O0 : Old Z n0 h0) (SCS : Sta Z Z.heap "java/lang/String" "COMPACT_STRINGS" "Z" (.int cs)) (hcs : ¬ (cs = 0)) (hc : ¬ ((255 : Int32) < p1)) :
    MetFree l (⟨"java/lang/String", "valueOf", "(C)Ljava/lang/String;"⟩ : MethodName) (head1 (Jvm.Cond.code (⟨"java/lang/String", "valueOf", "(C)Ljava/lang/String;"⟩ : MethodName) jdk_42_method_139_code 1 (some (.object "java/lang/String")) :: ws) ({ frames := 2, cells := 2, slots := 5, locals := 40 } : Room)) (fun as' U => as' = #[(.int p1)] ∧ Z.Warmed39 U.vm ∧ U.heap = h0) (fun _ _ _ _ _ => True) (fun _ U o U' => ∃ v L, o = .returned v ∧ own_Q_own_vo Z p1 cs h0 n0 v U'.heap L ∧ FrameEnd U o U' L ({ frames := 2, cells := 2, slots := 5, locals := 40 } : Room).cells ({ frames := 2, cells := 2, slots := 5, locals := 40 } : Room).slots) := by
  refine MetFree.of_bodySF (plainFor_of_name own_pn6) hisR ?_
  intro p e s m args below meth c s₁ Bd hml0 hP hK
  obtain ⟨rfl, hZ, hh⟩ := hP
  have hx := Bd.exec
  have hby := Bd.bytes
  have hml : c.maxLocals = 1 := hml0
  have hown : s.vm.findClass "java/lang/String" = some m.cls := findClass_of_methodNamed Bd.named
  have hnm := (name_of_methodNamed Bd.named Bd.method).1
  have X0 : Stand p l e ({ frames := 2, cells := 2, slots := 5, locals := 40 } : Room) s m #[(.int p1)] below meth c s₁ [] 0 0 := Stand.of_body Bd
  have e0 : s₁.heap = h0 := by rw [← hh, Bd.state]; rfl
  have N0 := Fr.nil n0
  show own_Fin p.tables e below (fun s₂ o => ∃ v L, o = .returned v ∧ own_Q_own_vo Z p1 cs h0 n0 v s₂.heap L ∧ FrameEnd s o s₂ L ({ frames := 2, cells := 2, slots := 5, locals := 40 } : Room).cells ({ frames := 2, cells := 2, slots := 5, locals := 40 } : Room).slots) _
  generalize hG : (fun (s₂ : State) (o : Outcome) => ∃ v L, o = Outcome.returned v ∧ own_Q_own_vo Z p1 cs h0 n0 v s₂.heap L ∧ FrameEnd s o s₂ L ({ frames := 2, cells := 2, slots := 5, locals := 40 } : Room).cells ({ frames := 2, cells := 2, slots := 5, locals := 40 } : Room).slots) = G
  have K0 := Keep.refl h0 []
  refine own_go (fun _ k => castTop (own_ef_own_vo m p1) k) ?_
  show own_Fin p.tables e below G (s₁.setTop (mkF m 0 #[.val (.int p1)] []))
  obtain ⟨T72, X72, e72, st72⟩ := getS2 X0 hx hZ hown (host := "") (Or.inl (own_at hw 47 rfl)) Via.refl e0 (SCS.ext O0.2) (g := (mkF m 0 #[.val (.int p1)] [])) rfl (hb hby own_d10_0)
  refine own_go st72 ?_
  show own_Fin p.tables e below G (T72.setTop (mkF m 3 #[.val (.int p1)] [(.int cs)]))
  refine own_go (fun _ k => XS.ifNo X72.here hx rfl (hb hby own_d10_3) rfl (Jvm.Free.XT.i0_eq_f hcs) k) ?_
  show own_Fin p.tables e below G (T72.setTop (mkF m 6 #[.val (.int p1)] []))
  refine own_go (fun _ k => XS.iloadN X72.here hx rfl (hb hby own_d10_6) rfl k) ?_
  show own_Fin p.tables e below G (T72.setTop (mkF m 7 #[.val (.int p1)] [(.int p1)]))
  obtain ⟨_, _, ⟨T73, L73, k73, n73⟩, -, X73, ⟨Lc73, hQ73, l73, y73, z73⟩, st73⟩ := Jvm.LawKit.callS X72 hx (y := (⟨"java/lang/StringLatin1", "canEncode", "(C)Z"⟩ : MethodName)) hown (mvT hZ (own_at hw 48 rfl)) (mvT hZ (own_at hw 49 rfl)) (mvT hZ (own_at hw 50 rfl)) (mvT hZ (own_at hw 51 rfl)) (by decide) (backOf (W := 0) (own_ce l Z a0 hw [] p1 h0 n0 O0 hc) hZ (own_at hw 51 rfl) (own_at hw 50 rfl) (by decide) (by decide)) (g := (mkF m 7 #[.val (.int p1)] [(.int p1)])) rfl (by rw [hml]; rfl) (argsL := [(.int p1)]) (rest := []) (lenOf own_pd3 rfl) rfl (by show 2 * 0 + _ ≤ _; exact Nat.le_of_eq rfl) (hb hby own_d10_7) (fun _ _ => ⟨rfl, e72, (by decide : 0 + 0 ≤ _), (by decide : 0 + 0 ≤ _)⟩)
  dsimp only [Pt.U, Pt.locs, Pt.cells, Pt.slots] at X73 l73 y73 z73 st73 hQ73
  subst l73 y73 z73
  obtain ⟨rfl, N73q, e73⟩ := hQ73
  have N73 := Fr.app N0 N73q
  refine own_go st73 ?_
  show own_Fin p.tables e below G (T73.setTop (mkF m 10 #[.val (.int p1)] [(.int (1 : Int32))]))
  refine own_go (fun _ k => XS.ifNo X73.here hx rfl (hb hby own_d10_10) rfl (Jvm.Free.XT.i0_eq_f (by decide)) k) ?_
  show own_Fin p.tables e below G (T73.setTop (mkF m 13 #[.val (.int p1)] []))
  obtain ⟨T74, h74, X74, e74, E74, A74, D74, -, st74⟩ := newO X73 hx hZ hown (own_at hw 52 rfl) (own_at hw 19 rfl) (own_at hw 18 rfl) e73 (g := (mkF m 13 #[.val (.int p1)] [])) rfl (hb hby own_d10_13) (by decide) (by decide)
  obtain ⟨b74, g74⟩ : ∃ z, z = h0.size := ⟨_, rfl⟩
  rw [← g74] at A74 D74 st74
  refine own_go st74 ?_
  have gn_b74 : n0 ≤ b74 := Nat.le_trans (own_size O0) (Nat.le_of_eq g74.symm)
  have gk_b74 : h0.size ≤ b74 := Nat.le_trans K0.1 (Nat.le_of_eq g74.symm)
  have O75 := O0.ext E74
  have K76 := K0.ext E74
  have F77 : Fld Z h74 b74 "java/lang/String" "value" "[B" .null := D74 (Or.inr (own_at hw 21 rfl)) (ty := (.array .byte)) (by decide)
  have F78 : Fld Z h74 b74 "java/lang/String" "coder" "B" (.int (0 : Int32)) := D74 (Or.inr (own_at hw 22 rfl)) (ty := .byte) (by decide)
  show own_Fin p.tables e below G (T74.setTop (mkF m 16 #[.val (.int p1)] [(.ref b74)]))
  refine own_go (fun _ k => XS.dup X74.here hx rfl (hb hby own_d10_16) rfl rfl k) ?_
  show own_Fin p.tables e below G (T74.setTop (mkF m 17 #[.val (.int p1)] [(.ref b74), (.ref b74)]))
  refine own_go (fun _ k => XS.iloadN X74.here hx rfl (hb hby own_d10_17) rfl k) ?_
  show own_Fin p.tables e below G (T74.setTop (mkF m 18 #[.val (.int p1)] [(.int p1), (.ref b74), (.ref b74)]))
  obtain ⟨_, _, ⟨T79, L79, k79, n79⟩, -, X79, ⟨Lc79, hQ79, l79, y79, z79⟩, st79⟩ := Jvm.LawKit.callS X74 hx (y := (⟨"java/lang/StringLatin1", "toBytes", "(C)[B"⟩ : MethodName)) hown (mvT hZ (own_at hw 53 rfl)) (mvT hZ (own_at hw 54 rfl)) (mvT hZ (own_at hw 50 rfl)) (mvT hZ (own_at hw 55 rfl)) (by decide) (backOf (W := 2) (own_tb l Z a0 hw [] p1 h74 n0 O75) hZ (own_at hw 55 rfl) (own_at hw 50 rfl) (by decide) (by decide)) (g := (mkF m 18 #[.val (.int p1)] [(.int p1), (.ref b74), (.ref b74)])) rfl (by rw [hml]; rfl) (argsL := [(.int p1)]) (rest := [(.ref b74), (.ref b74)]) (lenOf own_pd4 rfl) rfl (by show 2 * 0 + _ ≤ _; exact Nat.le_of_eq rfl) (hb hby own_d10_18) (fun _ _ => ⟨rfl, e74, (by decide : 1 + 1 ≤ _), (by decide : 4 + 1 ≤ _)⟩)
  dsimp only [Pt.U, Pt.locs, Pt.cells, Pt.slots] at X79 l79 y79 z79 st79 hQ79
  subst l79 y79 z79
  obtain ⟨b79, rfl, N79q, K79⟩ := hQ79
  have N79 := Fr.app N73 N79q
  have F80 := F77.keep K79 nin0
  have F81 := F78.keep K79 nin0
  have E82 := A74.keep K79
  have O83 := O75.keep K79 all0
  have K84 := K76.trans K79 all0
  refine own_go st79 ?_
  show own_Fin p.tables e below G (T79.setTop (mkF m 21 #[.val (.int p1)] [(.ref b79), (.ref b74), (.ref b74)]))
  refine own_go (fun _ k => XS.iconst X79.here hx rfl (hb hby own_d10_21)  k) ?_
  show own_Fin p.tables e below G (T79.setTop (mkF m 22 #[.val (.int p1)] [(.int (0 : Int32)), (.ref b79), (.ref b74), (.ref b74)]))
  obtain ⟨_, _, ⟨T85, L85, k85, n85⟩, -, X85, ⟨Lc85, hQ85, l85, y85, z85⟩, st85⟩ := X79.specialBack hx (y := (⟨"java/lang/String", "<init>", "([BB)V"⟩ : MethodName)) rfl hown (mvT hZ (own_at hw 56 rfl)) (mvT hZ (own_at hw 57 rfl)) (mvT hZ (own_at hw 59 rfl)) (by decide) (backOf (W := 1) (own_si l Z a0 hw [] b74 b79 T79.heap n0 O83 E82 F80 F81 gn_b74) hZ (own_at hw 59 rfl) (own_at hw 18 rfl) (by decide) (by decide)) (g := (mkF m 22 #[.val (.int p1)] [(.int (0 : Int32)), (.ref b79), (.ref b74), (.ref b74)])) rfl (by rw [hml]; rfl) (Steps.refl _) (a := b74) (argsL := [(.ref b79), (.int (0 : Int32))]) (rest := [(.ref b74)]) (lenOf own_pd5 rfl) rfl (by show 2 * 0 + _ ≤ _; exact Nat.le_of_eq rfl) (hb hby own_d10_22) (fun _ _ => ⟨rfl, (rfl : T79.heap = T79.heap), (by decide : 2 + 0 ≤ _), (by decide : 5 + 0 ≤ _)⟩)
  dsimp only [Pt.U, Pt.locs, Pt.cells, Pt.slots] at X85 l85 y85 z85 st85 hQ85
  subst l85 y85 z85
  obtain ⟨rfl, N85q, K85, Ew85⟩ := hQ85
  have N85 := Fr.app N79 N85q
  have E86 := E82.keep K85
  have O87 := O83.keep K85 (allS gn_b74 all0)
  have K88 := K84.trans K85 (allS (Or.inr gk_b74) all0)
  refine own_go (fun _ k => st85.trans k) ?_
  show own_Fin p.tables e below G (T85.setTop (mkF m 25 #[.val (.int p1)] [(.ref b74)]))
  subst hG
  exact own_rv X85 hx (t := (.object "java/lang/String")) Bd.returns rfl (Or.inr (Or.inr (Or.inr (Or.inr ⟨rfl, rfl, rfl⟩)))) (hb hby own_d10_25) Bd.notSynchronized (by decide) (by decide) ⟨b74, rfl, N85, (by exact ⟨K88, E86⟩)⟩
theorem own_ef_own_law (m : MethodId) (p0 : Int32) (p1 : Int32) (p2 : Int64) (p3 : Int64) (p4 : Int32)  : entryFrame m #[(.int p0), (.int p1), (.long p2), (.long p3), (.int p4)] maxLocals = (mkF m 0 #[.val (.int p0), .val (.int p1), .val (.long p2), .second, .val (.long p3), .second, .val (.int p4), .unset, .unset, .unset, .unset, .unset, .unset, .unset, .unset, .unset, .unset, .unset, .unset] []) := by first | (simp [entryFrame, mkF, argsToLocals, Value.category, maxLocals]; done) | rfl
theorem own_pd6 : parseMethodDescriptor "(I)Lcom/example/tagwright/tagwright/model/TagClass;" = some ⟨[.int], some (.object "com/example/tagwright/tagwright/model/TagClass")⟩ := by decide +kernel
theorem own_pd7 : parseMethodDescriptor "(Lcom/example/tagwright/tagwright/model/TagClass;J)V" = some ⟨[(.object "com/example/tagwright/tagwright/model/TagClass"), .long], none⟩ := by decide +kernel
theorem own_pd8 : parseMethodDescriptor "(Ljava/lang/Object;)Z" = some ⟨[(.object "java/lang/Object")], some .boolean⟩ := by decide +kernel
theorem own_pd9 : parseMethodDescriptor "(J)Ljava/lang/Long;" = some ⟨[.long], some (.object "java/lang/Long")⟩ := by decide +kernel
theorem own_pd10 : parseMethodDescriptor "(C)Ljava/lang/String;" = some ⟨[.char], some (.object "java/lang/String")⟩ := by decide +kernel
def own_Q_own_law (Z : State) (p0 : Int32) (p1 : Int32) (p2 : Int64) (p3 : Int64) (p4 : Int32) (o0 : Addr) (o1 : Addr) (o2 : Addr) (o3 : Addr) (oc : Addr) (cc : Cell) (cs : Int32) (h0 : Heap) (n0 : Nat) (v : Option Value) (h : Heap) (L : List Loc) : Prop := v = some (.int (1 : Int32)) ∧ Fr n0 L
set_option maxRecDepth 65536 in
set_option maxHeartbeats 40000000 in
theorem own_law (l : Launch) (Z : State) (a0 : Array Value) (hw : ∀ d ∈ tables_1, d.before a0 Z = true) (ws : List Jvm.Cond) (p0 : Int32) (p1 : Int32) (p2 : Int64) (p3 : Int64) (p4 : Int32) (o0 : Addr) (o1 : Addr) (o2 : Addr) (o3 : Addr) (oc : Addr) (cc : Cell) (cs : Int32) (h0 : Heap) (n0 : Nat) (O0 : Old Z n0 h0) (S0 : Sta Z Z.heap "com/example/tagwright/tagwright/model/TagClass" "UNIVERSAL" "Lcom/example/tagwright/tagwright/model/TagClass;" (.ref o0)) (S1 : Sta Z Z.heap "com/example/tagwright/tagwright/model/TagClass" "APPLICATION" "Lcom/example/tagwright/tagwright/model/TagClass;" (.ref o1)) (S2 : Sta Z Z.heap "com/example/tagwright/tagwright/model/TagClass" "CONTEXT" "Lcom/example/tagwright/tagwright/model/TagClass;" (.ref o2)) (S3 : Sta Z Z.heap "com/example/tagwright/tagwright/model/TagClass" "PRIVATE" "Lcom/example/tagwright/tagwright/model/TagClass;" (.ref o3)) (Fo0 : Fld Z Z.heap o0 "java/lang/Enum" "ordinal" "I" (.int (0 : Int32))) (Fo1 : Fld Z Z.heap o1 "java/lang/Enum" "ordinal" "I" (.int (1 : Int32))) (Fo2 : Fld Z Z.heap o2 "java/lang/Enum" "ordinal" "I" (.int (2 : Int32))) (Fo3 : Fld Z Z.heap o3 "java/lang/Enum" "ordinal" "I" (.int (3 : Int32))) (SC : Sta Z Z.heap "java/lang/Long$LongCache" "cache" "[Ljava/lang/Long;" (.ref oc)) (BX : Bxs Z oc cc "java/lang/Long" "J" (256 : Int32) (fun j => .long (own_lv j))) (SCS : Sta Z Z.heap "java/lang/String" "COMPACT_STRINGS" "Z" (.int cs)) (hcs : ¬ (cs = 0)) :
    MetFree l x (head1 (Jvm.Cond.code x code maxLocals ret :: ws) room_1) (fun as' U => as' = #[(.int p0), (.int p1), (.long p2), (.long p3), (.int p4)] ∧ Z.Warmed39 U.vm ∧ U.heap = h0) (fun _ _ _ _ _ => True) (fun _ U o U' => ∃ v L, o = .returned v ∧ own_Q_own_law Z p0 p1 p2 p3 p4 o0 o1 o2 o3 oc cc cs h0 n0 v U'.heap L ∧ ReturnedEndW U o U' L room_1.cells room_1.slots) := by
  refine MetFree.of_bodySF (plainFor_of_name own_pn0) hisR ?_
  intro p e s m args below meth c s₁ Bd hml0 hP hK
  obtain ⟨rfl, hZ, hh⟩ := hP
  have hx := Bd.exec
  have hby := Bd.bytes
  have hml : c.maxLocals = 19 := hml0
  have hown : s.vm.findClass "com/example/tagwright/tagwright/model/TagEqualsPinLaw" = some m.cls := findClass_of_methodNamed Bd.named
  have hnm := (name_of_methodNamed Bd.named Bd.method).1
  have X0 : Stand p l e room_1 (s.setVm s.vm) m #[(.int p0), (.int p1), (.long p2), (.long p3), (.int p4)] below meth c s₁ [] 0 0 := Stand.of_body Bd
  have e0 : s₁.heap = h0 := by rw [← hh, Bd.state]; rfl
  have N0 := Fr.nil n0
  show own_Fin p.tables e below (fun s₂ o => ∃ v L, o = .returned v ∧ own_Q_own_law Z p0 p1 p2 p3 p4 o0 o1 o2 o3 oc cc cs h0 n0 v s₂.heap L ∧ ReturnedEndW s o s₂ L room_1.cells room_1.slots) _
  generalize hG : (fun (s₂ : State) (o : Outcome) => ∃ v L, o = Outcome.returned v ∧ own_Q_own_law Z p0 p1 p2 p3 p4 o0 o1 o2 o3 oc cc cs h0 n0 v s₂.heap L ∧ ReturnedEndW s o s₂ L room_1.cells room_1.slots) = G
  have SS0 : s.Since s.vm h0.size := (State.WarmedH.refl s).since _
  have hk0 : h0.size ≤ h0.size := Nat.le_refl _
  refine own_go (fun _ k => castTop (own_ef_own_law m p0 p1 p2 p3 p4) k) ?_
  show own_Fin p.tables e below G (s₁.setTop (mkF m 0 #[.val (.int p0), .val (.int p1), .val (.long p2), .second, .val (.long p3), .second, .val (.int p4), .unset, .unset, .unset, .unset, .unset, .unset, .unset, .unset, .unset, .unset, .unset, .unset] []))
  refine own_go (fun _ k => XS.iloadN X0.here hx rfl (hb hby at_0) rfl k) ?_
  show own_Fin p.tables e below G (s₁.setTop (mkF m 1 #[.val (.int p0), .val (.int p1), .val (.long p2), .second, .val (.long p3), .second, .val (.int p4), .unset, .unset, .unset, .unset, .unset, .unset, .unset, .unset, .unset, .unset, .unset, .unset] [(.int p0)]))
  refine own_go (fun _ k => XS.iconst X0.here hx rfl (hb hby at_1)  k) ?_
  show own_Fin p.tables e below G (s₁.setTop (mkF m 2 #[.val (.int p0), .val (.int p1), .val (.long p2), .second, .val (.long p3), .second, .val (.int p4), .unset, .unset, .unset, .unset, .unset, .unset, .unset, .unset, .unset, .unset, .unset, .unset] [(.int (3 : Int32)), (.int p0)]))
  refine own_go (fun _ k => XS.iand X0.here hx rfl (hb hby at_2) rfl k) ?_
  show own_Fin p.tables e below G (s₁.setTop (mkF m 3 #[.val (.int p0), .val (.int p1), .val (.long p2), .second, .val (.long p3), .second, .val (.int p4), .unset, .unset, .unset, .unset, .unset, .unset, .unset, .unset, .unset, .unset, .unset, .unset] [(.int (p0 &&& (3 : Int32)))]))
  have hia := own_and3 p0
  generalize (p0 &&& (3 : Int32)) = ia at hia ⊢
  refine own_go (fun _ k => XS.istore X0.here hx rfl (hb hby at_3) rfl (l' := #[.val (.int p0), .val (.int p1), .val (.long p2), .second, .val (.long p3), .second, .val (.int p4), .val (.int ia), .unset, .unset, .unset, .unset, .unset, .unset, .unset, .unset, .unset, .unset, .unset]) rfl k) ?_
  show own_Fin p.tables e below G (s₁.setTop (mkF m 5 #[.val (.int p0), .val (.int p1), .val (.long p2), .second, .val (.long p3), .second, .val (.int p4), .val (.int ia), .unset, .unset, .unset, .unset, .unset, .unset, .unset, .unset, .unset, .unset, .unset] []))
  refine own_go (fun _ k => XS.iloadN X0.here hx rfl (hb hby at_5) rfl k) ?_
  show own_Fin p.tables e below G (s₁.setTop (mkF m 6 #[.val (.int p0), .val (.int p1), .val (.long p2), .second, .val (.long p3), .second, .val (.int p4), .val (.int ia), .unset, .unset, .unset, .unset, .unset, .unset, .unset, .unset, .unset, .unset, .unset] [(.int p1)]))
  refine own_go (fun _ k => XS.iconst X0.here hx rfl (hb hby at_6)  k) ?_
  show own_Fin p.tables e below G (s₁.setTop (mkF m 7 #[.val (.int p0), .val (.int p1), .val (.long p2), .second, .val (.long p3), .second, .val (.int p4), .val (.int ia), .unset, .unset, .unset, .unset, .unset, .unset, .unset, .unset, .unset, .unset, .unset] [(.int (3 : Int32)), (.int p1)]))
  refine own_go (fun _ k => XS.iand X0.here hx rfl (hb hby at_7) rfl k) ?_
  show own_Fin p.tables e below G (s₁.setTop (mkF m 8 #[.val (.int p0), .val (.int p1), .val (.long p2), .second, .val (.long p3), .second, .val (.int p4), .val (.int ia), .unset, .unset, .unset, .unset, .unset, .unset, .unset, .unset, .unset, .unset, .unset] [(.int (p1 &&& (3 : Int32)))]))
  have hib := own_and3 p1
  generalize (p1 &&& (3 : Int32)) = ib at hib ⊢
  refine own_go (fun _ k => XS.istore X0.here hx rfl (hb hby at_8) rfl (l' := #[.val (.int p0), .val (.int p1), .val (.long p2), .second, .val (.long p3), .second, .val (.int p4), .val (.int ia), .val (.int ib), .unset, .unset, .unset, .unset, .unset, .unset, .unset, .unset, .unset, .unset]) rfl k) ?_
  show own_Fin p.tables e below G (s₁.setTop (mkF m 10 #[.val (.int p0), .val (.int p1), .val (.long p2), .second, .val (.long p3), .second, .val (.int p4), .val (.int ia), .val (.int ib), .unset, .unset, .unset, .unset, .unset, .unset, .unset, .unset, .unset, .unset] []))
  refine own_go (fun _ k => XS.lloadN X0.here hx rfl (hb hby at_10) rfl k) ?_
  show own_Fin p.tables e below G (s₁.setTop (mkF m 11 #[.val (.int p0), .val (.int p1), .val (.long p2), .second, .val (.long p3), .second, .val (.int p4), .val (.int ia), .val (.int ib), .unset, .unset, .unset, .unset, .unset, .unset, .unset, .unset, .unset, .unset] [(.long p2)]))
  refine own_go (fun _ k => X0.ldc2Long hx hown (mvT hZ (own_at hw 0 rfl)) (g := (mkF m 11 #[.val (.int p0), .val (.int p1), .val (.long p2), .second, .val (.long p3), .second, .val (.int p4), .val (.int ia), .val (.int ib), .unset, .unset, .unset, .unset, .unset, .unset, .unset, .unset, .unset, .unset] [(.long p2)])) rfl (hb hby at_11) _ k) ?_
  show own_Fin p.tables e below G (s₁.setTop (mkF m 14 #[.val (.int p0), .val (.int p1), .val (.long p2), .second, .val (.long p3), .second, .val (.int p4), .val (.int ia), .val (.int ib), .unset, .unset, .unset, .unset, .unset, .unset, .unset, .unset, .unset, .unset] [(.long (9223372036854775807 : Int64)), (.long p2)]))
  refine own_go (fun _ k => XS.land X0.here hx rfl (hb hby at_14) rfl k) ?_
  show own_Fin p.tables e below G (s₁.setTop (mkF m 15 #[.val (.int p0), .val (.int p1), .val (.long p2), .second, .val (.long p3), .second, .val (.int p4), .val (.int ia), .val (.int ib), .unset, .unset, .unset, .unset, .unset, .unset, .unset, .unset, .unset, .unset] [(.long (p2 &&& (9223372036854775807 : Int64)))]))
  have hna := own_pos p2
  generalize (p2 &&& (9223372036854775807 : Int64)) = na at hna ⊢
  refine own_go (fun _ k => XS.lstore X0.here hx rfl (hb hby at_15) rfl (l' := #[.val (.int p0), .val (.int p1), .val (.long p2), .second, .val (.long p3), .second, .val (.int p4), .val (.int ia), .val (.int ib), .val (.long na), .second, .unset, .unset, .unset, .unset, .unset, .unset, .unset, .unset]) rfl k) ?_
  show own_Fin p.tables e below G (s₁.setTop (mkF m 17 #[.val (.int p0), .val (.int p1), .val (.long p2), .second, .val (.long p3), .second, .val (.int p4), .val (.int ia), .val (.int ib), .val (.long na), .second, .unset, .unset, .unset, .unset, .unset, .unset, .unset, .unset] []))
  refine own_go (fun _ k => XS.lload X0.here hx rfl (hb hby at_17) rfl k) ?_
  show own_Fin p.tables e below G (s₁.setTop (mkF m 19 #[.val (.int p0), .val (.int p1), .val (.long p2), .second, .val (.long p3), .second, .val (.int p4), .val (.int ia), .val (.int ib), .val (.long na), .second, .unset, .unset, .unset, .unset, .unset, .unset, .unset, .unset] [(.long p3)]))
  refine own_go (fun _ k => X0.ldc2Long hx hown (mvT hZ (own_at hw 0 rfl)) (g := (mkF m 19 #[.val (.int p0), .val (.int p1), .val (.long p2), .second, .val (.long p3), .second, .val (.int p4), .val (.int ia), .val (.int ib), .val (.long na), .second, .unset, .unset, .unset, .unset, .unset, .unset, .unset, .unset] [(.long p3)])) rfl (hb hby at_19) _ k) ?_
  show own_Fin p.tables e below G (s₁.setTop (mkF m 22 #[.val (.int p0), .val (.int p1), .val (.long p2), .second, .val (.long p3), .second, .val (.int p4), .val (.int ia), .val (.int ib), .val (.long na), .second, .unset, .unset, .unset, .unset, .unset, .unset, .unset, .unset] [(.long (9223372036854775807 : Int64)), (.long p3)]))
  refine own_go (fun _ k => XS.land X0.here hx rfl (hb hby at_22) rfl k) ?_
  show own_Fin p.tables e below G (s₁.setTop (mkF m 23 #[.val (.int p0), .val (.int p1), .val (.long p2), .second, .val (.long p3), .second, .val (.int p4), .val (.int ia), .val (.int ib), .val (.long na), .second, .unset, .unset, .unset, .unset, .unset, .unset, .unset, .unset] [(.long (p3 &&& (9223372036854775807 : Int64)))]))
  have hnb := own_pos p3
  generalize (p3 &&& (9223372036854775807 : Int64)) = nb at hnb ⊢
  refine own_go (fun _ k => XS.lstore X0.here hx rfl (hb hby at_23) rfl (l' := #[.val (.int p0), .val (.int p1), .val (.long p2), .second, .val (.long p3), .second, .val (.int p4), .val (.int ia), .val (.int ib), .val (.long na), .second, .val (.long nb), .second, .unset, .unset, .unset, .unset, .unset, .unset]) rfl k) ?_
  show own_Fin p.tables e below G (s₁.setTop (mkF m 25 #[.val (.int p0), .val (.int p1), .val (.long p2), .second, .val (.long p3), .second, .val (.int p4), .val (.int ia), .val (.int ib), .val (.long na), .second, .val (.long nb), .second, .unset, .unset, .unset, .unset, .unset, .unset] []))
  obtain ⟨T89, h89, X89, e89, E89, A89, D89, -, st89⟩ := newO X0 hx hZ hown (own_at hw 1 rfl) (own_at hw 2 rfl) (own_at hw 3 rfl) e0 (g := (mkF m 25 #[.val (.int p0), .val (.int p1), .val (.long p2), .second, .val (.long p3), .second, .val (.int p4), .val (.int ia), .val (.int ib), .val (.long na), .second, .val (.long nb), .second, .unset, .unset, .unset, .unset, .unset, .unset] [])) rfl (hb hby at_25) (by decide) (by decide)
  obtain ⟨b89, g89⟩ : ∃ z, z = h0.size := ⟨_, rfl⟩
  rw [← g89] at A89 D89 st89
  refine own_go st89 ?_
  have gn_b89 : n0 ≤ b89 := Nat.le_trans (own_size O0) (Nat.le_of_eq g89.symm)
  have O90 := O0.ext E89
  have hk91 := Nat.le_trans hk0 E89.1
  have F92 : Fld Z h89 b89 "com/example/tagwright/tagwright/model/Tag" "tagClass" "Lcom/example/tagwright/tagwright/model/TagClass;" .null := D89 (Or.inr (own_at hw 30 rfl)) (ty := (.object "com/example/tagwright/tagwright/model/TagClass")) (by decide)
  have F93 : Fld Z h89 b89 "com/example/tagwright/tagwright/model/Tag" "number" "J" (.long (0 : Int64)) := D89 (Or.inr (own_at hw 32 rfl)) (ty := .long) (by decide)
  show own_Fin p.tables e below G (T89.setTop (mkF m 28 #[.val (.int p0), .val (.int p1), .val (.long p2), .second, .val (.long p3), .second, .val (.int p4), .val (.int ia), .val (.int ib), .val (.long na), .second, .val (.long nb), .second, .unset, .unset, .unset, .unset, .unset, .unset] [(.ref b89)]))
  refine own_go (fun _ k => XS.dup X89.here hx rfl (hb hby at_28) rfl rfl k) ?_
  show own_Fin p.tables e below G (T89.setTop (mkF m 29 #[.val (.int p0), .val (.int p1), .val (.long p2), .second, .val (.long p3), .second, .val (.int p4), .val (.int ia), .val (.int ib), .val (.long na), .second, .val (.long nb), .second, .unset, .unset, .unset, .unset, .unset, .unset] [(.ref b89), (.ref b89)]))
  refine own_go (fun _ k => XS.iload X89.here hx rfl (hb hby at_29) rfl k) ?_
  show own_Fin p.tables e below G (T89.setTop (mkF m 31 #[.val (.int p0), .val (.int p1), .val (.long p2), .second, .val (.long p3), .second, .val (.int p4), .val (.int ia), .val (.int ib), .val (.long na), .second, .val (.long nb), .second, .unset, .unset, .unset, .unset, .unset, .unset] [(.int ia), (.ref b89), (.ref b89)]))
  obtain ⟨_, _, ⟨T94, L94, k94, n94⟩, -, X94, ⟨Lc94, hQ94, l94, y94, z94⟩, st94⟩ := Jvm.LawKit.callS X89 hx (y := (⟨"com/example/tagwright/tagwright/model/TagEqualsPinLaw", "cls", "(I)Lcom/example/tagwright/tagwright/model/TagClass;"⟩ : MethodName)) hown (mvT hZ (own_at hw 4 rfl)) (mvT hZ (own_at hw 5 rfl)) (mvT hZ (own_at hw 6 rfl)) (mvT hZ (own_at hw 7 rfl)) (by decide) (backOf (W := 2) (own_c l Z a0 hw [] ia o0 o1 o2 o3 h89 n0 O90 S0 S1 S2 S3) hZ (own_at hw 7 rfl) (own_at hw 6 rfl) (by decide) (by decide)) (g := (mkF m 31 #[.val (.int p0), .val (.int p1), .val (.long p2), .second, .val (.long p3), .second, .val (.int p4), .val (.int ia), .val (.int ib), .val (.long na), .second, .val (.long nb), .second, .unset, .unset, .unset, .unset, .unset, .unset] [(.int ia), (.ref b89), (.ref b89)])) rfl (by rw [hml]; rfl) (argsL := [(.int ia)]) (rest := [(.ref b89), (.ref b89)]) (lenOf own_pd6 rfl) rfl (by show 2 * 0 + _ ≤ _; exact Nat.le_of_eq rfl) (hb hby at_31) (fun _ _ => ⟨rfl, e89, (by decide : 1 + 0 ≤ _), (by decide : 2 + 0 ≤ _)⟩)
  dsimp only [Pt.U, Pt.locs, Pt.cells, Pt.slots] at X94 l94 y94 z94 st94 hQ94
  subst l94 y94 z94
  obtain ⟨rfl, N94q, e94⟩ := hQ94
  have N94 := Fr.app N0 N94q
  refine own_go st94 ?_
  show own_Fin p.tables e below G (T94.setTop (mkF m 34 #[.val (.int p0), .val (.int p1), .val (.long p2), .second, .val (.long p3), .second, .val (.int p4), .val (.int ia), .val (.int ib), .val (.long na), .second, .val (.long nb), .second, .unset, .unset, .unset, .unset, .unset, .unset] [(.ref (own_cls o0 o1 o2 o3 (ia &&& 3))), (.ref b89), (.ref b89)]))
  rw [own_cls3 hia]
  show own_Fin p.tables e below G (T94.setTop (mkF m 34 #[.val (.int p0), .val (.int p1), .val (.long p2), .second, .val (.long p3), .second, .val (.int p4), .val (.int ia), .val (.int ib), .val (.long na), .second, .val (.long nb), .second, .unset, .unset, .unset, .unset, .unset, .unset] [(.ref (own_cls o0 o1 o2 o3 ia)), (.ref b89), (.ref b89)]))
  refine own_go (fun _ k => XS.lload X94.here hx rfl (hb hby at_34) rfl k) ?_
  show own_Fin p.tables e below G (T94.setTop (mkF m 36 #[.val (.int p0), .val (.int p1), .val (.long p2), .second, .val (.long p3), .second, .val (.int p4), .val (.int ia), .val (.int ib), .val (.long na), .second, .val (.long nb), .second, .unset, .unset, .unset, .unset, .unset, .unset] [(.long na), (.ref (own_cls o0 o1 o2 o3 ia)), (.ref b89), (.ref b89)]))
  obtain ⟨_, _, ⟨T95, L95, k95, n95⟩, -, X95, S95, gs95, ⟨Lc95, hQ95, l95, y95, z95⟩, st95⟩ := X94.specialBackS hx (y := (⟨"com/example/tagwright/tagwright/model/Tag", "<init>", "(Lcom/example/tagwright/tagwright/model/TagClass;J)V"⟩ : MethodName)) rfl hown (mvT hZ (own_at hw 11 rfl)) (mvT hZ (own_at hw 12 rfl)) (mvT hZ (own_at hw 13 rfl)) (by decide) (backOfS (W := 1) (own_ti l Z a0 hw [] b89 (own_cls o0 o1 o2 o3 ia) na h89 n0 O90 A89 F92 F93 gn_b89 hna) hZ (own_at hw 13 rfl) (own_at hw 3 rfl) (by decide) (by decide)) (g := (mkF m 36 #[.val (.int p0), .val (.int p1), .val (.long p2), .second, .val (.long p3), .second, .val (.int p4), .val (.int ia), .val (.int ib), .val (.long na), .second, .val (.long nb), .second, .unset, .unset, .unset, .unset, .unset, .unset] [(.long na), (.ref (own_cls o0 o1 o2 o3 ia)), (.ref b89), (.ref b89)])) rfl (by rw [hml]; rfl) (Steps.refl _) (a := b89) (argsL := [(.ref (own_cls o0 o1 o2 o3 ia)), (.long na)]) (rest := [(.ref b89)]) (lenOf own_pd7 rfl) rfl (by show 2 * 0 + _ ≤ _; exact Nat.le_of_eq rfl) (hb hby at_36) (fun _ _ => ⟨rfl, e94, (by decide : 1 + 2 ≤ _), (by decide : 2 + 36 ≤ _)⟩)
  dsimp only [Pt.U, Pt.locs, Pt.cells, Pt.slots] at X95 l95 y95 z95 st95 hQ95 S95 gs95
  subst l95 y95 z95
  have SS95 := foldS SS0 (own_hk e94 hk91) S95 gs95
  have hZ95 := own_rebZ hZ S95
  have hown95 := own_rebO hown S95
  have hkk95 : T95.heap.size ≤ T95.heap.size := Nat.le_refl _
  obtain ⟨rfl, N95q, K95, Ew95, Ft95, Fn95⟩ := hQ95
  have N95 := Fr.app N94 N95q
  have E96 := A89.keep K95
  have O97 := O90.keep K95 (allS gn_b89 all0)
  refine own_go (fun _ k => st95.trans k) ?_
  show own_Fin p.tables e below G (T95.setTop (mkF m 39 #[.val (.int p0), .val (.int p1), .val (.long p2), .second, .val (.long p3), .second, .val (.int p4), .val (.int ia), .val (.int ib), .val (.long na), .second, .val (.long nb), .second, .unset, .unset, .unset, .unset, .unset, .unset] [(.ref b89)]))
  refine own_go (fun _ k => XS.astore X95.here hx rfl (hb hby at_39) rfl rfl (l' := #[.val (.int p0), .val (.int p1), .val (.long p2), .second, .val (.long p3), .second, .val (.int p4), .val (.int ia), .val (.int ib), .val (.long na), .second, .val (.long nb), .second, .val (.ref b89), .unset, .unset, .unset, .unset, .unset]) rfl k) ?_
  show own_Fin p.tables e below G (T95.setTop (mkF m 41 #[.val (.int p0), .val (.int p1), .val (.long p2), .second, .val (.long p3), .second, .val (.int p4), .val (.int ia), .val (.int ib), .val (.long na), .second, .val (.long nb), .second, .val (.ref b89), .unset, .unset, .unset, .unset, .unset] []))
  refine own_go (fun _ k => XS.iload X95.here hx rfl (hb hby at_41) rfl k) ?_
  show own_Fin p.tables e below G (T95.setTop (mkF m 43 #[.val (.int p0), .val (.int p1), .val (.long p2), .second, .val (.long p3), .second, .val (.int p4), .val (.int ia), .val (.int ib), .val (.long na), .second, .val (.long nb), .second, .val (.ref b89), .unset, .unset, .unset, .unset, .unset] [(.int p4)]))
  refine own_go (fun _ k => XS.bipush X95.here hx rfl (hb hby at_43)  k) ?_
  show own_Fin p.tables e below G (T95.setTop (mkF m 45 #[.val (.int p0), .val (.int p1), .val (.long p2), .second, .val (.long p3), .second, .val (.int p4), .val (.int ia), .val (.int ib), .val (.long na), .second, .val (.long nb), .second, .val (.ref b89), .unset, .unset, .unset, .unset, .unset] [(.int (7 : Int32)), (.int p4)]))
  refine own_go (fun _ k => XS.iand X95.here hx rfl (hb hby at_45) rfl k) ?_
  show own_Fin p.tables e below G (T95.setTop (mkF m 46 #[.val (.int p0), .val (.int p1), .val (.long p2), .second, .val (.long p3), .second, .val (.int p4), .val (.int ia), .val (.int ib), .val (.long na), .second, .val (.long nb), .second, .val (.ref b89), .unset, .unset, .unset, .unset, .unset] [(.int (p4 &&& (7 : Int32)))]))
  generalize (p4 &&& (7 : Int32)) = kq
  refine own_go (fun _ k => XS.istore X95.here hx rfl (hb hby at_46) rfl (l' := #[.val (.int p0), .val (.int p1), .val (.long p2), .second, .val (.long p3), .second, .val (.int p4), .val (.int ia), .val (.int ib), .val (.long na), .second, .val (.long nb), .second, .val (.ref b89), .val (.int kq), .unset, .unset, .unset, .unset]) rfl k) ?_
  show own_Fin p.tables e below G (T95.setTop (mkF m 48 #[.val (.int p0), .val (.int p1), .val (.long p2), .second, .val (.long p3), .second, .val (.int p4), .val (.int ia), .val (.int ib), .val (.long na), .second, .val (.long nb), .second, .val (.ref b89), .val (.int kq), .unset, .unset, .unset, .unset] []))
  refine own_go (fun _ k => XS.aconstNull X95.here hx rfl (hb hby at_48)  k) ?_
  show own_Fin p.tables e below G (T95.setTop (mkF m 49 #[.val (.int p0), .val (.int p1), .val (.long p2), .second, .val (.long p3), .second, .val (.int p4), .val (.int ia), .val (.int ib), .val (.long na), .second, .val (.long nb), .second, .val (.ref b89), .val (.int kq), .unset, .unset, .unset, .unset] [.null]))
  refine own_go (fun _ k => XS.astore X95.here hx rfl (hb hby at_49) rfl rfl (l' := #[.val (.int p0), .val (.int p1), .val (.long p2), .second, .val (.long p3), .second, .val (.int p4), .val (.int ia), .val (.int ib), .val (.long na), .second, .val (.long nb), .second, .val (.ref b89), .val (.int kq), .unset, .unset, .val .null, .unset]) rfl k) ?_
  show own_Fin p.tables e below G (T95.setTop (mkF m 51 #[.val (.int p0), .val (.int p1), .val (.long p2), .second, .val (.long p3), .second, .val (.int p4), .val (.int ia), .val (.int ib), .val (.long na), .second, .val (.long nb), .second, .val (.ref b89), .val (.int kq), .unset, .unset, .val .null, .unset] []))
  have own_kT : ∀ (T : State) (vm : Vm) (kk : Nat) (locs : List Loc) (h : Heap) (X : Stand p l e room_1 (s.setVm vm) m #[(.int p0), (.int p1), (.long p2), (.long p3), (.int p4)] below meth c T locs 14 700) (hZp : Z.Warmed39 vm) (hownp : vm.findClass "com/example/tagwright/tagwright/model/TagEqualsPinLaw" = some m.cls) (SSp : s.Since vm kk) (hkp : kk ≤ h.size) (eT : T.heap = h) (N : Fr n0 locs) (O : Old Z n0 h) (bx : Addr) (bz : Addr) (ex : Int32) (ty : Addr) (ny : Int64) (Ex : Exa Z h bx "com/example/tagwright/tagwright/model/Tag") (Ftx : Fld Z h bx "com/example/tagwright/tagwright/model/Tag" "tagClass" "Lcom/example/tagwright/tagwright/model/TagClass;" (.ref (own_cls o0 o1 o2 o3 ia))) (Fnx : Fld Z h bx "com/example/tagwright/tagwright/model/Tag" "number" "J" (.long na)) (Ey : Exa Z h bz "com/example/tagwright/tagwright/model/Tag") (Fty : Fld Z h bz "com/example/tagwright/tagwright/model/Tag" "tagClass" "Lcom/example/tagwright/tagwright/model/TagClass;" (.ref ty)) (Fny : Fld Z h bz "com/example/tagwright/tagwright/model/Tag" "number" "J" (.long ny)) (hq : ex = own_bi (decide ((own_cls o0 o1 o2 o3 ia) = ty) && decide (na = ny))), own_Fin p.tables e below G (T.setTop (mkF m 289 #[.val (.int p0), .val (.int p1), .val (.long p2), .second, .val (.long p3), .second, .val (.int p4), .val (.int ia), .val (.int ib), .val (.long na), .second, .val (.long nb), .second, .val (.ref bx), .val (.int kq), .val (.ref bz), .val (.int ex), .val (.ref bz), .unset] [])) := by
    intro T vm kk locs h X hZp hownp SSp hkp eT N O bx bz ex ty ny Ex Ftx Fnx Ey Fty Fny hq
    refine own_go (fun _ k => XS.aload X.here hx rfl (hb hby at_289) rfl rfl k) ?_
    show own_Fin p.tables e below G (T.setTop (mkF m 291 #[.val (.int p0), .val (.int p1), .val (.long p2), .second, .val (.long p3), .second, .val (.int p4), .val (.int ia), .val (.int ib), .val (.long na), .second, .val (.long nb), .second, .val (.ref bx), .val (.int kq), .val (.ref bz), .val (.int ex), .val (.ref bz), .unset] [(.ref bx)]))
    refine own_go (fun _ k => XS.aload X.here hx rfl (hb hby at_291) rfl rfl k) ?_
    show own_Fin p.tables e below G (T.setTop (mkF m 293 #[.val (.int p0), .val (.int p1), .val (.long p2), .second, .val (.long p3), .second, .val (.int p4), .val (.int ia), .val (.int ib), .val (.long na), .second, .val (.long nb), .second, .val (.ref bx), .val (.int kq), .val (.ref bz), .val (.int ex), .val (.ref bz), .unset] [(.ref bz), (.ref bx)]))
    obtain ⟨cq98, kq98, q98a, q98b, q98c⟩ := isOf (s := (s.setVm vm)) hZp eT Ex
    obtain ⟨_, _, ⟨T98, L98, k98, n98⟩, -, X98, ⟨Lc98, hQ98, l98, y98, z98⟩, st98⟩ := X.virtualBack hx (y := (⟨"com/example/tagwright/tagwright/model/Tag", "equals", "(Ljava/lang/Object;)Z"⟩ : MethodName)) (z := (⟨"com/example/tagwright/tagwright/model/Tag", "equals", "(Ljava/lang/Object;)Z"⟩ : MethodName)) hownp (mvT hZp (own_at hw 33 rfl)) (mvT hZp (own_at hw 34 rfl)) (notFace_of_selects (args := #[]) (mvT hZp (own_at hw 36 rfl))) (mvT hZp (own_at hw 36 rfl)) (mvT hZp (own_at hw 35 rfl)) (by decide) (backOf (W := 0) (own_eqT l Z a0 hw [] bx bz (own_cls o0 o1 o2 o3 ia) ty na ny h n0 O Ey Ftx Fnx Fty Fny) hZp (own_at hw 37 rfl) (own_at hw 3 rfl) (by decide) (by decide)) q98a q98c (g := (mkF m 293 #[.val (.int p0), .val (.int p1), .val (.long p2), .second, .val (.long p3), .second, .val (.int p4), .val (.int ia), .val (.int ib), .val (.long na), .second, .val (.long nb), .second, .val (.ref bx), .val (.int kq), .val (.ref bz), .val (.int ex), .val (.ref bz), .unset] [(.ref bz), (.ref bx)])) rfl (by rw [hml]; rfl) (Steps.refl _) (argsL := [(.ref bz)]) (rest := []) (lenOf own_pd8 rfl) rfl (by show 2 * 0 + _ ≤ _; exact Nat.le_of_eq rfl) (hb hby at_293) (fun _ _ => ⟨rfl, eT, (by decide : 14 + 0 ≤ _), (by decide : 700 + 0 ≤ _)⟩)
    dsimp only [Pt.U, Pt.locs, Pt.cells, Pt.slots] at X98 l98 y98 z98 st98 hQ98
    subst l98 y98 z98
    obtain ⟨rfl, N98q, e98⟩ := hQ98
    have N98 := Fr.app N N98q
    refine own_go (fun _ k => st98.trans k) ?_
    show own_Fin p.tables e below G (T98.setTop (mkF m 296 #[.val (.int p0), .val (.int p1), .val (.long p2), .second, .val (.long p3), .second, .val (.int p4), .val (.int ia), .val (.int ib), .val (.long na), .second, .val (.long nb), .second, .val (.ref bx), .val (.int kq), .val (.ref bz), .val (.int ex), .val (.ref bz), .unset] [(.int (own_bi (decide ((own_cls o0 o1 o2 o3 ia) = ty) && decide (na = ny))))]))
    refine own_go (fun _ k => XS.istore X98.here hx rfl (hb hby at_296) rfl (l' := #[.val (.int p0), .val (.int p1), .val (.long p2), .second, .val (.long p3), .second, .val (.int p4), .val (.int ia), .val (.int ib), .val (.long na), .second, .val (.long nb), .second, .val (.ref bx), .val (.int kq), .val (.ref bz), .val (.int ex), .val (.ref bz), .val (.int (own_bi (decide ((own_cls o0 o1 o2 o3 ia) = ty) && decide (na = ny))))]) rfl k) ?_
    show own_Fin p.tables e below G (T98.setTop (mkF m 298 #[.val (.int p0), .val (.int p1), .val (.long p2), .second, .val (.long p3), .second, .val (.int p4), .val (.int ia), .val (.int ib), .val (.long na), .second, .val (.long nb), .second, .val (.ref bx), .val (.int kq), .val (.ref bz), .val (.int ex), .val (.ref bz), .val (.int (own_bi (decide ((own_cls o0 o1 o2 o3 ia) = ty) && decide (na = ny))))] []))
    refine own_go (fun _ k => XS.iload X98.here hx rfl (hb hby at_298) rfl k) ?_
    show own_Fin p.tables e below G (T98.setTop (mkF m 300 #[.val (.int p0), .val (.int p1), .val (.long p2), .second, .val (.long p3), .second, .val (.int p4), .val (.int ia), .val (.int ib), .val (.long na), .second, .val (.long nb), .second, .val (.ref bx), .val (.int kq), .val (.ref bz), .val (.int ex), .val (.ref bz), .val (.int (own_bi (decide ((own_cls o0 o1 o2 o3 ia) = ty) && decide (na = ny))))] [(.int (own_bi (decide ((own_cls o0 o1 o2 o3 ia) = ty) && decide (na = ny))))]))
    refine own_go (fun _ k => XS.iload X98.here hx rfl (hb hby at_300) rfl k) ?_
    show own_Fin p.tables e below G (T98.setTop (mkF m 302 #[.val (.int p0), .val (.int p1), .val (.long p2), .second, .val (.long p3), .second, .val (.int p4), .val (.int ia), .val (.int ib), .val (.long na), .second, .val (.long nb), .second, .val (.ref bx), .val (.int kq), .val (.ref bz), .val (.int ex), .val (.ref bz), .val (.int (own_bi (decide ((own_cls o0 o1 o2 o3 ia) = ty) && decide (na = ny))))] [(.int ex), (.int (own_bi (decide ((own_cls o0 o1 o2 o3 ia) = ty) && decide (na = ny))))]))
    refine own_go (fun _ k => XS.icmpYes X98.here hx rfl (pc0 := 302) (pc' := 307) rfl (hb hby at_302) rfl (Jvm.Free.XT.ii_eq_t hq.symm) (by decide) (by decide) k) ?_
    show own_Fin p.tables e below G (T98.setTop (mkF m 307 #[.val (.int p0), .val (.int p1), .val (.long p2), .second, .val (.long p3), .second, .val (.int p4), .val (.int ia), .val (.int ib), .val (.long na), .second, .val (.long nb), .second, .val (.ref bx), .val (.int kq), .val (.ref bz), .val (.int ex), .val (.ref bz), .val (.int (own_bi (decide ((own_cls o0 o1 o2 o3 ia) = ty) && decide (na = ny))))] []))
    refine own_go (fun _ k => XS.aload X98.here hx rfl (hb hby at_307) rfl rfl k) ?_
    show own_Fin p.tables e below G (T98.setTop (mkF m 309 #[.val (.int p0), .val (.int p1), .val (.long p2), .second, .val (.long p3), .second, .val (.int p4), .val (.int ia), .val (.int ib), .val (.long na), .second, .val (.long nb), .second, .val (.ref bx), .val (.int kq), .val (.ref bz), .val (.int ex), .val (.ref bz), .val (.int (own_bi (decide ((own_cls o0 o1 o2 o3 ia) = ty) && decide (na = ny))))] [(.ref bz)]))
    refine own_go (fun _ k => XS.ifnullNo X98.here hx rfl (hb hby at_309) rfl k) ?_
    show own_Fin p.tables e below G (T98.setTop (mkF m 312 #[.val (.int p0), .val (.int p1), .val (.long p2), .second, .val (.long p3), .second, .val (.int p4), .val (.int ia), .val (.int ib), .val (.long na), .second, .val (.long nb), .second, .val (.ref bx), .val (.int kq), .val (.ref bz), .val (.int ex), .val (.ref bz), .val (.int (own_bi (decide ((own_cls o0 o1 o2 o3 ia) = ty) && decide (na = ny))))] []))
    refine own_go (fun _ k => XS.aload X98.here hx rfl (hb hby at_312) rfl rfl k) ?_
    show own_Fin p.tables e below G (T98.setTop (mkF m 314 #[.val (.int p0), .val (.int p1), .val (.long p2), .second, .val (.long p3), .second, .val (.int p4), .val (.int ia), .val (.int ib), .val (.long na), .second, .val (.long nb), .second, .val (.ref bx), .val (.int kq), .val (.ref bz), .val (.int ex), .val (.ref bz), .val (.int (own_bi (decide ((own_cls o0 o1 o2 o3 ia) = ty) && decide (na = ny))))] [(.ref bz)]))
    refine own_go (fun _ k => XS.aload X98.here hx rfl (hb hby at_314) rfl rfl k) ?_
    show own_Fin p.tables e below G (T98.setTop (mkF m 316 #[.val (.int p0), .val (.int p1), .val (.long p2), .second, .val (.long p3), .second, .val (.int p4), .val (.int ia), .val (.int ib), .val (.long na), .second, .val (.long nb), .second, .val (.ref bx), .val (.int kq), .val (.ref bz), .val (.int ex), .val (.ref bz), .val (.int (own_bi (decide ((own_cls o0 o1 o2 o3 ia) = ty) && decide (na = ny))))] [(.ref bx), (.ref bz)]))
    obtain ⟨cq99, kq99, q99a, q99b, q99c⟩ := isOf (s := (s.setVm vm)) hZp e98 Ey
    obtain ⟨_, _, ⟨T99, L99, k99, n99⟩, -, X99, ⟨Lc99, hQ99, l99, y99, z99⟩, st99⟩ := X98.virtualBack hx (y := (⟨"com/example/tagwright/tagwright/model/Tag", "equals", "(Ljava/lang/Object;)Z"⟩ : MethodName)) (z := (⟨"com/example/tagwright/tagwright/model/Tag", "equals", "(Ljava/lang/Object;)Z"⟩ : MethodName)) hownp (mvT hZp (own_at hw 33 rfl)) (mvT hZp (own_at hw 34 rfl)) (notFace_of_selects (args := #[]) (mvT hZp (own_at hw 36 rfl))) (mvT hZp (own_at hw 36 rfl)) (mvT hZp (own_at hw 35 rfl)) (by decide) (backOf (W := 0) (own_eqT l Z a0 hw [] bz bx ty (own_cls o0 o1 o2 o3 ia) ny na h n0 O Ex Fty Fny Ftx Fnx) hZp (own_at hw 37 rfl) (own_at hw 3 rfl) (by decide) (by decide)) q99a q99c (g := (mkF m 316 #[.val (.int p0), .val (.int p1), .val (.long p2), .second, .val (.long p3), .second, .val (.int p4), .val (.int ia), .val (.int ib), .val (.long na), .second, .val (.long nb), .second, .val (.ref bx), .val (.int kq), .val (.ref bz), .val (.int ex), .val (.ref bz), .val (.int (own_bi (decide ((own_cls o0 o1 o2 o3 ia) = ty) && decide (na = ny))))] [(.ref bx), (.ref bz)])) rfl (by rw [hml]; rfl) (Steps.refl _) (argsL := [(.ref bx)]) (rest := []) (lenOf own_pd8 rfl) rfl (by show 2 * 0 + _ ≤ _; exact Nat.le_of_eq rfl) (hb hby at_316) (fun _ _ => ⟨rfl, e98, (by decide : 14 + 0 ≤ _), (by decide : 700 + 0 ≤ _)⟩)
    dsimp only [Pt.U, Pt.locs, Pt.cells, Pt.slots] at X99 l99 y99 z99 st99 hQ99
    subst l99 y99 z99
    obtain ⟨rfl, N99q, e99⟩ := hQ99
    have N99 := Fr.app N98 N99q
    refine own_go (fun _ k => st99.trans k) ?_
    show own_Fin p.tables e below G (T99.setTop (mkF m 319 #[.val (.int p0), .val (.int p1), .val (.long p2), .second, .val (.long p3), .second, .val (.int p4), .val (.int ia), .val (.int ib), .val (.long na), .second, .val (.long nb), .second, .val (.ref bx), .val (.int kq), .val (.ref bz), .val (.int ex), .val (.ref bz), .val (.int (own_bi (decide ((own_cls o0 o1 o2 o3 ia) = ty) && decide (na = ny))))] [(.int (own_bi (decide (ty = (own_cls o0 o1 o2 o3 ia)) && decide (ny = na))))]))
    refine own_go (fun _ k => XS.iload X99.here hx rfl (hb hby at_319) rfl k) ?_
    show own_Fin p.tables e below G (T99.setTop (mkF m 321 #[.val (.int p0), .val (.int p1), .val (.long p2), .second, .val (.long p3), .second, .val (.int p4), .val (.int ia), .val (.int ib), .val (.long na), .second, .val (.long nb), .second, .val (.ref bx), .val (.int kq), .val (.ref bz), .val (.int ex), .val (.ref bz), .val (.int (own_bi (decide ((own_cls o0 o1 o2 o3 ia) = ty) && decide (na = ny))))] [(.int ex), (.int (own_bi (decide (ty = (own_cls o0 o1 o2 o3 ia)) && decide (ny = na))))]))
    refine own_go (fun _ k => XS.icmpYes X99.here hx rfl (pc0 := 321) (pc' := 326) rfl (hb hby at_321) rfl (Jvm.Free.XT.ii_eq_t ((own_sym _ _ _ _).trans hq.symm)) (by decide) (by decide) k) ?_
    show own_Fin p.tables e below G (T99.setTop (mkF m 326 #[.val (.int p0), .val (.int p1), .val (.long p2), .second, .val (.long p3), .second, .val (.int p4), .val (.int ia), .val (.int ib), .val (.long na), .second, .val (.long nb), .second, .val (.ref bx), .val (.int kq), .val (.ref bz), .val (.int ex), .val (.ref bz), .val (.int (own_bi (decide ((own_cls o0 o1 o2 o3 ia) = ty) && decide (na = ny))))] []))
    refine own_go (fun _ k => XS.iconst X99.here hx rfl (hb hby at_326)  k) ?_
    show own_Fin p.tables e below G (T99.setTop (mkF m 327 #[.val (.int p0), .val (.int p1), .val (.long p2), .second, .val (.long p3), .second, .val (.int p4), .val (.int ia), .val (.int ib), .val (.long na), .second, .val (.long nb), .second, .val (.ref bx), .val (.int kq), .val (.ref bz), .val (.int ex), .val (.ref bz), .val (.int (own_bi (decide ((own_cls o0 o1 o2 o3 ia) = ty) && decide (na = ny))))] [(.int (1 : Int32))]))
    subst hG
    exact own_rvW X99 SSp (own_hk e99 hkp) hx (t := .boolean) Bd.returns rfl (Or.inl ⟨rfl, Or.inr (Or.inl rfl), _, rfl⟩) (hb hby at_327) Bd.notSynchronized (by decide) (by decide) ⟨rfl, N99⟩
  have own_k0 : ∀ (T : State) (vm : Vm) (kk : Nat) (locs : List Loc) (h : Heap) (X : Stand p l e room_1 (s.setVm vm) m #[(.int p0), (.int p1), (.long p2), (.long p3), (.int p4)] below meth c T locs 14 700) (hZp : Z.Warmed39 vm) (hownp : vm.findClass "com/example/tagwright/tagwright/model/TagEqualsPinLaw" = some m.cls) (SSp : s.Since vm kk) (hkp : kk ≤ h.size) (eT : T.heap = h) (N : Fr n0 locs) (O : Old Z n0 h) (bx : Addr) (Ex : Exa Z h bx "com/example/tagwright/tagwright/model/Tag"), own_Fin p.tables e below G (T.setTop (mkF m 289 #[.val (.int p0), .val (.int p1), .val (.long p2), .second, .val (.long p3), .second, .val (.int p4), .val (.int ia), .val (.int ib), .val (.long na), .second, .val (.long nb), .second, .val (.ref bx), .val (.int kq), .val .null, .val (.int (0 : Int32)), .val .null, .unset] [])) := by
    intro T vm kk locs h X hZp hownp SSp hkp eT N O bx Ex
    refine own_go (fun _ k => XS.aload X.here hx rfl (hb hby at_289) rfl rfl k) ?_
    show own_Fin p.tables e below G (T.setTop (mkF m 291 #[.val (.int p0), .val (.int p1), .val (.long p2), .second, .val (.long p3), .second, .val (.int p4), .val (.int ia), .val (.int ib), .val (.long na), .second, .val (.long nb), .second, .val (.ref bx), .val (.int kq), .val .null, .val (.int (0 : Int32)), .val .null, .unset] [(.ref bx)]))
    refine own_go (fun _ k => XS.aload X.here hx rfl (hb hby at_291) rfl rfl k) ?_
    show own_Fin p.tables e below G (T.setTop (mkF m 293 #[.val (.int p0), .val (.int p1), .val (.long p2), .second, .val (.long p3), .second, .val (.int p4), .val (.int ia), .val (.int ib), .val (.long na), .second, .val (.long nb), .second, .val (.ref bx), .val (.int kq), .val .null, .val (.int (0 : Int32)), .val .null, .unset] [.null, (.ref bx)]))
    obtain ⟨cq100, kq100, q100a, q100b, q100c⟩ := isOf (s := (s.setVm vm)) hZp eT Ex
    obtain ⟨_, _, ⟨T100, L100, k100, n100⟩, -, X100, ⟨Lc100, hQ100, l100, y100, z100⟩, st100⟩ := X.virtualBack hx (y := (⟨"com/example/tagwright/tagwright/model/Tag", "equals", "(Ljava/lang/Object;)Z"⟩ : MethodName)) (z := (⟨"com/example/tagwright/tagwright/model/Tag", "equals", "(Ljava/lang/Object;)Z"⟩ : MethodName)) hownp (mvT hZp (own_at hw 33 rfl)) (mvT hZp (own_at hw 34 rfl)) (notFace_of_selects (args := #[]) (mvT hZp (own_at hw 36 rfl))) (mvT hZp (own_at hw 36 rfl)) (mvT hZp (own_at hw 35 rfl)) (by decide) (backOf (W := 0) (own_eq0 l Z a0 hw [] bx h n0 O) hZp (own_at hw 37 rfl) (own_at hw 3 rfl) (by decide) (by decide)) q100a q100c (g := (mkF m 293 #[.val (.int p0), .val (.int p1), .val (.long p2), .second, .val (.long p3), .second, .val (.int p4), .val (.int ia), .val (.int ib), .val (.long na), .second, .val (.long nb), .second, .val (.ref bx), .val (.int kq), .val .null, .val (.int (0 : Int32)), .val .null, .unset] [.null, (.ref bx)])) rfl (by rw [hml]; rfl) (Steps.refl _) (argsL := [.null]) (rest := []) (lenOf own_pd8 rfl) rfl (by show 2 * 0 + _ ≤ _; exact Nat.le_of_eq rfl) (hb hby at_293) (fun _ _ => ⟨rfl, eT, (by decide : 14 + 0 ≤ _), (by decide : 700 + 0 ≤ _)⟩)
    dsimp only [Pt.U, Pt.locs, Pt.cells, Pt.slots] at X100 l100 y100 z100 st100 hQ100
    subst l100 y100 z100
    obtain ⟨rfl, N100q, e100⟩ := hQ100
    have N100 := Fr.app N N100q
    refine own_go (fun _ k => st100.trans k) ?_
    show own_Fin p.tables e below G (T100.setTop (mkF m 296 #[.val (.int p0), .val (.int p1), .val (.long p2), .second, .val (.long p3), .second, .val (.int p4), .val (.int ia), .val (.int ib), .val (.long na), .second, .val (.long nb), .second, .val (.ref bx), .val (.int kq), .val .null, .val (.int (0 : Int32)), .val .null, .unset] [(.int (0 : Int32))]))
    refine own_go (fun _ k => XS.istore X100.here hx rfl (hb hby at_296) rfl (l' := #[.val (.int p0), .val (.int p1), .val (.long p2), .second, .val (.long p3), .second, .val (.int p4), .val (.int ia), .val (.int ib), .val (.long na), .second, .val (.long nb), .second, .val (.ref bx), .val (.int kq), .val .null, .val (.int (0 : Int32)), .val .null, .val (.int (0 : Int32))]) rfl k) ?_
    show own_Fin p.tables e below G (T100.setTop (mkF m 298 #[.val (.int p0), .val (.int p1), .val (.long p2), .second, .val (.long p3), .second, .val (.int p4), .val (.int ia), .val (.int ib), .val (.long na), .second, .val (.long nb), .second, .val (.ref bx), .val (.int kq), .val .null, .val (.int (0 : Int32)), .val .null, .val (.int (0 : Int32))] []))
    refine own_go (fun _ k => XS.iload X100.here hx rfl (hb hby at_298) rfl k) ?_
    show own_Fin p.tables e below G (T100.setTop (mkF m 300 #[.val (.int p0), .val (.int p1), .val (.long p2), .second, .val (.long p3), .second, .val (.int p4), .val (.int ia), .val (.int ib), .val (.long na), .second, .val (.long nb), .second, .val (.ref bx), .val (.int kq), .val .null, .val (.int (0 : Int32)), .val .null, .val (.int (0 : Int32))] [(.int (0 : Int32))]))
    refine own_go (fun _ k => XS.iload X100.here hx rfl (hb hby at_300) rfl k) ?_
    show own_Fin p.tables e below G (T100.setTop (mkF m 302 #[.val (.int p0), .val (.int p1), .val (.long p2), .second, .val (.long p3), .second, .val (.int p4), .val (.int ia), .val (.int ib), .val (.long na), .second, .val (.long nb), .second, .val (.ref bx), .val (.int kq), .val .null, .val (.int (0 : Int32)), .val .null, .val (.int (0 : Int32))] [(.int (0 : Int32)), (.int (0 : Int32))]))
    refine own_go (fun _ k => XS.icmpYes X100.here hx rfl (pc0 := 302) (pc' := 307) rfl (hb hby at_302) rfl (Jvm.Free.XT.ii_eq_t (by decide)) (by decide) (by decide) k) ?_
    show own_Fin p.tables e below G (T100.setTop (mkF m 307 #[.val (.int p0), .val (.int p1), .val (.long p2), .second, .val (.long p3), .second, .val (.int p4), .val (.int ia), .val (.int ib), .val (.long na), .second, .val (.long nb), .second, .val (.ref bx), .val (.int kq), .val .null, .val (.int (0 : Int32)), .val .null, .val (.int (0 : Int32))] []))
    refine own_go (fun _ k => XS.aload X100.here hx rfl (hb hby at_307) rfl rfl k) ?_
    show own_Fin p.tables e below G (T100.setTop (mkF m 309 #[.val (.int p0), .val (.int p1), .val (.long p2), .second, .val (.long p3), .second, .val (.int p4), .val (.int ia), .val (.int ib), .val (.long na), .second, .val (.long nb), .second, .val (.ref bx), .val (.int kq), .val .null, .val (.int (0 : Int32)), .val .null, .val (.int (0 : Int32))] [.null]))
    refine own_go (fun _ k => XS.ifnullYes X100.here hx rfl (pc0 := 309) (pc' := 326) rfl (hb hby at_309) rfl (by decide) (by decide) k) ?_
    show own_Fin p.tables e below G (T100.setTop (mkF m 326 #[.val (.int p0), .val (.int p1), .val (.long p2), .second, .val (.long p3), .second, .val (.int p4), .val (.int ia), .val (.int ib), .val (.long na), .second, .val (.long nb), .second, .val (.ref bx), .val (.int kq), .val .null, .val (.int (0 : Int32)), .val .null, .val (.int (0 : Int32))] []))
    refine own_go (fun _ k => XS.iconst X100.here hx rfl (hb hby at_326)  k) ?_
    show own_Fin p.tables e below G (T100.setTop (mkF m 327 #[.val (.int p0), .val (.int p1), .val (.long p2), .second, .val (.long p3), .second, .val (.int p4), .val (.int ia), .val (.int ib), .val (.long na), .second, .val (.long nb), .second, .val (.ref bx), .val (.int kq), .val .null, .val (.int (0 : Int32)), .val .null, .val (.int (0 : Int32))] [(.int (1 : Int32))]))
    subst hG
    exact own_rvW X100 SSp (own_hk e100 hkp) hx (t := .boolean) Bd.returns rfl (Or.inl ⟨rfl, Or.inr (Or.inl rfl), _, rfl⟩) (hb hby at_327) Bd.notSynchronized (by decide) (by decide) ⟨rfl, N100⟩
  have own_kL : ∀ (T : State) (vm : Vm) (kk : Nat) (locs : List Loc) (h : Heap) (X : Stand p l e room_1 (s.setVm vm) m #[(.int p0), (.int p1), (.long p2), (.long p3), (.int p4)] below meth c T locs 14 700) (hZp : Z.Warmed39 vm) (hownp : vm.findClass "com/example/tagwright/tagwright/model/TagEqualsPinLaw" = some m.cls) (SSp : s.Since vm kk) (hkp : kk ≤ h.size) (eT : T.heap = h) (N : Fr n0 locs) (O : Old Z n0 h) (bx : Addr) (bz : Addr) (Ex : Exa Z h bx "com/example/tagwright/tagwright/model/Tag") (Ey : Exa Z h bz "java/lang/Long"), own_Fin p.tables e below G (T.setTop (mkF m 289 #[.val (.int p0), .val (.int p1), .val (.long p2), .second, .val (.long p3), .second, .val (.int p4), .val (.int ia), .val (.int ib), .val (.long na), .second, .val (.long nb), .second, .val (.ref bx), .val (.int kq), .val (.ref bz), .val (.int (0 : Int32)), .val .null, .unset] [])) := by
    intro T vm kk locs h X hZp hownp SSp hkp eT N O bx bz Ex Ey
    refine own_go (fun _ k => XS.aload X.here hx rfl (hb hby at_289) rfl rfl k) ?_
    show own_Fin p.tables e below G (T.setTop (mkF m 291 #[.val (.int p0), .val (.int p1), .val (.long p2), .second, .val (.long p3), .second, .val (.int p4), .val (.int ia), .val (.int ib), .val (.long na), .second, .val (.long nb), .second, .val (.ref bx), .val (.int kq), .val (.ref bz), .val (.int (0 : Int32)), .val .null, .unset] [(.ref bx)]))
    refine own_go (fun _ k => XS.aload X.here hx rfl (hb hby at_291) rfl rfl k) ?_
    show own_Fin p.tables e below G (T.setTop (mkF m 293 #[.val (.int p0), .val (.int p1), .val (.long p2), .second, .val (.long p3), .second, .val (.int p4), .val (.int ia), .val (.int ib), .val (.long na), .second, .val (.long nb), .second, .val (.ref bx), .val (.int kq), .val (.ref bz), .val (.int (0 : Int32)), .val .null, .unset] [(.ref bz), (.ref bx)]))
    obtain ⟨cq101, kq101, q101a, q101b, q101c⟩ := isOf (s := (s.setVm vm)) hZp eT Ex
    obtain ⟨_, _, ⟨T101, L101, k101, n101⟩, -, X101, ⟨Lc101, hQ101, l101, y101, z101⟩, st101⟩ := X.virtualBack hx (y := (⟨"com/example/tagwright/tagwright/model/Tag", "equals", "(Ljava/lang/Object;)Z"⟩ : MethodName)) (z := (⟨"com/example/tagwright/tagwright/model/Tag", "equals", "(Ljava/lang/Object;)Z"⟩ : MethodName)) hownp (mvT hZp (own_at hw 33 rfl)) (mvT hZp (own_at hw 34 rfl)) (notFace_of_selects (args := #[]) (mvT hZp (own_at hw 36 rfl))) (mvT hZp (own_at hw 36 rfl)) (mvT hZp (own_at hw 35 rfl)) (by decide) (backOf (W := 0) (own_eqL l Z a0 hw [] bx bz h n0 O Ey) hZp (own_at hw 37 rfl) (own_at hw 3 rfl) (by decide) (by decide)) q101a q101c (g := (mkF m 293 #[.val (.int p0), .val (.int p1), .val (.long p2), .second, .val (.long p3), .second, .val (.int p4), .val (.int ia), .val (.int ib), .val (.long na), .second, .val (.long nb), .second, .val (.ref bx), .val (.int kq), .val (.ref bz), .val (.int (0 : Int32)), .val .null, .unset] [(.ref bz), (.ref bx)])) rfl (by rw [hml]; rfl) (Steps.refl _) (argsL := [(.ref bz)]) (rest := []) (lenOf own_pd8 rfl) rfl (by show 2 * 0 + _ ≤ _; exact Nat.le_of_eq rfl) (hb hby at_293) (fun _ _ => ⟨rfl, eT, (by decide : 14 + 0 ≤ _), (by decide : 700 + 0 ≤ _)⟩)
    dsimp only [Pt.U, Pt.locs, Pt.cells, Pt.slots] at X101 l101 y101 z101 st101 hQ101
    subst l101 y101 z101
    obtain ⟨rfl, N101q, e101⟩ := hQ101
    have N101 := Fr.app N N101q
    refine own_go (fun _ k => st101.trans k) ?_
    show own_Fin p.tables e below G (T101.setTop (mkF m 296 #[.val (.int p0), .val (.int p1), .val (.long p2), .second, .val (.long p3), .second, .val (.int p4), .val (.int ia), .val (.int ib), .val (.long na), .second, .val (.long nb), .second, .val (.ref bx), .val (.int kq), .val (.ref bz), .val (.int (0 : Int32)), .val .null, .unset] [(.int (0 : Int32))]))
    refine own_go (fun _ k => XS.istore X101.here hx rfl (hb hby at_296) rfl (l' := #[.val (.int p0), .val (.int p1), .val (.long p2), .second, .val (.long p3), .second, .val (.int p4), .val (.int ia), .val (.int ib), .val (.long na), .second, .val (.long nb), .second, .val (.ref bx), .val (.int kq), .val (.ref bz), .val (.int (0 : Int32)), .val .null, .val (.int (0 : Int32))]) rfl k) ?_
    show own_Fin p.tables e below G (T101.setTop (mkF m 298 #[.val (.int p0), .val (.int p1), .val (.long p2), .second, .val (.long p3), .second, .val (.int p4), .val (.int ia), .val (.int ib), .val (.long na), .second, .val (.long nb), .second, .val (.ref bx), .val (.int kq), .val (.ref bz), .val (.int (0 : Int32)), .val .null, .val (.int (0 : Int32))] []))
    refine own_go (fun _ k => XS.iload X101.here hx rfl (hb hby at_298) rfl k) ?_
    show own_Fin p.tables e below G (T101.setTop (mkF m 300 #[.val (.int p0), .val (.int p1), .val (.long p2), .second, .val (.long p3), .second, .val (.int p4), .val (.int ia), .val (.int ib), .val (.long na), .second, .val (.long nb), .second, .val (.ref bx), .val (.int kq), .val (.ref bz), .val (.int (0 : Int32)), .val .null, .val (.int (0 : Int32))] [(.int (0 : Int32))]))
    refine own_go (fun _ k => XS.iload X101.here hx rfl (hb hby at_300) rfl k) ?_
    show own_Fin p.tables e below G (T101.setTop (mkF m 302 #[.val (.int p0), .val (.int p1), .val (.long p2), .second, .val (.long p3), .second, .val (.int p4), .val (.int ia), .val (.int ib), .val (.long na), .second, .val (.long nb), .second, .val (.ref bx), .val (.int kq), .val (.ref bz), .val (.int (0 : Int32)), .val .null, .val (.int (0 : Int32))] [(.int (0 : Int32)), (.int (0 : Int32))]))
    refine own_go (fun _ k => XS.icmpYes X101.here hx rfl (pc0 := 302) (pc' := 307) rfl (hb hby at_302) rfl (Jvm.Free.XT.ii_eq_t (by decide)) (by decide) (by decide) k) ?_
    show own_Fin p.tables e below G (T101.setTop (mkF m 307 #[.val (.int p0), .val (.int p1), .val (.long p2), .second, .val (.long p3), .second, .val (.int p4), .val (.int ia), .val (.int ib), .val (.long na), .second, .val (.long nb), .second, .val (.ref bx), .val (.int kq), .val (.ref bz), .val (.int (0 : Int32)), .val .null, .val (.int (0 : Int32))] []))
    refine own_go (fun _ k => XS.aload X101.here hx rfl (hb hby at_307) rfl rfl k) ?_
    show own_Fin p.tables e below G (T101.setTop (mkF m 309 #[.val (.int p0), .val (.int p1), .val (.long p2), .second, .val (.long p3), .second, .val (.int p4), .val (.int ia), .val (.int ib), .val (.long na), .second, .val (.long nb), .second, .val (.ref bx), .val (.int kq), .val (.ref bz), .val (.int (0 : Int32)), .val .null, .val (.int (0 : Int32))] [.null]))
    refine own_go (fun _ k => XS.ifnullYes X101.here hx rfl (pc0 := 309) (pc' := 326) rfl (hb hby at_309) rfl (by decide) (by decide) k) ?_
    show own_Fin p.tables e below G (T101.setTop (mkF m 326 #[.val (.int p0), .val (.int p1), .val (.long p2), .second, .val (.long p3), .second, .val (.int p4), .val (.int ia), .val (.int ib), .val (.long na), .second, .val (.long nb), .second, .val (.ref bx), .val (.int kq), .val (.ref bz), .val (.int (0 : Int32)), .val .null, .val (.int (0 : Int32))] []))
    refine own_go (fun _ k => XS.iconst X101.here hx rfl (hb hby at_326)  k) ?_
    show own_Fin p.tables e below G (T101.setTop (mkF m 327 #[.val (.int p0), .val (.int p1), .val (.long p2), .second, .val (.long p3), .second, .val (.int p4), .val (.int ia), .val (.int ib), .val (.long na), .second, .val (.long nb), .second, .val (.ref bx), .val (.int kq), .val (.ref bz), .val (.int (0 : Int32)), .val .null, .val (.int (0 : Int32))] [(.int (1 : Int32))]))
    subst hG
    exact own_rvW X101 SSp (own_hk e101 hkp) hx (t := .boolean) Bd.returns rfl (Or.inl ⟨rfl, Or.inr (Or.inl rfl), _, rfl⟩) (hb hby at_327) Bd.notSynchronized (by decide) (by decide) ⟨rfl, N101⟩
  have own_kS : ∀ (T : State) (vm : Vm) (kk : Nat) (locs : List Loc) (h : Heap) (X : Stand p l e room_1 (s.setVm vm) m #[(.int p0), (.int p1), (.long p2), (.long p3), (.int p4)] below meth c T locs 14 700) (hZp : Z.Warmed39 vm) (hownp : vm.findClass "com/example/tagwright/tagwright/model/TagEqualsPinLaw" = some m.cls) (SSp : s.Since vm kk) (hkp : kk ≤ h.size) (eT : T.heap = h) (N : Fr n0 locs) (O : Old Z n0 h) (bx : Addr) (bz : Addr) (Ex : Exa Z h bx "com/example/tagwright/tagwright/model/Tag") (Ey : Exa Z h bz "java/lang/String"), own_Fin p.tables e below G (T.setTop (mkF m 289 #[.val (.int p0), .val (.int p1), .val (.long p2), .second, .val (.long p3), .second, .val (.int p4), .val (.int ia), .val (.int ib), .val (.long na), .second, .val (.long nb), .second, .val (.ref bx), .val (.int kq), .val (.ref bz), .val (.int (0 : Int32)), .val .null, .unset] [])) := by
    intro T vm kk locs h X hZp hownp SSp hkp eT N O bx bz Ex Ey
    refine own_go (fun _ k => XS.aload X.here hx rfl (hb hby at_289) rfl rfl k) ?_
    show own_Fin p.tables e below G (T.setTop (mkF m 291 #[.val (.int p0), .val (.int p1), .val (.long p2), .second, .val (.long p3), .second, .val (.int p4), .val (.int ia), .val (.int ib), .val (.long na), .second, .val (.long nb), .second, .val (.ref bx), .val (.int kq), .val (.ref bz), .val (.int (0 : Int32)), .val .null, .unset] [(.ref bx)]))
    refine own_go (fun _ k => XS.aload X.here hx rfl (hb hby at_291) rfl rfl k) ?_
    show own_Fin p.tables e below G (T.setTop (mkF m 293 #[.val (.int p0), .val (.int p1), .val (.long p2), .second, .val (.long p3), .second, .val (.int p4), .val (.int ia), .val (.int ib), .val (.long na), .second, .val (.long nb), .second, .val (.ref bx), .val (.int kq), .val (.ref bz), .val (.int (0 : Int32)), .val .null, .unset] [(.ref bz), (.ref bx)]))
    obtain ⟨cq102, kq102, q102a, q102b, q102c⟩ := isOf (s := (s.setVm vm)) hZp eT Ex
    obtain ⟨_, _, ⟨T102, L102, k102, n102⟩, -, X102, ⟨Lc102, hQ102, l102, y102, z102⟩, st102⟩ := X.virtualBack hx (y := (⟨"com/example/tagwright/tagwright/model/Tag", "equals", "(Ljava/lang/Object;)Z"⟩ : MethodName)) (z := (⟨"com/example/tagwright/tagwright/model/Tag", "equals", "(Ljava/lang/Object;)Z"⟩ : MethodName)) hownp (mvT hZp (own_at hw 33 rfl)) (mvT hZp (own_at hw 34 rfl)) (notFace_of_selects (args := #[]) (mvT hZp (own_at hw 36 rfl))) (mvT hZp (own_at hw 36 rfl)) (mvT hZp (own_at hw 35 rfl)) (by decide) (backOf (W := 0) (own_eqS l Z a0 hw [] bx bz h n0 O Ey) hZp (own_at hw 37 rfl) (own_at hw 3 rfl) (by decide) (by decide)) q102a q102c (g := (mkF m 293 #[.val (.int p0), .val (.int p1), .val (.long p2), .second, .val (.long p3), .second, .val (.int p4), .val (.int ia), .val (.int ib), .val (.long na), .second, .val (.long nb), .second, .val (.ref bx), .val (.int kq), .val (.ref bz), .val (.int (0 : Int32)), .val .null, .unset] [(.ref bz), (.ref bx)])) rfl (by rw [hml]; rfl) (Steps.refl _) (argsL := [(.ref bz)]) (rest := []) (lenOf own_pd8 rfl) rfl (by show 2 * 0 + _ ≤ _; exact Nat.le_of_eq rfl) (hb hby at_293) (fun _ _ => ⟨rfl, eT, (by decide : 14 + 0 ≤ _), (by decide : 700 + 0 ≤ _)⟩)
    dsimp only [Pt.U, Pt.locs, Pt.cells, Pt.slots] at X102 l102 y102 z102 st102 hQ102
    subst l102 y102 z102
    obtain ⟨rfl, N102q, e102⟩ := hQ102
    have N102 := Fr.app N N102q
    refine own_go (fun _ k => st102.trans k) ?_
    show own_Fin p.tables e below G (T102.setTop (mkF m 296 #[.val (.int p0), .val (.int p1), .val (.long p2), .second, .val (.long p3), .second, .val (.int p4), .val (.int ia), .val (.int ib), .val (.long na), .second, .val (.long nb), .second, .val (.ref bx), .val (.int kq), .val (.ref bz), .val (.int (0 : Int32)), .val .null, .unset] [(.int (0 : Int32))]))
    refine own_go (fun _ k => XS.istore X102.here hx rfl (hb hby at_296) rfl (l' := #[.val (.int p0), .val (.int p1), .val (.long p2), .second, .val (.long p3), .second, .val (.int p4), .val (.int ia), .val (.int ib), .val (.long na), .second, .val (.long nb), .second, .val (.ref bx), .val (.int kq), .val (.ref bz), .val (.int (0 : Int32)), .val .null, .val (.int (0 : Int32))]) rfl k) ?_
    show own_Fin p.tables e below G (T102.setTop (mkF m 298 #[.val (.int p0), .val (.int p1), .val (.long p2), .second, .val (.long p3), .second, .val (.int p4), .val (.int ia), .val (.int ib), .val (.long na), .second, .val (.long nb), .second, .val (.ref bx), .val (.int kq), .val (.ref bz), .val (.int (0 : Int32)), .val .null, .val (.int (0 : Int32))] []))
    refine own_go (fun _ k => XS.iload X102.here hx rfl (hb hby at_298) rfl k) ?_
    show own_Fin p.tables e below G (T102.setTop (mkF m 300 #[.val (.int p0), .val (.int p1), .val (.long p2), .second, .val (.long p3), .second, .val (.int p4), .val (.int ia), .val (.int ib), .val (.long na), .second, .val (.long nb), .second, .val (.ref bx), .val (.int kq), .val (.ref bz), .val (.int (0 : Int32)), .val .null, .val (.int (0 : Int32))] [(.int (0 : Int32))]))
    refine own_go (fun _ k => XS.iload X102.here hx rfl (hb hby at_300) rfl k) ?_
    show own_Fin p.tables e below G (T102.setTop (mkF m 302 #[.val (.int p0), .val (.int p1), .val (.long p2), .second, .val (.long p3), .second, .val (.int p4), .val (.int ia), .val (.int ib), .val (.long na), .second, .val (.long nb), .second, .val (.ref bx), .val (.int kq), .val (.ref bz), .val (.int (0 : Int32)), .val .null, .val (.int (0 : Int32))] [(.int (0 : Int32)), (.int (0 : Int32))]))
    refine own_go (fun _ k => XS.icmpYes X102.here hx rfl (pc0 := 302) (pc' := 307) rfl (hb hby at_302) rfl (Jvm.Free.XT.ii_eq_t (by decide)) (by decide) (by decide) k) ?_
    show own_Fin p.tables e below G (T102.setTop (mkF m 307 #[.val (.int p0), .val (.int p1), .val (.long p2), .second, .val (.long p3), .second, .val (.int p4), .val (.int ia), .val (.int ib), .val (.long na), .second, .val (.long nb), .second, .val (.ref bx), .val (.int kq), .val (.ref bz), .val (.int (0 : Int32)), .val .null, .val (.int (0 : Int32))] []))
    refine own_go (fun _ k => XS.aload X102.here hx rfl (hb hby at_307) rfl rfl k) ?_
    show own_Fin p.tables e below G (T102.setTop (mkF m 309 #[.val (.int p0), .val (.int p1), .val (.long p2), .second, .val (.long p3), .second, .val (.int p4), .val (.int ia), .val (.int ib), .val (.long na), .second, .val (.long nb), .second, .val (.ref bx), .val (.int kq), .val (.ref bz), .val (.int (0 : Int32)), .val .null, .val (.int (0 : Int32))] [.null]))
    refine own_go (fun _ k => XS.ifnullYes X102.here hx rfl (pc0 := 309) (pc' := 326) rfl (hb hby at_309) rfl (by decide) (by decide) k) ?_
    show own_Fin p.tables e below G (T102.setTop (mkF m 326 #[.val (.int p0), .val (.int p1), .val (.long p2), .second, .val (.long p3), .second, .val (.int p4), .val (.int ia), .val (.int ib), .val (.long na), .second, .val (.long nb), .second, .val (.ref bx), .val (.int kq), .val (.ref bz), .val (.int (0 : Int32)), .val .null, .val (.int (0 : Int32))] []))
    refine own_go (fun _ k => XS.iconst X102.here hx rfl (hb hby at_326)  k) ?_
    show own_Fin p.tables e below G (T102.setTop (mkF m 327 #[.val (.int p0), .val (.int p1), .val (.long p2), .second, .val (.long p3), .second, .val (.int p4), .val (.int ia), .val (.int ib), .val (.long na), .second, .val (.long nb), .second, .val (.ref bx), .val (.int kq), .val (.ref bz), .val (.int (0 : Int32)), .val .null, .val (.int (0 : Int32))] [(.int (1 : Int32))]))
    subst hG
    exact own_rvW X102 SSp (own_hk e102 hkp) hx (t := .boolean) Bd.returns rfl (Or.inl ⟨rfl, Or.inr (Or.inl rfl), _, rfl⟩) (hb hby at_327) Bd.notSynchronized (by decide) (by decide) ⟨rfl, N102⟩
  show own_Fin p.tables e below G (T95.setTop (mkF m 51 #[.val (.int p0), .val (.int p1), .val (.long p2), .second, .val (.long p3), .second, .val (.int p4), .val (.int ia), .val (.int ib), .val (.long na), .second, .val (.long nb), .second, .val (.ref b89), .val (.int kq), .unset, .unset, .val .null, .unset] []))
  refine own_go (fun _ k => XS.iload X95.here hx rfl (hb hby at_51) rfl k) ?_
  show own_Fin p.tables e below G (T95.setTop (mkF m 53 #[.val (.int p0), .val (.int p1), .val (.long p2), .second, .val (.long p3), .second, .val (.int p4), .val (.int ia), .val (.int ib), .val (.long na), .second, .val (.long nb), .second, .val (.ref b89), .val (.int kq), .unset, .unset, .val .null, .unset] [(.int kq)]))
  by_cases hk0 : kq = 0
  · refine own_go (fun _ k => XS.ifNo X95.here hx rfl (hb hby at_53) rfl (Jvm.Free.XT.i0_ne_f hk0) k) ?_
    show own_Fin p.tables e below G (T95.setTop (mkF m 56 #[.val (.int p0), .val (.int p1), .val (.long p2), .second, .val (.long p3), .second, .val (.int p4), .val (.int ia), .val (.int ib), .val (.long na), .second, .val (.long nb), .second, .val (.ref b89), .val (.int kq), .unset, .unset, .val .null, .unset] []))
    obtain ⟨T103, h103, X103, e103, E103, A103, D103, -, st103⟩ := newO X95 hx hZ95 hown95 (own_at hw 1 rfl) (own_at hw 2 rfl) (own_at hw 3 rfl) (rfl : T95.heap = T95.heap) (g := (mkF m 56 #[.val (.int p0), .val (.int p1), .val (.long p2), .second, .val (.long p3), .second, .val (.int p4), .val (.int ia), .val (.int ib), .val (.long na), .second, .val (.long nb), .second, .val (.ref b89), .val (.int kq), .unset, .unset, .val .null, .unset] [])) rfl (hb hby at_56) (by decide) (by decide)
    obtain ⟨b103, g103⟩ : ∃ z, z = T95.heap.size := ⟨_, rfl⟩
    rw [← g103] at A103 D103 st103
    refine own_go st103 ?_
    have gn_b103 : n0 ≤ b103 := Nat.le_trans (own_size O97) (Nat.le_of_eq g103.symm)
    have ne_b89_b103 : b89 ≠ b103 := Nat.ne_of_lt (Nat.lt_of_lt_of_le E96.lt (Nat.le_of_eq g103.symm))
    have F104 := Ft95.ext E103
    have F105 := Fn95.ext E103
    have E106 := E96.ext E103
    have O107 := O97.ext E103
    have hk108 := Nat.le_trans hkk95 E103.1
    have F109 : Fld Z h103 b103 "com/example/tagwright/tagwright/model/Tag" "tagClass" "Lcom/example/tagwright/tagwright/model/TagClass;" .null := D103 (Or.inr (own_at hw 30 rfl)) (ty := (.object "com/example/tagwright/tagwright/model/TagClass")) (by decide)
    have F110 : Fld Z h103 b103 "com/example/tagwright/tagwright/model/Tag" "number" "J" (.long (0 : Int64)) := D103 (Or.inr (own_at hw 32 rfl)) (ty := .long) (by decide)
    show own_Fin p.tables e below G (T103.setTop (mkF m 59 #[.val (.int p0), .val (.int p1), .val (.long p2), .second, .val (.long p3), .second, .val (.int p4), .val (.int ia), .val (.int ib), .val (.long na), .second, .val (.long nb), .second, .val (.ref b89), .val (.int kq), .unset, .unset, .val .null, .unset] [(.ref b103)]))
    refine own_go (fun _ k => XS.dup X103.here hx rfl (hb hby at_59) rfl rfl k) ?_
    show own_Fin p.tables e below G (T103.setTop (mkF m 60 #[.val (.int p0), .val (.int p1), .val (.long p2), .second, .val (.long p3), .second, .val (.int p4), .val (.int ia), .val (.int ib), .val (.long na), .second, .val (.long nb), .second, .val (.ref b89), .val (.int kq), .unset, .unset, .val .null, .unset] [(.ref b103), (.ref b103)]))
    refine own_go (fun _ k => XS.iload X103.here hx rfl (hb hby at_60) rfl k) ?_
    show own_Fin p.tables e below G (T103.setTop (mkF m 62 #[.val (.int p0), .val (.int p1), .val (.long p2), .second, .val (.long p3), .second, .val (.int p4), .val (.int ia), .val (.int ib), .val (.long na), .second, .val (.long nb), .second, .val (.ref b89), .val (.int kq), .unset, .unset, .val .null, .unset] [(.int ib), (.ref b103), (.ref b103)]))
    obtain ⟨_, _, ⟨T111, L111, k111, n111⟩, -, X111, ⟨Lc111, hQ111, l111, y111, z111⟩, st111⟩ := Jvm.LawKit.callS X103 hx (y := (⟨"com/example/tagwright/tagwright/model/TagEqualsPinLaw", "cls", "(I)Lcom/example/tagwright/tagwright/model/TagClass;"⟩ : MethodName)) hown95 (mvT hZ95 (own_at hw 4 rfl)) (mvT hZ95 (own_at hw 5 rfl)) (mvT hZ95 (own_at hw 6 rfl)) (mvT hZ95 (own_at hw 7 rfl)) (by decide) (backOf (W := 2) (own_c l Z a0 hw [] ib o0 o1 o2 o3 h103 n0 O107 S0 S1 S2 S3) hZ95 (own_at hw 7 rfl) (own_at hw 6 rfl) (by decide) (by decide)) (g := (mkF m 62 #[.val (.int p0), .val (.int p1), .val (.long p2), .second, .val (.long p3), .second, .val (.int p4), .val (.int ia), .val (.int ib), .val (.long na), .second, .val (.long nb), .second, .val (.ref b89), .val (.int kq), .unset, .unset, .val .null, .unset] [(.int ib), (.ref b103), (.ref b103)])) rfl (by rw [hml]; rfl) (argsL := [(.int ib)]) (rest := [(.ref b103), (.ref b103)]) (lenOf own_pd6 rfl) rfl (by show 2 * 0 + _ ≤ _; exact Nat.le_of_eq rfl) (hb hby at_62) (fun _ _ => ⟨rfl, e103, (by decide : 4 + 0 ≤ _), (by decide : 40 + 0 ≤ _)⟩)
    dsimp only [Pt.U, Pt.locs, Pt.cells, Pt.slots] at X111 l111 y111 z111 st111 hQ111
    subst l111 y111 z111
    obtain ⟨rfl, N111q, e111⟩ := hQ111
    have N111 := Fr.app N95 N111q
    refine own_go st111 ?_
    show own_Fin p.tables e below G (T111.setTop (mkF m 65 #[.val (.int p0), .val (.int p1), .val (.long p2), .second, .val (.long p3), .second, .val (.int p4), .val (.int ia), .val (.int ib), .val (.long na), .second, .val (.long nb), .second, .val (.ref b89), .val (.int kq), .unset, .unset, .val .null, .unset] [(.ref (own_cls o0 o1 o2 o3 (ib &&& 3))), (.ref b103), (.ref b103)]))
    rw [own_cls3 hib]
    show own_Fin p.tables e below G (T111.setTop (mkF m 65 #[.val (.int p0), .val (.int p1), .val (.long p2), .second, .val (.long p3), .second, .val (.int p4), .val (.int ia), .val (.int ib), .val (.long na), .second, .val (.long nb), .second, .val (.ref b89), .val (.int kq), .unset, .unset, .val .null, .unset] [(.ref (own_cls o0 o1 o2 o3 ib)), (.ref b103), (.ref b103)]))
    refine own_go (fun _ k => XS.lload X111.here hx rfl (hb hby at_65) rfl k) ?_
    show own_Fin p.tables e below G (T111.setTop (mkF m 67 #[.val (.int p0), .val (.int p1), .val (.long p2), .second, .val (.long p3), .second, .val (.int p4), .val (.int ia), .val (.int ib), .val (.long na), .second, .val (.long nb), .second, .val (.ref b89), .val (.int kq), .unset, .unset, .val .null, .unset] [(.long nb), (.ref (own_cls o0 o1 o2 o3 ib)), (.ref b103), (.ref b103)]))
    obtain ⟨_, _, ⟨T112, L112, k112, n112⟩, -, X112, S112, gs112, ⟨Lc112, hQ112, l112, y112, z112⟩, st112⟩ := X111.specialBackS hx (y := (⟨"com/example/tagwright/tagwright/model/Tag", "<init>", "(Lcom/example/tagwright/tagwright/model/TagClass;J)V"⟩ : MethodName)) rfl hown95 (mvT hZ95 (own_at hw 11 rfl)) (mvT hZ95 (own_at hw 12 rfl)) (mvT hZ95 (own_at hw 13 rfl)) (by decide) (backOfS (W := 1) (own_ti l Z a0 hw [] b103 (own_cls o0 o1 o2 o3 ib) nb h103 n0 O107 A103 F109 F110 gn_b103 hnb) hZ95 (own_at hw 13 rfl) (own_at hw 3 rfl) (by decide) (by decide)) (g := (mkF m 67 #[.val (.int p0), .val (.int p1), .val (.long p2), .second, .val (.long p3), .second, .val (.int p4), .val (.int ia), .val (.int ib), .val (.long na), .second, .val (.long nb), .second, .val (.ref b89), .val (.int kq), .unset, .unset, .val .null, .unset] [(.long nb), (.ref (own_cls o0 o1 o2 o3 ib)), (.ref b103), (.ref b103)])) rfl (by rw [hml]; rfl) (Steps.refl _) (a := b103) (argsL := [(.ref (own_cls o0 o1 o2 o3 ib)), (.long nb)]) (rest := [(.ref b103)]) (lenOf own_pd7 rfl) rfl (by show 2 * 0 + _ ≤ _; exact Nat.le_of_eq rfl) (hb hby at_67) (fun _ _ => ⟨rfl, e111, (by decide : 4 + 2 ≤ _), (by decide : 40 + 36 ≤ _)⟩)
    dsimp only [Pt.U, Pt.locs, Pt.cells, Pt.slots] at X112 l112 y112 z112 st112 hQ112 S112 gs112
    subst l112 y112 z112
    have SS112 := foldS SS95 (own_hk e111 hk108) S112 gs112
    have hZ112 := own_rebZ hZ95 S112
    have hown112 := own_rebO hown95 S112
    have hkk112 : T112.heap.size ≤ T112.heap.size := Nat.le_refl _
    obtain ⟨rfl, N112q, K112, Ew112, Ft112, Fn112⟩ := hQ112
    have N112 := Fr.app N111 N112q
    have F113 := F104.keep K112 (ninS ne_b89_b103 nin0)
    have F114 := F105.keep K112 (ninS ne_b89_b103 nin0)
    have E115 := E106.keep K112
    have E116 := A103.keep K112
    have O117 := O107.keep K112 (allS gn_b103 all0)
    refine own_go (fun _ k => st112.trans k) ?_
    show own_Fin p.tables e below G (T112.setTop (mkF m 70 #[.val (.int p0), .val (.int p1), .val (.long p2), .second, .val (.long p3), .second, .val (.int p4), .val (.int ia), .val (.int ib), .val (.long na), .second, .val (.long nb), .second, .val (.ref b89), .val (.int kq), .unset, .unset, .val .null, .unset] [(.ref b103)]))
    refine own_go (fun _ k => XS.astore X112.here hx rfl (hb hby at_70) rfl rfl (l' := #[.val (.int p0), .val (.int p1), .val (.long p2), .second, .val (.long p3), .second, .val (.int p4), .val (.int ia), .val (.int ib), .val (.long na), .second, .val (.long nb), .second, .val (.ref b89), .val (.int kq), .unset, .unset, .val (.ref b103), .unset]) rfl k) ?_
    show own_Fin p.tables e below G (T112.setTop (mkF m 72 #[.val (.int p0), .val (.int p1), .val (.long p2), .second, .val (.long p3), .second, .val (.int p4), .val (.int ia), .val (.int ib), .val (.long na), .second, .val (.long nb), .second, .val (.ref b89), .val (.int kq), .unset, .unset, .val (.ref b103), .unset] []))
    refine own_go (fun _ k => XS.aload X112.here hx rfl (hb hby at_72) rfl rfl k) ?_
    show own_Fin p.tables e below G (T112.setTop (mkF m 74 #[.val (.int p0), .val (.int p1), .val (.long p2), .second, .val (.long p3), .second, .val (.int p4), .val (.int ia), .val (.int ib), .val (.long na), .second, .val (.long nb), .second, .val (.ref b89), .val (.int kq), .unset, .unset, .val (.ref b103), .unset] [(.ref b103)]))
    refine own_go (fun _ k => XS.astore X112.here hx rfl (hb hby at_74) rfl rfl (l' := #[.val (.int p0), .val (.int p1), .val (.long p2), .second, .val (.long p3), .second, .val (.int p4), .val (.int ia), .val (.int ib), .val (.long na), .second, .val (.long nb), .second, .val (.ref b89), .val (.int kq), .val (.ref b103), .unset, .val (.ref b103), .unset]) rfl k) ?_
    show own_Fin p.tables e below G (T112.setTop (mkF m 76 #[.val (.int p0), .val (.int p1), .val (.long p2), .second, .val (.long p3), .second, .val (.int p4), .val (.int ia), .val (.int ib), .val (.long na), .second, .val (.long nb), .second, .val (.ref b89), .val (.int kq), .val (.ref b103), .unset, .val (.ref b103), .unset] []))
    refine own_go (fun _ k => XS.iload X112.here hx rfl (hb hby at_76) rfl k) ?_
    show own_Fin p.tables e below G (T112.setTop (mkF m 78 #[.val (.int p0), .val (.int p1), .val (.long p2), .second, .val (.long p3), .second, .val (.int p4), .val (.int ia), .val (.int ib), .val (.long na), .second, .val (.long nb), .second, .val (.ref b89), .val (.int kq), .val (.ref b103), .unset, .val (.ref b103), .unset] [(.int ia)]))
    refine own_go (fun _ k => XS.iload X112.here hx rfl (hb hby at_78) rfl k) ?_
    show own_Fin p.tables e below G (T112.setTop (mkF m 80 #[.val (.int p0), .val (.int p1), .val (.long p2), .second, .val (.long p3), .second, .val (.int p4), .val (.int ia), .val (.int ib), .val (.long na), .second, .val (.long nb), .second, .val (.ref b89), .val (.int kq), .val (.ref b103), .unset, .val (.ref b103), .unset] [(.int ib), (.int ia)]))
    by_cases hc80 : ia = ib
    · refine own_go (fun _ k => XS.icmpNo X112.here hx rfl (hb hby at_80) rfl (Jvm.Free.XT.ii_ne_f hc80) k) ?_
      show own_Fin p.tables e below G (T112.setTop (mkF m 83 #[.val (.int p0), .val (.int p1), .val (.long p2), .second, .val (.long p3), .second, .val (.int p4), .val (.int ia), .val (.int ib), .val (.long na), .second, .val (.long nb), .second, .val (.ref b89), .val (.int kq), .val (.ref b103), .unset, .val (.ref b103), .unset] []))
      refine own_go (fun _ k => XS.lload X112.here hx rfl (hb hby at_83) rfl k) ?_
      show own_Fin p.tables e below G (T112.setTop (mkF m 85 #[.val (.int p0), .val (.int p1), .val (.long p2), .second, .val (.long p3), .second, .val (.int p4), .val (.int ia), .val (.int ib), .val (.long na), .second, .val (.long nb), .second, .val (.ref b89), .val (.int kq), .val (.ref b103), .unset, .val (.ref b103), .unset] [(.long na)]))
      refine own_go (fun _ k => XS.lload X112.here hx rfl (hb hby at_85) rfl k) ?_
      show own_Fin p.tables e below G (T112.setTop (mkF m 87 #[.val (.int p0), .val (.int p1), .val (.long p2), .second, .val (.long p3), .second, .val (.int p4), .val (.int ia), .val (.int ib), .val (.long na), .second, .val (.long nb), .second, .val (.ref b89), .val (.int kq), .val (.ref b103), .unset, .val (.ref b103), .unset] [(.long nb), (.long na)]))
      refine own_go (fun _ k => Jvm.Free.XT.lcmp X112.here hx rfl (hb hby at_87) rfl k) ?_
      show own_Fin p.tables e below G (T112.setTop (mkF m 88 #[.val (.int p0), .val (.int p1), .val (.long p2), .second, .val (.long p3), .second, .val (.int p4), .val (.int ia), .val (.int ib), .val (.long na), .second, .val (.long nb), .second, .val (.ref b89), .val (.int kq), .val (.ref b103), .unset, .val (.ref b103), .unset] [(.int (Jvm.Free.XT.cmpL na nb))]))
      by_cases hc88 : na = nb
      · refine own_go (fun _ k => XS.ifNo X112.here hx rfl (hb hby at_88) rfl (Jvm.Free.XT.ll_ne_f hc88) k) ?_
        show own_Fin p.tables e below G (T112.setTop (mkF m 91 #[.val (.int p0), .val (.int p1), .val (.long p2), .second, .val (.long p3), .second, .val (.int p4), .val (.int ia), .val (.int ib), .val (.long na), .second, .val (.long nb), .second, .val (.ref b89), .val (.int kq), .val (.ref b103), .unset, .val (.ref b103), .unset] []))
        refine own_go (fun _ k => XS.iconst X112.here hx rfl (hb hby at_91)  k) ?_
        show own_Fin p.tables e below G (T112.setTop (mkF m 92 #[.val (.int p0), .val (.int p1), .val (.long p2), .second, .val (.long p3), .second, .val (.int p4), .val (.int ia), .val (.int ib), .val (.long na), .second, .val (.long nb), .second, .val (.ref b89), .val (.int kq), .val (.ref b103), .unset, .val (.ref b103), .unset] [(.int (1 : Int32))]))
        refine own_go (fun _ k => XS.goto X112.here hx rfl (pc0 := 92) (pc' := 96) rfl (hb hby at_92) (by decide) (by decide) k) ?_
        show own_Fin p.tables e below G (T112.setTop (mkF m 96 #[.val (.int p0), .val (.int p1), .val (.long p2), .second, .val (.long p3), .second, .val (.int p4), .val (.int ia), .val (.int ib), .val (.long na), .second, .val (.long nb), .second, .val (.ref b89), .val (.int kq), .val (.ref b103), .unset, .val (.ref b103), .unset] [(.int (1 : Int32))]))
        refine own_go (fun _ k => XS.istore X112.here hx rfl (hb hby at_96) rfl (l' := #[.val (.int p0), .val (.int p1), .val (.long p2), .second, .val (.long p3), .second, .val (.int p4), .val (.int ia), .val (.int ib), .val (.long na), .second, .val (.long nb), .second, .val (.ref b89), .val (.int kq), .val (.ref b103), .val (.int (1 : Int32)), .val (.ref b103), .unset]) rfl k) ?_
        show own_Fin p.tables e below G (T112.setTop (mkF m 98 #[.val (.int p0), .val (.int p1), .val (.long p2), .second, .val (.long p3), .second, .val (.int p4), .val (.int ia), .val (.int ib), .val (.long na), .second, .val (.long nb), .second, .val (.ref b89), .val (.int kq), .val (.ref b103), .val (.int (1 : Int32)), .val (.ref b103), .unset] []))
        refine own_go (fun _ k => XS.goto X112.here hx rfl (pc0 := 98) (pc' := 289) rfl (hb hby at_98) (by decide) (by decide) k) ?_
        show own_Fin p.tables e below G (T112.setTop (mkF m 289 #[.val (.int p0), .val (.int p1), .val (.long p2), .second, .val (.long p3), .second, .val (.int p4), .val (.int ia), .val (.int ib), .val (.long na), .second, .val (.long nb), .second, .val (.ref b89), .val (.int kq), .val (.ref b103), .val (.int (1 : Int32)), .val (.ref b103), .unset] []))
        exact own_kT _ _ _ _ _ (own_mono X112 (by decide) (by decide)) hZ112 hown112 SS112 hkk112 (rfl : T112.heap = T112.heap) N112 O117 b89 b103 _ (own_cls o0 o1 o2 o3 ib) nb E115 F113 F114 E116 Ft112 Fn112 (own_ex1 (by simp only [own_clsI hia hib Fo0 Fo1 Fo2 Fo3]; simp [hc80, hc88]))
      · refine own_go (fun _ k => XS.ifYes X112.here hx rfl (pc0 := 88) (pc' := 95) rfl (hb hby at_88) rfl (Jvm.Free.XT.ll_ne_t hc88) (by decide) (by decide) k) ?_
        show own_Fin p.tables e below G (T112.setTop (mkF m 95 #[.val (.int p0), .val (.int p1), .val (.long p2), .second, .val (.long p3), .second, .val (.int p4), .val (.int ia), .val (.int ib), .val (.long na), .second, .val (.long nb), .second, .val (.ref b89), .val (.int kq), .val (.ref b103), .unset, .val (.ref b103), .unset] []))
        refine own_go (fun _ k => XS.iconst X112.here hx rfl (hb hby at_95)  k) ?_
        show own_Fin p.tables e below G (T112.setTop (mkF m 96 #[.val (.int p0), .val (.int p1), .val (.long p2), .second, .val (.long p3), .second, .val (.int p4), .val (.int ia), .val (.int ib), .val (.long na), .second, .val (.long nb), .second, .val (.ref b89), .val (.int kq), .val (.ref b103), .unset, .val (.ref b103), .unset] [(.int (0 : Int32))]))
        refine own_go (fun _ k => XS.istore X112.here hx rfl (hb hby at_96) rfl (l' := #[.val (.int p0), .val (.int p1), .val (.long p2), .second, .val (.long p3), .second, .val (.int p4), .val (.int ia), .val (.int ib), .val (.long na), .second, .val (.long nb), .second, .val (.ref b89), .val (.int kq), .val (.ref b103), .val (.int (0 : Int32)), .val (.ref b103), .unset]) rfl k) ?_
        show own_Fin p.tables e below G (T112.setTop (mkF m 98 #[.val (.int p0), .val (.int p1), .val (.long p2), .second, .val (.long p3), .second, .val (.int p4), .val (.int ia), .val (.int ib), .val (.long na), .second, .val (.long nb), .second, .val (.ref b89), .val (.int kq), .val (.ref b103), .val (.int (0 : Int32)), .val (.ref b103), .unset] []))
        refine own_go (fun _ k => XS.goto X112.here hx rfl (pc0 := 98) (pc' := 289) rfl (hb hby at_98) (by decide) (by decide) k) ?_
        show own_Fin p.tables e below G (T112.setTop (mkF m 289 #[.val (.int p0), .val (.int p1), .val (.long p2), .second, .val (.long p3), .second, .val (.int p4), .val (.int ia), .val (.int ib), .val (.long na), .second, .val (.long nb), .second, .val (.ref b89), .val (.int kq), .val (.ref b103), .val (.int (0 : Int32)), .val (.ref b103), .unset] []))
        exact own_kT _ _ _ _ _ (own_mono X112 (by decide) (by decide)) hZ112 hown112 SS112 hkk112 (rfl : T112.heap = T112.heap) N112 O117 b89 b103 _ (own_cls o0 o1 o2 o3 ib) nb E115 F113 F114 E116 Ft112 Fn112 (own_ex0 (by simp only [own_clsI hia hib Fo0 Fo1 Fo2 Fo3]; simp [hc80, hc88]))
    · refine own_go (fun _ k => XS.icmpYes X112.here hx rfl (pc0 := 80) (pc' := 95) rfl (hb hby at_80) rfl (Jvm.Free.XT.ii_ne_t hc80) (by decide) (by decide) k) ?_
      show own_Fin p.tables e below G (T112.setTop (mkF m 95 #[.val (.int p0), .val (.int p1), .val (.long p2), .second, .val (.long p3), .second, .val (.int p4), .val (.int ia), .val (.int ib), .val (.long na), .second, .val (.long nb), .second, .val (.ref b89), .val (.int kq), .val (.ref b103), .unset, .val (.ref b103), .unset] []))
      refine own_go (fun _ k => XS.iconst X112.here hx rfl (hb hby at_95)  k) ?_
      show own_Fin p.tables e below G (T112.setTop (mkF m 96 #[.val (.int p0), .val (.int p1), .val (.long p2), .second, .val (.long p3), .second, .val (.int p4), .val (.int ia), .val (.int ib), .val (.long na), .second, .val (.long nb), .second, .val (.ref b89), .val (.int kq), .val (.ref b103), .unset, .val (.ref b103), .unset] [(.int (0 : Int32))]))
      refine own_go (fun _ k => XS.istore X112.here hx rfl (hb hby at_96) rfl (l' := #[.val (.int p0), .val (.int p1), .val (.long p2), .second, .val (.long p3), .second, .val (.int p4), .val (.int ia), .val (.int ib), .val (.long na), .second, .val (.long nb), .second, .val (.ref b89), .val (.int kq), .val (.ref b103), .val (.int (0 : Int32)), .val (.ref b103), .unset]) rfl k) ?_
      show own_Fin p.tables e below G (T112.setTop (mkF m 98 #[.val (.int p0), .val (.int p1), .val (.long p2), .second, .val (.long p3), .second, .val (.int p4), .val (.int ia), .val (.int ib), .val (.long na), .second, .val (.long nb), .second, .val (.ref b89), .val (.int kq), .val (.ref b103), .val (.int (0 : Int32)), .val (.ref b103), .unset] []))
      refine own_go (fun _ k => XS.goto X112.here hx rfl (pc0 := 98) (pc' := 289) rfl (hb hby at_98) (by decide) (by decide) k) ?_
      show own_Fin p.tables e below G (T112.setTop (mkF m 289 #[.val (.int p0), .val (.int p1), .val (.long p2), .second, .val (.long p3), .second, .val (.int p4), .val (.int ia), .val (.int ib), .val (.long na), .second, .val (.long nb), .second, .val (.ref b89), .val (.int kq), .val (.ref b103), .val (.int (0 : Int32)), .val (.ref b103), .unset] []))
      exact own_kT _ _ _ _ _ (own_mono X112 (by decide) (by decide)) hZ112 hown112 SS112 hkk112 (rfl : T112.heap = T112.heap) N112 O117 b89 b103 _ (own_cls o0 o1 o2 o3 ib) nb E115 F113 F114 E116 Ft112 Fn112 (own_ex0 (by simp only [own_clsI hia hib Fo0 Fo1 Fo2 Fo3]; simp [hc80]))
  · refine own_go (fun _ k => XS.ifYes X95.here hx rfl (pc0 := 53) (pc' := 101) rfl (hb hby at_53) rfl (Jvm.Free.XT.i0_ne_t hk0) (by decide) (by decide) k) ?_
    show own_Fin p.tables e below G (T95.setTop (mkF m 101 #[.val (.int p0), .val (.int p1), .val (.long p2), .second, .val (.long p3), .second, .val (.int p4), .val (.int ia), .val (.int ib), .val (.long na), .second, .val (.long nb), .second, .val (.ref b89), .val (.int kq), .unset, .unset, .val .null, .unset] []))
    refine own_go (fun _ k => XS.iload X95.here hx rfl (hb hby at_101) rfl k) ?_
    show own_Fin p.tables e below G (T95.setTop (mkF m 103 #[.val (.int p0), .val (.int p1), .val (.long p2), .second, .val (.long p3), .second, .val (.int p4), .val (.int ia), .val (.int ib), .val (.long na), .second, .val (.long nb), .second, .val (.ref b89), .val (.int kq), .unset, .unset, .val .null, .unset] [(.int kq)]))
    refine own_go (fun _ k => XS.iconst X95.here hx rfl (hb hby at_103)  k) ?_
    show own_Fin p.tables e below G (T95.setTop (mkF m 104 #[.val (.int p0), .val (.int p1), .val (.long p2), .second, .val (.long p3), .second, .val (.int p4), .val (.int ia), .val (.int ib), .val (.long na), .second, .val (.long nb), .second, .val (.ref b89), .val (.int kq), .unset, .unset, .val .null, .unset] [(.int (1 : Int32)), (.int kq)]))
    by_cases hk1 : kq = (1 : Int32)
    · refine own_go (fun _ k => XS.icmpNo X95.here hx rfl (hb hby at_104) rfl (Jvm.Free.XT.ii_ne_f hk1) k) ?_
      show own_Fin p.tables e below G (T95.setTop (mkF m 107 #[.val (.int p0), .val (.int p1), .val (.long p2), .second, .val (.long p3), .second, .val (.int p4), .val (.int ia), .val (.int ib), .val (.long na), .second, .val (.long nb), .second, .val (.ref b89), .val (.int kq), .unset, .unset, .val .null, .unset] []))
      obtain ⟨T118, h118, X118, e118, E118, A118, D118, -, st118⟩ := newO X95 hx hZ95 hown95 (own_at hw 1 rfl) (own_at hw 2 rfl) (own_at hw 3 rfl) (rfl : T95.heap = T95.heap) (g := (mkF m 107 #[.val (.int p0), .val (.int p1), .val (.long p2), .second, .val (.long p3), .second, .val (.int p4), .val (.int ia), .val (.int ib), .val (.long na), .second, .val (.long nb), .second, .val (.ref b89), .val (.int kq), .unset, .unset, .val .null, .unset] [])) rfl (hb hby at_107) (by decide) (by decide)
      obtain ⟨b118, g118⟩ : ∃ z, z = T95.heap.size := ⟨_, rfl⟩
      rw [← g118] at A118 D118 st118
      refine own_go st118 ?_
      have gn_b118 : n0 ≤ b118 := Nat.le_trans (own_size O97) (Nat.le_of_eq g118.symm)
      have ne_b89_b118 : b89 ≠ b118 := Nat.ne_of_lt (Nat.lt_of_lt_of_le E96.lt (Nat.le_of_eq g118.symm))
      have F119 := Ft95.ext E118
      have F120 := Fn95.ext E118
      have E121 := E96.ext E118
      have O122 := O97.ext E118
      have hk123 := Nat.le_trans hkk95 E118.1
      have F124 : Fld Z h118 b118 "com/example/tagwright/tagwright/model/Tag" "tagClass" "Lcom/example/tagwright/tagwright/model/TagClass;" .null := D118 (Or.inr (own_at hw 30 rfl)) (ty := (.object "com/example/tagwright/tagwright/model/TagClass")) (by decide)
      have F125 : Fld Z h118 b118 "com/example/tagwright/tagwright/model/Tag" "number" "J" (.long (0 : Int64)) := D118 (Or.inr (own_at hw 32 rfl)) (ty := .long) (by decide)
      show own_Fin p.tables e below G (T118.setTop (mkF m 110 #[.val (.int p0), .val (.int p1), .val (.long p2), .second, .val (.long p3), .second, .val (.int p4), .val (.int ia), .val (.int ib), .val (.long na), .second, .val (.long nb), .second, .val (.ref b89), .val (.int kq), .unset, .unset, .val .null, .unset] [(.ref b118)]))
      refine own_go (fun _ k => XS.dup X118.here hx rfl (hb hby at_110) rfl rfl k) ?_
      show own_Fin p.tables e below G (T118.setTop (mkF m 111 #[.val (.int p0), .val (.int p1), .val (.long p2), .second, .val (.long p3), .second, .val (.int p4), .val (.int ia), .val (.int ib), .val (.long na), .second, .val (.long nb), .second, .val (.ref b89), .val (.int kq), .unset, .unset, .val .null, .unset] [(.ref b118), (.ref b118)]))
      refine own_go (fun _ k => XS.iload X118.here hx rfl (hb hby at_111) rfl k) ?_
      show own_Fin p.tables e below G (T118.setTop (mkF m 113 #[.val (.int p0), .val (.int p1), .val (.long p2), .second, .val (.long p3), .second, .val (.int p4), .val (.int ia), .val (.int ib), .val (.long na), .second, .val (.long nb), .second, .val (.ref b89), .val (.int kq), .unset, .unset, .val .null, .unset] [(.int ib), (.ref b118), (.ref b118)]))
      obtain ⟨_, _, ⟨T126, L126, k126, n126⟩, -, X126, ⟨Lc126, hQ126, l126, y126, z126⟩, st126⟩ := Jvm.LawKit.callS X118 hx (y := (⟨"com/example/tagwright/tagwright/model/TagEqualsPinLaw", "cls", "(I)Lcom/example/tagwright/tagwright/model/TagClass;"⟩ : MethodName)) hown95 (mvT hZ95 (own_at hw 4 rfl)) (mvT hZ95 (own_at hw 5 rfl)) (mvT hZ95 (own_at hw 6 rfl)) (mvT hZ95 (own_at hw 7 rfl)) (by decide) (backOf (W := 2) (own_c l Z a0 hw [] ib o0 o1 o2 o3 h118 n0 O122 S0 S1 S2 S3) hZ95 (own_at hw 7 rfl) (own_at hw 6 rfl) (by decide) (by decide)) (g := (mkF m 113 #[.val (.int p0), .val (.int p1), .val (.long p2), .second, .val (.long p3), .second, .val (.int p4), .val (.int ia), .val (.int ib), .val (.long na), .second, .val (.long nb), .second, .val (.ref b89), .val (.int kq), .unset, .unset, .val .null, .unset] [(.int ib), (.ref b118), (.ref b118)])) rfl (by rw [hml]; rfl) (argsL := [(.int ib)]) (rest := [(.ref b118), (.ref b118)]) (lenOf own_pd6 rfl) rfl (by show 2 * 0 + _ ≤ _; exact Nat.le_of_eq rfl) (hb hby at_113) (fun _ _ => ⟨rfl, e118, (by decide : 4 + 0 ≤ _), (by decide : 40 + 0 ≤ _)⟩)
      dsimp only [Pt.U, Pt.locs, Pt.cells, Pt.slots] at X126 l126 y126 z126 st126 hQ126
      subst l126 y126 z126
      obtain ⟨rfl, N126q, e126⟩ := hQ126
      have N126 := Fr.app N95 N126q
      refine own_go st126 ?_
      show own_Fin p.tables e below G (T126.setTop (mkF m 116 #[.val (.int p0), .val (.int p1), .val (.long p2), .second, .val (.long p3), .second, .val (.int p4), .val (.int ia), .val (.int ib), .val (.long na), .second, .val (.long nb), .second, .val (.ref b89), .val (.int kq), .unset, .unset, .val .null, .unset] [(.ref (own_cls o0 o1 o2 o3 (ib &&& 3))), (.ref b118), (.ref b118)]))
      rw [own_cls3 hib]
      show own_Fin p.tables e below G (T126.setTop (mkF m 116 #[.val (.int p0), .val (.int p1), .val (.long p2), .second, .val (.long p3), .second, .val (.int p4), .val (.int ia), .val (.int ib), .val (.long na), .second, .val (.long nb), .second, .val (.ref b89), .val (.int kq), .unset, .unset, .val .null, .unset] [(.ref (own_cls o0 o1 o2 o3 ib)), (.ref b118), (.ref b118)]))
      refine own_go (fun _ k => XS.lload X126.here hx rfl (hb hby at_116) rfl k) ?_
      show own_Fin p.tables e below G (T126.setTop (mkF m 118 #[.val (.int p0), .val (.int p1), .val (.long p2), .second, .val (.long p3), .second, .val (.int p4), .val (.int ia), .val (.int ib), .val (.long na), .second, .val (.long nb), .second, .val (.ref b89), .val (.int kq), .unset, .unset, .val .null, .unset] [(.long na), (.ref (own_cls o0 o1 o2 o3 ib)), (.ref b118), (.ref b118)]))
      obtain ⟨_, _, ⟨T127, L127, k127, n127⟩, -, X127, S127, gs127, ⟨Lc127, hQ127, l127, y127, z127⟩, st127⟩ := X126.specialBackS hx (y := (⟨"com/example/tagwright/tagwright/model/Tag", "<init>", "(Lcom/example/tagwright/tagwright/model/TagClass;J)V"⟩ : MethodName)) rfl hown95 (mvT hZ95 (own_at hw 11 rfl)) (mvT hZ95 (own_at hw 12 rfl)) (mvT hZ95 (own_at hw 13 rfl)) (by decide) (backOfS (W := 1) (own_ti l Z a0 hw [] b118 (own_cls o0 o1 o2 o3 ib) na h118 n0 O122 A118 F124 F125 gn_b118 hna) hZ95 (own_at hw 13 rfl) (own_at hw 3 rfl) (by decide) (by decide)) (g := (mkF m 118 #[.val (.int p0), .val (.int p1), .val (.long p2), .second, .val (.long p3), .second, .val (.int p4), .val (.int ia), .val (.int ib), .val (.long na), .second, .val (.long nb), .second, .val (.ref b89), .val (.int kq), .unset, .unset, .val .null, .unset] [(.long na), (.ref (own_cls o0 o1 o2 o3 ib)), (.ref b118), (.ref b118)])) rfl (by rw [hml]; rfl) (Steps.refl _) (a := b118) (argsL := [(.ref (own_cls o0 o1 o2 o3 ib)), (.long na)]) (rest := [(.ref b118)]) (lenOf own_pd7 rfl) rfl (by show 2 * 0 + _ ≤ _; exact Nat.le_of_eq rfl) (hb hby at_118) (fun _ _ => ⟨rfl, e126, (by decide : 4 + 2 ≤ _), (by decide : 40 + 36 ≤ _)⟩)
      dsimp only [Pt.U, Pt.locs, Pt.cells, Pt.slots] at X127 l127 y127 z127 st127 hQ127 S127 gs127
      subst l127 y127 z127
      have SS127 := foldS SS95 (own_hk e126 hk123) S127 gs127
      have hZ127 := own_rebZ hZ95 S127
      have hown127 := own_rebO hown95 S127
      have hkk127 : T127.heap.size ≤ T127.heap.size := Nat.le_refl _
      obtain ⟨rfl, N127q, K127, Ew127, Ft127, Fn127⟩ := hQ127
      have N127 := Fr.app N126 N127q
      have F128 := F119.keep K127 (ninS ne_b89_b118 nin0)
      have F129 := F120.keep K127 (ninS ne_b89_b118 nin0)
      have E130 := E121.keep K127
      have E131 := A118.keep K127
      have O132 := O122.keep K127 (allS gn_b118 all0)
      refine own_go (fun _ k => st127.trans k) ?_
      show own_Fin p.tables e below G (T127.setTop (mkF m 121 #[.val (.int p0), .val (.int p1), .val (.long p2), .second, .val (.long p3), .second, .val (.int p4), .val (.int ia), .val (.int ib), .val (.long na), .second, .val (.long nb), .second, .val (.ref b89), .val (.int kq), .unset, .unset, .val .null, .unset] [(.ref b118)]))
      refine own_go (fun _ k => XS.astore X127.here hx rfl (hb hby at_121) rfl rfl (l' := #[.val (.int p0), .val (.int p1), .val (.long p2), .second, .val (.long p3), .second, .val (.int p4), .val (.int ia), .val (.int ib), .val (.long na), .second, .val (.long nb), .second, .val (.ref b89), .val (.int kq), .unset, .unset, .val (.ref b118), .unset]) rfl k) ?_
      show own_Fin p.tables e below G (T127.setTop (mkF m 123 #[.val (.int p0), .val (.int p1), .val (.long p2), .second, .val (.long p3), .second, .val (.int p4), .val (.int ia), .val (.int ib), .val (.long na), .second, .val (.long nb), .second, .val (.ref b89), .val (.int kq), .unset, .unset, .val (.ref b118), .unset] []))
      refine own_go (fun _ k => XS.aload X127.here hx rfl (hb hby at_123) rfl rfl k) ?_
      show own_Fin p.tables e below G (T127.setTop (mkF m 125 #[.val (.int p0), .val (.int p1), .val (.long p2), .second, .val (.long p3), .second, .val (.int p4), .val (.int ia), .val (.int ib), .val (.long na), .second, .val (.long nb), .second, .val (.ref b89), .val (.int kq), .unset, .unset, .val (.ref b118), .unset] [(.ref b118)]))
      refine own_go (fun _ k => XS.astore X127.here hx rfl (hb hby at_125) rfl rfl (l' := #[.val (.int p0), .val (.int p1), .val (.long p2), .second, .val (.long p3), .second, .val (.int p4), .val (.int ia), .val (.int ib), .val (.long na), .second, .val (.long nb), .second, .val (.ref b89), .val (.int kq), .val (.ref b118), .unset, .val (.ref b118), .unset]) rfl k) ?_
      show own_Fin p.tables e below G (T127.setTop (mkF m 127 #[.val (.int p0), .val (.int p1), .val (.long p2), .second, .val (.long p3), .second, .val (.int p4), .val (.int ia), .val (.int ib), .val (.long na), .second, .val (.long nb), .second, .val (.ref b89), .val (.int kq), .val (.ref b118), .unset, .val (.ref b118), .unset] []))
      refine own_go (fun _ k => XS.iload X127.here hx rfl (hb hby at_127) rfl k) ?_
      show own_Fin p.tables e below G (T127.setTop (mkF m 129 #[.val (.int p0), .val (.int p1), .val (.long p2), .second, .val (.long p3), .second, .val (.int p4), .val (.int ia), .val (.int ib), .val (.long na), .second, .val (.long nb), .second, .val (.ref b89), .val (.int kq), .val (.ref b118), .unset, .val (.ref b118), .unset] [(.int ia)]))
      refine own_go (fun _ k => XS.iload X127.here hx rfl (hb hby at_129) rfl k) ?_
      show own_Fin p.tables e below G (T127.setTop (mkF m 131 #[.val (.int p0), .val (.int p1), .val (.long p2), .second, .val (.long p3), .second, .val (.int p4), .val (.int ia), .val (.int ib), .val (.long na), .second, .val (.long nb), .second, .val (.ref b89), .val (.int kq), .val (.ref b118), .unset, .val (.ref b118), .unset] [(.int ib), (.int ia)]))
      by_cases hc131 : ia = ib
      · refine own_go (fun _ k => XS.icmpNo X127.here hx rfl (hb hby at_131) rfl (Jvm.Free.XT.ii_ne_f hc131) k) ?_
        show own_Fin p.tables e below G (T127.setTop (mkF m 134 #[.val (.int p0), .val (.int p1), .val (.long p2), .second, .val (.long p3), .second, .val (.int p4), .val (.int ia), .val (.int ib), .val (.long na), .second, .val (.long nb), .second, .val (.ref b89), .val (.int kq), .val (.ref b118), .unset, .val (.ref b118), .unset] []))
        refine own_go (fun _ k => XS.iconst X127.here hx rfl (hb hby at_134)  k) ?_
        show own_Fin p.tables e below G (T127.setTop (mkF m 135 #[.val (.int p0), .val (.int p1), .val (.long p2), .second, .val (.long p3), .second, .val (.int p4), .val (.int ia), .val (.int ib), .val (.long na), .second, .val (.long nb), .second, .val (.ref b89), .val (.int kq), .val (.ref b118), .unset, .val (.ref b118), .unset] [(.int (1 : Int32))]))
        refine own_go (fun _ k => XS.goto X127.here hx rfl (pc0 := 135) (pc' := 139) rfl (hb hby at_135) (by decide) (by decide) k) ?_
        show own_Fin p.tables e below G (T127.setTop (mkF m 139 #[.val (.int p0), .val (.int p1), .val (.long p2), .second, .val (.long p3), .second, .val (.int p4), .val (.int ia), .val (.int ib), .val (.long na), .second, .val (.long nb), .second, .val (.ref b89), .val (.int kq), .val (.ref b118), .unset, .val (.ref b118), .unset] [(.int (1 : Int32))]))
        refine own_go (fun _ k => XS.istore X127.here hx rfl (hb hby at_139) rfl (l' := #[.val (.int p0), .val (.int p1), .val (.long p2), .second, .val (.long p3), .second, .val (.int p4), .val (.int ia), .val (.int ib), .val (.long na), .second, .val (.long nb), .second, .val (.ref b89), .val (.int kq), .val (.ref b118), .val (.int (1 : Int32)), .val (.ref b118), .unset]) rfl k) ?_
        show own_Fin p.tables e below G (T127.setTop (mkF m 141 #[.val (.int p0), .val (.int p1), .val (.long p2), .second, .val (.long p3), .second, .val (.int p4), .val (.int ia), .val (.int ib), .val (.long na), .second, .val (.long nb), .second, .val (.ref b89), .val (.int kq), .val (.ref b118), .val (.int (1 : Int32)), .val (.ref b118), .unset] []))
        refine own_go (fun _ k => XS.goto X127.here hx rfl (pc0 := 141) (pc' := 289) rfl (hb hby at_141) (by decide) (by decide) k) ?_
        show own_Fin p.tables e below G (T127.setTop (mkF m 289 #[.val (.int p0), .val (.int p1), .val (.long p2), .second, .val (.long p3), .second, .val (.int p4), .val (.int ia), .val (.int ib), .val (.long na), .second, .val (.long nb), .second, .val (.ref b89), .val (.int kq), .val (.ref b118), .val (.int (1 : Int32)), .val (.ref b118), .unset] []))
        exact own_kT _ _ _ _ _ (own_mono X127 (by decide) (by decide)) hZ127 hown127 SS127 hkk127 (rfl : T127.heap = T127.heap) N127 O132 b89 b118 _ (own_cls o0 o1 o2 o3 ib) na E130 F128 F129 E131 Ft127 Fn127 (own_ex1 (by simp only [own_clsI hia hib Fo0 Fo1 Fo2 Fo3]; simp [hc131]))
      · refine own_go (fun _ k => XS.icmpYes X127.here hx rfl (pc0 := 131) (pc' := 138) rfl (hb hby at_131) rfl (Jvm.Free.XT.ii_ne_t hc131) (by decide) (by decide) k) ?_
        show own_Fin p.tables e below G (T127.setTop (mkF m 138 #[.val (.int p0), .val (.int p1), .val (.long p2), .second, .val (.long p3), .second, .val (.int p4), .val (.int ia), .val (.int ib), .val (.long na), .second, .val (.long nb), .second, .val (.ref b89), .val (.int kq), .val (.ref b118), .unset, .val (.ref b118), .unset] []))
        refine own_go (fun _ k => XS.iconst X127.here hx rfl (hb hby at_138)  k) ?_
        show own_Fin p.tables e below G (T127.setTop (mkF m 139 #[.val (.int p0), .val (.int p1), .val (.long p2), .second, .val (.long p3), .second, .val (.int p4), .val (.int ia), .val (.int ib), .val (.long na), .second, .val (.long nb), .second, .val (.ref b89), .val (.int kq), .val (.ref b118), .unset, .val (.ref b118), .unset] [(.int (0 : Int32))]))
        refine own_go (fun _ k => XS.istore X127.here hx rfl (hb hby at_139) rfl (l' := #[.val (.int p0), .val (.int p1), .val (.long p2), .second, .val (.long p3), .second, .val (.int p4), .val (.int ia), .val (.int ib), .val (.long na), .second, .val (.long nb), .second, .val (.ref b89), .val (.int kq), .val (.ref b118), .val (.int (0 : Int32)), .val (.ref b118), .unset]) rfl k) ?_
        show own_Fin p.tables e below G (T127.setTop (mkF m 141 #[.val (.int p0), .val (.int p1), .val (.long p2), .second, .val (.long p3), .second, .val (.int p4), .val (.int ia), .val (.int ib), .val (.long na), .second, .val (.long nb), .second, .val (.ref b89), .val (.int kq), .val (.ref b118), .val (.int (0 : Int32)), .val (.ref b118), .unset] []))
        refine own_go (fun _ k => XS.goto X127.here hx rfl (pc0 := 141) (pc' := 289) rfl (hb hby at_141) (by decide) (by decide) k) ?_
        show own_Fin p.tables e below G (T127.setTop (mkF m 289 #[.val (.int p0), .val (.int p1), .val (.long p2), .second, .val (.long p3), .second, .val (.int p4), .val (.int ia), .val (.int ib), .val (.long na), .second, .val (.long nb), .second, .val (.ref b89), .val (.int kq), .val (.ref b118), .val (.int (0 : Int32)), .val (.ref b118), .unset] []))
        exact own_kT _ _ _ _ _ (own_mono X127 (by decide) (by decide)) hZ127 hown127 SS127 hkk127 (rfl : T127.heap = T127.heap) N127 O132 b89 b118 _ (own_cls o0 o1 o2 o3 ib) na E130 F128 F129 E131 Ft127 Fn127 (own_ex0 (by simp only [own_clsI hia hib Fo0 Fo1 Fo2 Fo3]; simp [hc131]))
    · refine own_go (fun _ k => XS.icmpYes X95.here hx rfl (pc0 := 104) (pc' := 144) rfl (hb hby at_104) rfl (Jvm.Free.XT.ii_ne_t hk1) (by decide) (by decide) k) ?_
      show own_Fin p.tables e below G (T95.setTop (mkF m 144 #[.val (.int p0), .val (.int p1), .val (.long p2), .second, .val (.long p3), .second, .val (.int p4), .val (.int ia), .val (.int ib), .val (.long na), .second, .val (.long nb), .second, .val (.ref b89), .val (.int kq), .unset, .unset, .val .null, .unset] []))
      refine own_go (fun _ k => XS.iload X95.here hx rfl (hb hby at_144) rfl k) ?_
      show own_Fin p.tables e below G (T95.setTop (mkF m 146 #[.val (.int p0), .val (.int p1), .val (.long p2), .second, .val (.long p3), .second, .val (.int p4), .val (.int ia), .val (.int ib), .val (.long na), .second, .val (.long nb), .second, .val (.ref b89), .val (.int kq), .unset, .unset, .val .null, .unset] [(.int kq)]))
      refine own_go (fun _ k => XS.iconst X95.here hx rfl (hb hby at_146)  k) ?_
      show own_Fin p.tables e below G (T95.setTop (mkF m 147 #[.val (.int p0), .val (.int p1), .val (.long p2), .second, .val (.long p3), .second, .val (.int p4), .val (.int ia), .val (.int ib), .val (.long na), .second, .val (.long nb), .second, .val (.ref b89), .val (.int kq), .unset, .unset, .val .null, .unset] [(.int (2 : Int32)), (.int kq)]))
      by_cases hk2 : kq = (2 : Int32)
      · refine own_go (fun _ k => XS.icmpNo X95.here hx rfl (hb hby at_147) rfl (Jvm.Free.XT.ii_ne_f hk2) k) ?_
        show own_Fin p.tables e below G (T95.setTop (mkF m 150 #[.val (.int p0), .val (.int p1), .val (.long p2), .second, .val (.long p3), .second, .val (.int p4), .val (.int ia), .val (.int ib), .val (.long na), .second, .val (.long nb), .second, .val (.ref b89), .val (.int kq), .unset, .unset, .val .null, .unset] []))
        obtain ⟨T133, h133, X133, e133, E133, A133, D133, -, st133⟩ := newO X95 hx hZ95 hown95 (own_at hw 1 rfl) (own_at hw 2 rfl) (own_at hw 3 rfl) (rfl : T95.heap = T95.heap) (g := (mkF m 150 #[.val (.int p0), .val (.int p1), .val (.long p2), .second, .val (.long p3), .second, .val (.int p4), .val (.int ia), .val (.int ib), .val (.long na), .second, .val (.long nb), .second, .val (.ref b89), .val (.int kq), .unset, .unset, .val .null, .unset] [])) rfl (hb hby at_150) (by decide) (by decide)
        obtain ⟨b133, g133⟩ : ∃ z, z = T95.heap.size := ⟨_, rfl⟩
        rw [← g133] at A133 D133 st133
        refine own_go st133 ?_
        have gn_b133 : n0 ≤ b133 := Nat.le_trans (own_size O97) (Nat.le_of_eq g133.symm)
        have ne_b89_b133 : b89 ≠ b133 := Nat.ne_of_lt (Nat.lt_of_lt_of_le E96.lt (Nat.le_of_eq g133.symm))
        have F134 := Ft95.ext E133
        have F135 := Fn95.ext E133
        have E136 := E96.ext E133
        have O137 := O97.ext E133
        have hk138 := Nat.le_trans hkk95 E133.1
        have F139 : Fld Z h133 b133 "com/example/tagwright/tagwright/model/Tag" "tagClass" "Lcom/example/tagwright/tagwright/model/TagClass;" .null := D133 (Or.inr (own_at hw 30 rfl)) (ty := (.object "com/example/tagwright/tagwright/model/TagClass")) (by decide)
        have F140 : Fld Z h133 b133 "com/example/tagwright/tagwright/model/Tag" "number" "J" (.long (0 : Int64)) := D133 (Or.inr (own_at hw 32 rfl)) (ty := .long) (by decide)
        show own_Fin p.tables e below G (T133.setTop (mkF m 153 #[.val (.int p0), .val (.int p1), .val (.long p2), .second, .val (.long p3), .second, .val (.int p4), .val (.int ia), .val (.int ib), .val (.long na), .second, .val (.long nb), .second, .val (.ref b89), .val (.int kq), .unset, .unset, .val .null, .unset] [(.ref b133)]))
        refine own_go (fun _ k => XS.dup X133.here hx rfl (hb hby at_153) rfl rfl k) ?_
        show own_Fin p.tables e below G (T133.setTop (mkF m 154 #[.val (.int p0), .val (.int p1), .val (.long p2), .second, .val (.long p3), .second, .val (.int p4), .val (.int ia), .val (.int ib), .val (.long na), .second, .val (.long nb), .second, .val (.ref b89), .val (.int kq), .unset, .unset, .val .null, .unset] [(.ref b133), (.ref b133)]))
        refine own_go (fun _ k => XS.iload X133.here hx rfl (hb hby at_154) rfl k) ?_
        show own_Fin p.tables e below G (T133.setTop (mkF m 156 #[.val (.int p0), .val (.int p1), .val (.long p2), .second, .val (.long p3), .second, .val (.int p4), .val (.int ia), .val (.int ib), .val (.long na), .second, .val (.long nb), .second, .val (.ref b89), .val (.int kq), .unset, .unset, .val .null, .unset] [(.int ia), (.ref b133), (.ref b133)]))
        obtain ⟨_, _, ⟨T141, L141, k141, n141⟩, -, X141, ⟨Lc141, hQ141, l141, y141, z141⟩, st141⟩ := Jvm.LawKit.callS X133 hx (y := (⟨"com/example/tagwright/tagwright/model/TagEqualsPinLaw", "cls", "(I)Lcom/example/tagwright/tagwright/model/TagClass;"⟩ : MethodName)) hown95 (mvT hZ95 (own_at hw 4 rfl)) (mvT hZ95 (own_at hw 5 rfl)) (mvT hZ95 (own_at hw 6 rfl)) (mvT hZ95 (own_at hw 7 rfl)) (by decide) (backOf (W := 2) (own_c l Z a0 hw [] ia o0 o1 o2 o3 h133 n0 O137 S0 S1 S2 S3) hZ95 (own_at hw 7 rfl) (own_at hw 6 rfl) (by decide) (by decide)) (g := (mkF m 156 #[.val (.int p0), .val (.int p1), .val (.long p2), .second, .val (.long p3), .second, .val (.int p4), .val (.int ia), .val (.int ib), .val (.long na), .second, .val (.long nb), .second, .val (.ref b89), .val (.int kq), .unset, .unset, .val .null, .unset] [(.int ia), (.ref b133), (.ref b133)])) rfl (by rw [hml]; rfl) (argsL := [(.int ia)]) (rest := [(.ref b133), (.ref b133)]) (lenOf own_pd6 rfl) rfl (by show 2 * 0 + _ ≤ _; exact Nat.le_of_eq rfl) (hb hby at_156) (fun _ _ => ⟨rfl, e133, (by decide : 4 + 0 ≤ _), (by decide : 40 + 0 ≤ _)⟩)
        dsimp only [Pt.U, Pt.locs, Pt.cells, Pt.slots] at X141 l141 y141 z141 st141 hQ141
        subst l141 y141 z141
        obtain ⟨rfl, N141q, e141⟩ := hQ141
        have N141 := Fr.app N95 N141q
        refine own_go st141 ?_
        show own_Fin p.tables e below G (T141.setTop (mkF m 159 #[.val (.int p0), .val (.int p1), .val (.long p2), .second, .val (.long p3), .second, .val (.int p4), .val (.int ia), .val (.int ib), .val (.long na), .second, .val (.long nb), .second, .val (.ref b89), .val (.int kq), .unset, .unset, .val .null, .unset] [(.ref (own_cls o0 o1 o2 o3 (ia &&& 3))), (.ref b133), (.ref b133)]))
        rw [own_cls3 hia]
        show own_Fin p.tables e below G (T141.setTop (mkF m 159 #[.val (.int p0), .val (.int p1), .val (.long p2), .second, .val (.long p3), .second, .val (.int p4), .val (.int ia), .val (.int ib), .val (.long na), .second, .val (.long nb), .second, .val (.ref b89), .val (.int kq), .unset, .unset, .val .null, .unset] [(.ref (own_cls o0 o1 o2 o3 ia)), (.ref b133), (.ref b133)]))
        refine own_go (fun _ k => XS.lload X141.here hx rfl (hb hby at_159) rfl k) ?_
        show own_Fin p.tables e below G (T141.setTop (mkF m 161 #[.val (.int p0), .val (.int p1), .val (.long p2), .second, .val (.long p3), .second, .val (.int p4), .val (.int ia), .val (.int ib), .val (.long na), .second, .val (.long nb), .second, .val (.ref b89), .val (.int kq), .unset, .unset, .val .null, .unset] [(.long nb), (.ref (own_cls o0 o1 o2 o3 ia)), (.ref b133), (.ref b133)]))
        obtain ⟨_, _, ⟨T142, L142, k142, n142⟩, -, X142, S142, gs142, ⟨Lc142, hQ142, l142, y142, z142⟩, st142⟩ := X141.specialBackS hx (y := (⟨"com/example/tagwright/tagwright/model/Tag", "<init>", "(Lcom/example/tagwright/tagwright/model/TagClass;J)V"⟩ : MethodName)) rfl hown95 (mvT hZ95 (own_at hw 11 rfl)) (mvT hZ95 (own_at hw 12 rfl)) (mvT hZ95 (own_at hw 13 rfl)) (by decide) (backOfS (W := 1) (own_ti l Z a0 hw [] b133 (own_cls o0 o1 o2 o3 ia) nb h133 n0 O137 A133 F139 F140 gn_b133 hnb) hZ95 (own_at hw 13 rfl) (own_at hw 3 rfl) (by decide) (by decide)) (g := (mkF m 161 #[.val (.int p0), .val (.int p1), .val (.long p2), .second, .val (.long p3), .second, .val (.int p4), .val (.int ia), .val (.int ib), .val (.long na), .second, .val (.long nb), .second, .val (.ref b89), .val (.int kq), .unset, .unset, .val .null, .unset] [(.long nb), (.ref (own_cls o0 o1 o2 o3 ia)), (.ref b133), (.ref b133)])) rfl (by rw [hml]; rfl) (Steps.refl _) (a := b133) (argsL := [(.ref (own_cls o0 o1 o2 o3 ia)), (.long nb)]) (rest := [(.ref b133)]) (lenOf own_pd7 rfl) rfl (by show 2 * 0 + _ ≤ _; exact Nat.le_of_eq rfl) (hb hby at_161) (fun _ _ => ⟨rfl, e141, (by decide : 4 + 2 ≤ _), (by decide : 40 + 36 ≤ _)⟩)
        dsimp only [Pt.U, Pt.locs, Pt.cells, Pt.slots] at X142 l142 y142 z142 st142 hQ142 S142 gs142
        subst l142 y142 z142
        have SS142 := foldS SS95 (own_hk e141 hk138) S142 gs142
        have hZ142 := own_rebZ hZ95 S142
        have hown142 := own_rebO hown95 S142
        have hkk142 : T142.heap.size ≤ T142.heap.size := Nat.le_refl _
        obtain ⟨rfl, N142q, K142, Ew142, Ft142, Fn142⟩ := hQ142
        have N142 := Fr.app N141 N142q
        have F143 := F134.keep K142 (ninS ne_b89_b133 nin0)
        have F144 := F135.keep K142 (ninS ne_b89_b133 nin0)
        have E145 := E136.keep K142
        have E146 := A133.keep K142
        have O147 := O137.keep K142 (allS gn_b133 all0)
        refine own_go (fun _ k => st142.trans k) ?_
        show own_Fin p.tables e below G (T142.setTop (mkF m 164 #[.val (.int p0), .val (.int p1), .val (.long p2), .second, .val (.long p3), .second, .val (.int p4), .val (.int ia), .val (.int ib), .val (.long na), .second, .val (.long nb), .second, .val (.ref b89), .val (.int kq), .unset, .unset, .val .null, .unset] [(.ref b133)]))
        refine own_go (fun _ k => XS.astore X142.here hx rfl (hb hby at_164) rfl rfl (l' := #[.val (.int p0), .val (.int p1), .val (.long p2), .second, .val (.long p3), .second, .val (.int p4), .val (.int ia), .val (.int ib), .val (.long na), .second, .val (.long nb), .second, .val (.ref b89), .val (.int kq), .unset, .unset, .val (.ref b133), .unset]) rfl k) ?_
        show own_Fin p.tables e below G (T142.setTop (mkF m 166 #[.val (.int p0), .val (.int p1), .val (.long p2), .second, .val (.long p3), .second, .val (.int p4), .val (.int ia), .val (.int ib), .val (.long na), .second, .val (.long nb), .second, .val (.ref b89), .val (.int kq), .unset, .unset, .val (.ref b133), .unset] []))
        refine own_go (fun _ k => XS.aload X142.here hx rfl (hb hby at_166) rfl rfl k) ?_
        show own_Fin p.tables e below G (T142.setTop (mkF m 168 #[.val (.int p0), .val (.int p1), .val (.long p2), .second, .val (.long p3), .second, .val (.int p4), .val (.int ia), .val (.int ib), .val (.long na), .second, .val (.long nb), .second, .val (.ref b89), .val (.int kq), .unset, .unset, .val (.ref b133), .unset] [(.ref b133)]))
        refine own_go (fun _ k => XS.astore X142.here hx rfl (hb hby at_168) rfl rfl (l' := #[.val (.int p0), .val (.int p1), .val (.long p2), .second, .val (.long p3), .second, .val (.int p4), .val (.int ia), .val (.int ib), .val (.long na), .second, .val (.long nb), .second, .val (.ref b89), .val (.int kq), .val (.ref b133), .unset, .val (.ref b133), .unset]) rfl k) ?_
        show own_Fin p.tables e below G (T142.setTop (mkF m 170 #[.val (.int p0), .val (.int p1), .val (.long p2), .second, .val (.long p3), .second, .val (.int p4), .val (.int ia), .val (.int ib), .val (.long na), .second, .val (.long nb), .second, .val (.ref b89), .val (.int kq), .val (.ref b133), .unset, .val (.ref b133), .unset] []))
        refine own_go (fun _ k => XS.lload X142.here hx rfl (hb hby at_170) rfl k) ?_
        show own_Fin p.tables e below G (T142.setTop (mkF m 172 #[.val (.int p0), .val (.int p1), .val (.long p2), .second, .val (.long p3), .second, .val (.int p4), .val (.int ia), .val (.int ib), .val (.long na), .second, .val (.long nb), .second, .val (.ref b89), .val (.int kq), .val (.ref b133), .unset, .val (.ref b133), .unset] [(.long na)]))
        refine own_go (fun _ k => XS.lload X142.here hx rfl (hb hby at_172) rfl k) ?_
        show own_Fin p.tables e below G (T142.setTop (mkF m 174 #[.val (.int p0), .val (.int p1), .val (.long p2), .second, .val (.long p3), .second, .val (.int p4), .val (.int ia), .val (.int ib), .val (.long na), .second, .val (.long nb), .second, .val (.ref b89), .val (.int kq), .val (.ref b133), .unset, .val (.ref b133), .unset] [(.long nb), (.long na)]))
        refine own_go (fun _ k => Jvm.Free.XT.lcmp X142.here hx rfl (hb hby at_174) rfl k) ?_
        show own_Fin p.tables e below G (T142.setTop (mkF m 175 #[.val (.int p0), .val (.int p1), .val (.long p2), .second, .val (.long p3), .second, .val (.int p4), .val (.int ia), .val (.int ib), .val (.long na), .second, .val (.long nb), .second, .val (.ref b89), .val (.int kq), .val (.ref b133), .unset, .val (.ref b133), .unset] [(.int (Jvm.Free.XT.cmpL na nb))]))
        by_cases hc175 : na = nb
        · refine own_go (fun _ k => XS.ifNo X142.here hx rfl (hb hby at_175) rfl (Jvm.Free.XT.ll_ne_f hc175) k) ?_
          show own_Fin p.tables e below G (T142.setTop (mkF m 178 #[.val (.int p0), .val (.int p1), .val (.long p2), .second, .val (.long p3), .second, .val (.int p4), .val (.int ia), .val (.int ib), .val (.long na), .second, .val (.long nb), .second, .val (.ref b89), .val (.int kq), .val (.ref b133), .unset, .val (.ref b133), .unset] []))
          refine own_go (fun _ k => XS.iconst X142.here hx rfl (hb hby at_178)  k) ?_
          show own_Fin p.tables e below G (T142.setTop (mkF m 179 #[.val (.int p0), .val (.int p1), .val (.long p2), .second, .val (.long p3), .second, .val (.int p4), .val (.int ia), .val (.int ib), .val (.long na), .second, .val (.long nb), .second, .val (.ref b89), .val (.int kq), .val (.ref b133), .unset, .val (.ref b133), .unset] [(.int (1 : Int32))]))
          refine own_go (fun _ k => XS.goto X142.here hx rfl (pc0 := 179) (pc' := 183) rfl (hb hby at_179) (by decide) (by decide) k) ?_
          show own_Fin p.tables e below G (T142.setTop (mkF m 183 #[.val (.int p0), .val (.int p1), .val (.long p2), .second, .val (.long p3), .second, .val (.int p4), .val (.int ia), .val (.int ib), .val (.long na), .second, .val (.long nb), .second, .val (.ref b89), .val (.int kq), .val (.ref b133), .unset, .val (.ref b133), .unset] [(.int (1 : Int32))]))
          refine own_go (fun _ k => XS.istore X142.here hx rfl (hb hby at_183) rfl (l' := #[.val (.int p0), .val (.int p1), .val (.long p2), .second, .val (.long p3), .second, .val (.int p4), .val (.int ia), .val (.int ib), .val (.long na), .second, .val (.long nb), .second, .val (.ref b89), .val (.int kq), .val (.ref b133), .val (.int (1 : Int32)), .val (.ref b133), .unset]) rfl k) ?_
          show own_Fin p.tables e below G (T142.setTop (mkF m 185 #[.val (.int p0), .val (.int p1), .val (.long p2), .second, .val (.long p3), .second, .val (.int p4), .val (.int ia), .val (.int ib), .val (.long na), .second, .val (.long nb), .second, .val (.ref b89), .val (.int kq), .val (.ref b133), .val (.int (1 : Int32)), .val (.ref b133), .unset] []))
          refine own_go (fun _ k => XS.goto X142.here hx rfl (pc0 := 185) (pc' := 289) rfl (hb hby at_185) (by decide) (by decide) k) ?_
          show own_Fin p.tables e below G (T142.setTop (mkF m 289 #[.val (.int p0), .val (.int p1), .val (.long p2), .second, .val (.long p3), .second, .val (.int p4), .val (.int ia), .val (.int ib), .val (.long na), .second, .val (.long nb), .second, .val (.ref b89), .val (.int kq), .val (.ref b133), .val (.int (1 : Int32)), .val (.ref b133), .unset] []))
          exact own_kT _ _ _ _ _ (own_mono X142 (by decide) (by decide)) hZ142 hown142 SS142 hkk142 (rfl : T142.heap = T142.heap) N142 O147 b89 b133 _ (own_cls o0 o1 o2 o3 ia) nb E145 F143 F144 E146 Ft142 Fn142 (own_ex1 (by simp only [eq_self_iff_true]; simp [hc175]))
        · refine own_go (fun _ k => XS.ifYes X142.here hx rfl (pc0 := 175) (pc' := 182) rfl (hb hby at_175) rfl (Jvm.Free.XT.ll_ne_t hc175) (by decide) (by decide) k) ?_
          show own_Fin p.tables e below G (T142.setTop (mkF m 182 #[.val (.int p0), .val (.int p1), .val (.long p2), .second, .val (.long p3), .second, .val (.int p4), .val (.int ia), .val (.int ib), .val (.long na), .second, .val (.long nb), .second, .val (.ref b89), .val (.int kq), .val (.ref b133), .unset, .val (.ref b133), .unset] []))
          refine own_go (fun _ k => XS.iconst X142.here hx rfl (hb hby at_182)  k) ?_
          show own_Fin p.tables e below G (T142.setTop (mkF m 183 #[.val (.int p0), .val (.int p1), .val (.long p2), .second, .val (.long p3), .second, .val (.int p4), .val (.int ia), .val (.int ib), .val (.long na), .second, .val (.long nb), .second, .val (.ref b89), .val (.int kq), .val (.ref b133), .unset, .val (.ref b133), .unset] [(.int (0 : Int32))]))
          refine own_go (fun _ k => XS.istore X142.here hx rfl (hb hby at_183) rfl (l' := #[.val (.int p0), .val (.int p1), .val (.long p2), .second, .val (.long p3), .second, .val (.int p4), .val (.int ia), .val (.int ib), .val (.long na), .second, .val (.long nb), .second, .val (.ref b89), .val (.int kq), .val (.ref b133), .val (.int (0 : Int32)), .val (.ref b133), .unset]) rfl k) ?_
          show own_Fin p.tables e below G (T142.setTop (mkF m 185 #[.val (.int p0), .val (.int p1), .val (.long p2), .second, .val (.long p3), .second, .val (.int p4), .val (.int ia), .val (.int ib), .val (.long na), .second, .val (.long nb), .second, .val (.ref b89), .val (.int kq), .val (.ref b133), .val (.int (0 : Int32)), .val (.ref b133), .unset] []))
          refine own_go (fun _ k => XS.goto X142.here hx rfl (pc0 := 185) (pc' := 289) rfl (hb hby at_185) (by decide) (by decide) k) ?_
          show own_Fin p.tables e below G (T142.setTop (mkF m 289 #[.val (.int p0), .val (.int p1), .val (.long p2), .second, .val (.long p3), .second, .val (.int p4), .val (.int ia), .val (.int ib), .val (.long na), .second, .val (.long nb), .second, .val (.ref b89), .val (.int kq), .val (.ref b133), .val (.int (0 : Int32)), .val (.ref b133), .unset] []))
          exact own_kT _ _ _ _ _ (own_mono X142 (by decide) (by decide)) hZ142 hown142 SS142 hkk142 (rfl : T142.heap = T142.heap) N142 O147 b89 b133 _ (own_cls o0 o1 o2 o3 ia) nb E145 F143 F144 E146 Ft142 Fn142 (own_ex0 (by simp only [eq_self_iff_true]; simp [hc175]))
      · refine own_go (fun _ k => XS.icmpYes X95.here hx rfl (pc0 := 147) (pc' := 188) rfl (hb hby at_147) rfl (Jvm.Free.XT.ii_ne_t hk2) (by decide) (by decide) k) ?_
        show own_Fin p.tables e below G (T95.setTop (mkF m 188 #[.val (.int p0), .val (.int p1), .val (.long p2), .second, .val (.long p3), .second, .val (.int p4), .val (.int ia), .val (.int ib), .val (.long na), .second, .val (.long nb), .second, .val (.ref b89), .val (.int kq), .unset, .unset, .val .null, .unset] []))
        refine own_go (fun _ k => XS.iload X95.here hx rfl (hb hby at_188) rfl k) ?_
        show own_Fin p.tables e below G (T95.setTop (mkF m 190 #[.val (.int p0), .val (.int p1), .val (.long p2), .second, .val (.long p3), .second, .val (.int p4), .val (.int ia), .val (.int ib), .val (.long na), .second, .val (.long nb), .second, .val (.ref b89), .val (.int kq), .unset, .unset, .val .null, .unset] [(.int kq)]))
        refine own_go (fun _ k => XS.iconst X95.here hx rfl (hb hby at_190)  k) ?_
        show own_Fin p.tables e below G (T95.setTop (mkF m 191 #[.val (.int p0), .val (.int p1), .val (.long p2), .second, .val (.long p3), .second, .val (.int p4), .val (.int ia), .val (.int ib), .val (.long na), .second, .val (.long nb), .second, .val (.ref b89), .val (.int kq), .unset, .unset, .val .null, .unset] [(.int (3 : Int32)), (.int kq)]))
        by_cases hk3 : kq = (3 : Int32)
        · refine own_go (fun _ k => XS.icmpNo X95.here hx rfl (hb hby at_191) rfl (Jvm.Free.XT.ii_ne_f hk3) k) ?_
          show own_Fin p.tables e below G (T95.setTop (mkF m 194 #[.val (.int p0), .val (.int p1), .val (.long p2), .second, .val (.long p3), .second, .val (.int p4), .val (.int ia), .val (.int ib), .val (.long na), .second, .val (.long nb), .second, .val (.ref b89), .val (.int kq), .unset, .unset, .val .null, .unset] []))
          refine own_go (fun _ k => XS.aload X95.here hx rfl (hb hby at_194) rfl rfl k) ?_
          show own_Fin p.tables e below G (T95.setTop (mkF m 196 #[.val (.int p0), .val (.int p1), .val (.long p2), .second, .val (.long p3), .second, .val (.int p4), .val (.int ia), .val (.int ib), .val (.long na), .second, .val (.long nb), .second, .val (.ref b89), .val (.int kq), .unset, .unset, .val .null, .unset] [(.ref b89)]))
          refine own_go (fun _ k => XS.astore X95.here hx rfl (hb hby at_196) rfl rfl (l' := #[.val (.int p0), .val (.int p1), .val (.long p2), .second, .val (.long p3), .second, .val (.int p4), .val (.int ia), .val (.int ib), .val (.long na), .second, .val (.long nb), .second, .val (.ref b89), .val (.int kq), .unset, .unset, .val (.ref b89), .unset]) rfl k) ?_
          show own_Fin p.tables e below G (T95.setTop (mkF m 198 #[.val (.int p0), .val (.int p1), .val (.long p2), .second, .val (.long p3), .second, .val (.int p4), .val (.int ia), .val (.int ib), .val (.long na), .second, .val (.long nb), .second, .val (.ref b89), .val (.int kq), .unset, .unset, .val (.ref b89), .unset] []))
          refine own_go (fun _ k => XS.aload X95.here hx rfl (hb hby at_198) rfl rfl k) ?_
          show own_Fin p.tables e below G (T95.setTop (mkF m 200 #[.val (.int p0), .val (.int p1), .val (.long p2), .second, .val (.long p3), .second, .val (.int p4), .val (.int ia), .val (.int ib), .val (.long na), .second, .val (.long nb), .second, .val (.ref b89), .val (.int kq), .unset, .unset, .val (.ref b89), .unset] [(.ref b89)]))
          refine own_go (fun _ k => XS.astore X95.here hx rfl (hb hby at_200) rfl rfl (l' := #[.val (.int p0), .val (.int p1), .val (.long p2), .second, .val (.long p3), .second, .val (.int p4), .val (.int ia), .val (.int ib), .val (.long na), .second, .val (.long nb), .second, .val (.ref b89), .val (.int kq), .val (.ref b89), .unset, .val (.ref b89), .unset]) rfl k) ?_
          show own_Fin p.tables e below G (T95.setTop (mkF m 202 #[.val (.int p0), .val (.int p1), .val (.long p2), .second, .val (.long p3), .second, .val (.int p4), .val (.int ia), .val (.int ib), .val (.long na), .second, .val (.long nb), .second, .val (.ref b89), .val (.int kq), .val (.ref b89), .unset, .val (.ref b89), .unset] []))
          refine own_go (fun _ k => XS.iconst X95.here hx rfl (hb hby at_202)  k) ?_
          show own_Fin p.tables e below G (T95.setTop (mkF m 203 #[.val (.int p0), .val (.int p1), .val (.long p2), .second, .val (.long p3), .second, .val (.int p4), .val (.int ia), .val (.int ib), .val (.long na), .second, .val (.long nb), .second, .val (.ref b89), .val (.int kq), .val (.ref b89), .unset, .val (.ref b89), .unset] [(.int (1 : Int32))]))
          refine own_go (fun _ k => XS.istore X95.here hx rfl (hb hby at_203) rfl (l' := #[.val (.int p0), .val (.int p1), .val (.long p2), .second, .val (.long p3), .second, .val (.int p4), .val (.int ia), .val (.int ib), .val (.long na), .second, .val (.long nb), .second, .val (.ref b89), .val (.int kq), .val (.ref b89), .val (.int (1 : Int32)), .val (.ref b89), .unset]) rfl k) ?_
          show own_Fin p.tables e below G (T95.setTop (mkF m 205 #[.val (.int p0), .val (.int p1), .val (.long p2), .second, .val (.long p3), .second, .val (.int p4), .val (.int ia), .val (.int ib), .val (.long na), .second, .val (.long nb), .second, .val (.ref b89), .val (.int kq), .val (.ref b89), .val (.int (1 : Int32)), .val (.ref b89), .unset] []))
          refine own_go (fun _ k => XS.goto X95.here hx rfl (pc0 := 205) (pc' := 289) rfl (hb hby at_205) (by decide) (by decide) k) ?_
          show own_Fin p.tables e below G (T95.setTop (mkF m 289 #[.val (.int p0), .val (.int p1), .val (.long p2), .second, .val (.long p3), .second, .val (.int p4), .val (.int ia), .val (.int ib), .val (.long na), .second, .val (.long nb), .second, .val (.ref b89), .val (.int kq), .val (.ref b89), .val (.int (1 : Int32)), .val (.ref b89), .unset] []))
          exact own_kT _ _ _ _ _ (own_mono X95 (by decide) (by decide)) hZ95 hown95 SS95 hkk95 (rfl : T95.heap = T95.heap) N95 O97 b89 b89 _ (own_cls o0 o1 o2 o3 ia) na E96 Ft95 Fn95 E96 Ft95 Fn95 (own_ex1 (by simp))
        · refine own_go (fun _ k => XS.icmpYes X95.here hx rfl (pc0 := 191) (pc' := 208) rfl (hb hby at_191) rfl (Jvm.Free.XT.ii_ne_t hk3) (by decide) (by decide) k) ?_
          show own_Fin p.tables e below G (T95.setTop (mkF m 208 #[.val (.int p0), .val (.int p1), .val (.long p2), .second, .val (.long p3), .second, .val (.int p4), .val (.int ia), .val (.int ib), .val (.long na), .second, .val (.long nb), .second, .val (.ref b89), .val (.int kq), .unset, .unset, .val .null, .unset] []))
          refine own_go (fun _ k => XS.iload X95.here hx rfl (hb hby at_208) rfl k) ?_
          show own_Fin p.tables e below G (T95.setTop (mkF m 210 #[.val (.int p0), .val (.int p1), .val (.long p2), .second, .val (.long p3), .second, .val (.int p4), .val (.int ia), .val (.int ib), .val (.long na), .second, .val (.long nb), .second, .val (.ref b89), .val (.int kq), .unset, .unset, .val .null, .unset] [(.int kq)]))
          refine own_go (fun _ k => XS.iconst X95.here hx rfl (hb hby at_210)  k) ?_
          show own_Fin p.tables e below G (T95.setTop (mkF m 211 #[.val (.int p0), .val (.int p1), .val (.long p2), .second, .val (.long p3), .second, .val (.int p4), .val (.int ia), .val (.int ib), .val (.long na), .second, .val (.long nb), .second, .val (.ref b89), .val (.int kq), .unset, .unset, .val .null, .unset] [(.int (4 : Int32)), (.int kq)]))
          by_cases hk4 : kq = (4 : Int32)
          · refine own_go (fun _ k => XS.icmpNo X95.here hx rfl (hb hby at_211) rfl (Jvm.Free.XT.ii_ne_f hk4) k) ?_
            show own_Fin p.tables e below G (T95.setTop (mkF m 214 #[.val (.int p0), .val (.int p1), .val (.long p2), .second, .val (.long p3), .second, .val (.int p4), .val (.int ia), .val (.int ib), .val (.long na), .second, .val (.long nb), .second, .val (.ref b89), .val (.int kq), .unset, .unset, .val .null, .unset] []))
            refine own_go (fun _ k => XS.aconstNull X95.here hx rfl (hb hby at_214)  k) ?_
            show own_Fin p.tables e below G (T95.setTop (mkF m 215 #[.val (.int p0), .val (.int p1), .val (.long p2), .second, .val (.long p3), .second, .val (.int p4), .val (.int ia), .val (.int ib), .val (.long na), .second, .val (.long nb), .second, .val (.ref b89), .val (.int kq), .unset, .unset, .val .null, .unset] [.null]))
            refine own_go (fun _ k => XS.astore X95.here hx rfl (hb hby at_215) rfl rfl (l' := #[.val (.int p0), .val (.int p1), .val (.long p2), .second, .val (.long p3), .second, .val (.int p4), .val (.int ia), .val (.int ib), .val (.long na), .second, .val (.long nb), .second, .val (.ref b89), .val (.int kq), .val .null, .unset, .val .null, .unset]) rfl k) ?_
            show own_Fin p.tables e below G (T95.setTop (mkF m 217 #[.val (.int p0), .val (.int p1), .val (.long p2), .second, .val (.long p3), .second, .val (.int p4), .val (.int ia), .val (.int ib), .val (.long na), .second, .val (.long nb), .second, .val (.ref b89), .val (.int kq), .val .null, .unset, .val .null, .unset] []))
            refine own_go (fun _ k => XS.iconst X95.here hx rfl (hb hby at_217)  k) ?_
            show own_Fin p.tables e below G (T95.setTop (mkF m 218 #[.val (.int p0), .val (.int p1), .val (.long p2), .second, .val (.long p3), .second, .val (.int p4), .val (.int ia), .val (.int ib), .val (.long na), .second, .val (.long nb), .second, .val (.ref b89), .val (.int kq), .val .null, .unset, .val .null, .unset] [(.int (0 : Int32))]))
            refine own_go (fun _ k => XS.istore X95.here hx rfl (hb hby at_218) rfl (l' := #[.val (.int p0), .val (.int p1), .val (.long p2), .second, .val (.long p3), .second, .val (.int p4), .val (.int ia), .val (.int ib), .val (.long na), .second, .val (.long nb), .second, .val (.ref b89), .val (.int kq), .val .null, .val (.int (0 : Int32)), .val .null, .unset]) rfl k) ?_
            show own_Fin p.tables e below G (T95.setTop (mkF m 220 #[.val (.int p0), .val (.int p1), .val (.long p2), .second, .val (.long p3), .second, .val (.int p4), .val (.int ia), .val (.int ib), .val (.long na), .second, .val (.long nb), .second, .val (.ref b89), .val (.int kq), .val .null, .val (.int (0 : Int32)), .val .null, .unset] []))
            refine own_go (fun _ k => XS.goto X95.here hx rfl (pc0 := 220) (pc' := 289) rfl (hb hby at_220) (by decide) (by decide) k) ?_
            show own_Fin p.tables e below G (T95.setTop (mkF m 289 #[.val (.int p0), .val (.int p1), .val (.long p2), .second, .val (.long p3), .second, .val (.int p4), .val (.int ia), .val (.int ib), .val (.long na), .second, .val (.long nb), .second, .val (.ref b89), .val (.int kq), .val .null, .val (.int (0 : Int32)), .val .null, .unset] []))
            exact own_k0 _ _ _ _ _ (own_mono X95 (by decide) (by decide)) hZ95 hown95 SS95 hkk95 (rfl : T95.heap = T95.heap) N95 O97 b89 E96
          · refine own_go (fun _ k => XS.icmpYes X95.here hx rfl (pc0 := 211) (pc' := 223) rfl (hb hby at_211) rfl (Jvm.Free.XT.ii_ne_t hk4) (by decide) (by decide) k) ?_
            show own_Fin p.tables e below G (T95.setTop (mkF m 223 #[.val (.int p0), .val (.int p1), .val (.long p2), .second, .val (.long p3), .second, .val (.int p4), .val (.int ia), .val (.int ib), .val (.long na), .second, .val (.long nb), .second, .val (.ref b89), .val (.int kq), .unset, .unset, .val .null, .unset] []))
            refine own_go (fun _ k => XS.iload X95.here hx rfl (hb hby at_223) rfl k) ?_
            show own_Fin p.tables e below G (T95.setTop (mkF m 225 #[.val (.int p0), .val (.int p1), .val (.long p2), .second, .val (.long p3), .second, .val (.int p4), .val (.int ia), .val (.int ib), .val (.long na), .second, .val (.long nb), .second, .val (.ref b89), .val (.int kq), .unset, .unset, .val .null, .unset] [(.int kq)]))
            refine own_go (fun _ k => XS.iconst X95.here hx rfl (hb hby at_225)  k) ?_
            show own_Fin p.tables e below G (T95.setTop (mkF m 226 #[.val (.int p0), .val (.int p1), .val (.long p2), .second, .val (.long p3), .second, .val (.int p4), .val (.int ia), .val (.int ib), .val (.long na), .second, .val (.long nb), .second, .val (.ref b89), .val (.int kq), .unset, .unset, .val .null, .unset] [(.int (5 : Int32)), (.int kq)]))
            by_cases hk5 : kq = (5 : Int32)
            · refine own_go (fun _ k => XS.icmpNo X95.here hx rfl (hb hby at_226) rfl (Jvm.Free.XT.ii_ne_f hk5) k) ?_
              show own_Fin p.tables e below G (T95.setTop (mkF m 229 #[.val (.int p0), .val (.int p1), .val (.long p2), .second, .val (.long p3), .second, .val (.int p4), .val (.int ia), .val (.int ib), .val (.long na), .second, .val (.long nb), .second, .val (.ref b89), .val (.int kq), .unset, .unset, .val .null, .unset] []))
              refine own_go (fun _ k => XS.lload X95.here hx rfl (hb hby at_229) rfl k) ?_
              show own_Fin p.tables e below G (T95.setTop (mkF m 231 #[.val (.int p0), .val (.int p1), .val (.long p2), .second, .val (.long p3), .second, .val (.int p4), .val (.int ia), .val (.int ib), .val (.long na), .second, .val (.long nb), .second, .val (.ref b89), .val (.int kq), .unset, .unset, .val .null, .unset] [(.long na)]))
              obtain ⟨_, _, ⟨T148, L148, k148, n148⟩, -, X148, ⟨Lc148, hQ148, l148, y148, z148⟩, st148⟩ := Jvm.LawKit.callS X95 hx (y := (⟨"java/lang/Long", "valueOf", "(J)Ljava/lang/Long;"⟩ : MethodName)) hown95 (mvT hZ95 (own_at hw 67 rfl)) (mvT hZ95 (own_at hw 68 rfl)) (mvT hZ95 (own_at hw 69 rfl)) (mvT hZ95 (own_at hw 70 rfl)) (by decide) (backOf (W := 0) (own_lvo l Z a0 hw [] na oc cc T95.heap n0 O97 SC BX) hZ95 (own_at hw 70 rfl) (own_at hw 69 rfl) (by decide) (by decide)) (g := (mkF m 231 #[.val (.int p0), .val (.int p1), .val (.long p2), .second, .val (.long p3), .second, .val (.int p4), .val (.int ia), .val (.int ib), .val (.long na), .second, .val (.long nb), .second, .val (.ref b89), .val (.int kq), .unset, .unset, .val .null, .unset] [(.long na)])) rfl (by rw [hml]; rfl) (argsL := [(.long na)]) (rest := []) (lenOf own_pd9 rfl) rfl (by show 2 * 0 + _ ≤ _; exact Nat.le_of_eq rfl) (hb hby at_231) (fun _ _ => ⟨rfl, (rfl : T95.heap = T95.heap), (by decide : 3 + 1 ≤ _), (by decide : 38 + 1 ≤ _)⟩)
              dsimp only [Pt.U, Pt.locs, Pt.cells, Pt.slots] at X148 l148 y148 z148 st148 hQ148
              subst l148 y148 z148
              obtain ⟨b148, rfl, N148q, K148, Ew148⟩ := hQ148
              have N148 := Fr.app N95 N148q
              have F149 := Ft95.keep K148 nin0
              have F150 := Fn95.keep K148 nin0
              have E151 := E96.keep K148
              have O152 := O97.keep K148 all0
              have hk153 := Nat.le_trans hkk95 K148.1
              refine own_go st148 ?_
              show own_Fin p.tables e below G (T148.setTop (mkF m 234 #[.val (.int p0), .val (.int p1), .val (.long p2), .second, .val (.long p3), .second, .val (.int p4), .val (.int ia), .val (.int ib), .val (.long na), .second, .val (.long nb), .second, .val (.ref b89), .val (.int kq), .unset, .unset, .val .null, .unset] [(.ref b148)]))
              refine own_go (fun _ k => XS.astore X148.here hx rfl (hb hby at_234) rfl rfl (l' := #[.val (.int p0), .val (.int p1), .val (.long p2), .second, .val (.long p3), .second, .val (.int p4), .val (.int ia), .val (.int ib), .val (.long na), .second, .val (.long nb), .second, .val (.ref b89), .val (.int kq), .val (.ref b148), .unset, .val .null, .unset]) rfl k) ?_
              show own_Fin p.tables e below G (T148.setTop (mkF m 236 #[.val (.int p0), .val (.int p1), .val (.long p2), .second, .val (.long p3), .second, .val (.int p4), .val (.int ia), .val (.int ib), .val (.long na), .second, .val (.long nb), .second, .val (.ref b89), .val (.int kq), .val (.ref b148), .unset, .val .null, .unset] []))
              refine own_go (fun _ k => XS.iconst X148.here hx rfl (hb hby at_236)  k) ?_
              show own_Fin p.tables e below G (T148.setTop (mkF m 237 #[.val (.int p0), .val (.int p1), .val (.long p2), .second, .val (.long p3), .second, .val (.int p4), .val (.int ia), .val (.int ib), .val (.long na), .second, .val (.long nb), .second, .val (.ref b89), .val (.int kq), .val (.ref b148), .unset, .val .null, .unset] [(.int (0 : Int32))]))
              refine own_go (fun _ k => XS.istore X148.here hx rfl (hb hby at_237) rfl (l' := #[.val (.int p0), .val (.int p1), .val (.long p2), .second, .val (.long p3), .second, .val (.int p4), .val (.int ia), .val (.int ib), .val (.long na), .second, .val (.long nb), .second, .val (.ref b89), .val (.int kq), .val (.ref b148), .val (.int (0 : Int32)), .val .null, .unset]) rfl k) ?_
              show own_Fin p.tables e below G (T148.setTop (mkF m 239 #[.val (.int p0), .val (.int p1), .val (.long p2), .second, .val (.long p3), .second, .val (.int p4), .val (.int ia), .val (.int ib), .val (.long na), .second, .val (.long nb), .second, .val (.ref b89), .val (.int kq), .val (.ref b148), .val (.int (0 : Int32)), .val .null, .unset] []))
              refine own_go (fun _ k => XS.goto X148.here hx rfl (pc0 := 239) (pc' := 289) rfl (hb hby at_239) (by decide) (by decide) k) ?_
              show own_Fin p.tables e below G (T148.setTop (mkF m 289 #[.val (.int p0), .val (.int p1), .val (.long p2), .second, .val (.long p3), .second, .val (.int p4), .val (.int ia), .val (.int ib), .val (.long na), .second, .val (.long nb), .second, .val (.ref b89), .val (.int kq), .val (.ref b148), .val (.int (0 : Int32)), .val .null, .unset] []))
              exact own_kL _ _ _ _ _ (own_mono X148 (by decide) (by decide)) hZ95 hown95 SS95 hk153 (rfl : T148.heap = T148.heap) N148 O152 b89 b148 E151 Ew148
            · refine own_go (fun _ k => XS.icmpYes X95.here hx rfl (pc0 := 226) (pc' := 242) rfl (hb hby at_226) rfl (Jvm.Free.XT.ii_ne_t hk5) (by decide) (by decide) k) ?_
              show own_Fin p.tables e below G (T95.setTop (mkF m 242 #[.val (.int p0), .val (.int p1), .val (.long p2), .second, .val (.long p3), .second, .val (.int p4), .val (.int ia), .val (.int ib), .val (.long na), .second, .val (.long nb), .second, .val (.ref b89), .val (.int kq), .unset, .unset, .val .null, .unset] []))
              refine own_go (fun _ k => XS.iload X95.here hx rfl (hb hby at_242) rfl k) ?_
              show own_Fin p.tables e below G (T95.setTop (mkF m 244 #[.val (.int p0), .val (.int p1), .val (.long p2), .second, .val (.long p3), .second, .val (.int p4), .val (.int ia), .val (.int ib), .val (.long na), .second, .val (.long nb), .second, .val (.ref b89), .val (.int kq), .unset, .unset, .val .null, .unset] [(.int kq)]))
              refine own_go (fun _ k => XS.bipush X95.here hx rfl (hb hby at_244)  k) ?_
              show own_Fin p.tables e below G (T95.setTop (mkF m 246 #[.val (.int p0), .val (.int p1), .val (.long p2), .second, .val (.long p3), .second, .val (.int p4), .val (.int ia), .val (.int ib), .val (.long na), .second, .val (.long nb), .second, .val (.ref b89), .val (.int kq), .unset, .unset, .val .null, .unset] [(.int (6 : Int32)), (.int kq)]))
              by_cases hk6 : kq = (6 : Int32)
              · refine own_go (fun _ k => XS.icmpNo X95.here hx rfl (hb hby at_246) rfl (Jvm.Free.XT.ii_ne_f hk6) k) ?_
                show own_Fin p.tables e below G (T95.setTop (mkF m 249 #[.val (.int p0), .val (.int p1), .val (.long p2), .second, .val (.long p3), .second, .val (.int p4), .val (.int ia), .val (.int ib), .val (.long na), .second, .val (.long nb), .second, .val (.ref b89), .val (.int kq), .unset, .unset, .val .null, .unset] []))
                refine own_go (fun _ k => XS.iloadN X95.here hx rfl (hb hby at_249) rfl k) ?_
                show own_Fin p.tables e below G (T95.setTop (mkF m 250 #[.val (.int p0), .val (.int p1), .val (.long p2), .second, .val (.long p3), .second, .val (.int p4), .val (.int ia), .val (.int ib), .val (.long na), .second, .val (.long nb), .second, .val (.ref b89), .val (.int kq), .unset, .unset, .val .null, .unset] [(.int p0)]))
                refine own_go (fun _ k => XS.sipush X95.here hx rfl (hb hby at_250)  k) ?_
                show own_Fin p.tables e below G (T95.setTop (mkF m 253 #[.val (.int p0), .val (.int p1), .val (.long p2), .second, .val (.long p3), .second, .val (.int p4), .val (.int ia), .val (.int ib), .val (.long na), .second, .val (.long nb), .second, .val (.ref b89), .val (.int kq), .unset, .unset, .val .null, .unset] [(.int (255 : Int32)), (.int p0)]))
                refine own_go (fun _ k => XS.iand X95.here hx rfl (hb hby at_253) rfl k) ?_
                show own_Fin p.tables e below G (T95.setTop (mkF m 254 #[.val (.int p0), .val (.int p1), .val (.long p2), .second, .val (.long p3), .second, .val (.int p4), .val (.int ia), .val (.int ib), .val (.long na), .second, .val (.long nb), .second, .val (.ref b89), .val (.int kq), .unset, .unset, .val .null, .unset] [(.int (p0 &&& (255 : Int32)))]))
                refine own_go (fun _ k => XS.i2c X95.here hx rfl (hb hby at_254) rfl k) ?_
                show own_Fin p.tables e below G (T95.setTop (mkF m 255 #[.val (.int p0), .val (.int p1), .val (.long p2), .second, .val (.long p3), .second, .val (.int p4), .val (.int ia), .val (.int ib), .val (.long na), .second, .val (.long nb), .second, .val (.ref b89), .val (.int kq), .unset, .unset, .val .null, .unset] [(.int ((p0 &&& (255 : Int32)).toUInt32.toUInt16.toUInt32.toInt32))]))
                rw [i2c_mask p0]
                show own_Fin p.tables e below G (T95.setTop (mkF m 255 #[.val (.int p0), .val (.int p1), .val (.long p2), .second, .val (.long p3), .second, .val (.int p4), .val (.int ia), .val (.int ib), .val (.long na), .second, .val (.long nb), .second, .val (.ref b89), .val (.int kq), .unset, .unset, .val .null, .unset] [(.int (p0 &&& 255))]))
                obtain ⟨_, _, ⟨T154, L154, k154, n154⟩, -, X154, ⟨Lc154, hQ154, l154, y154, z154⟩, st154⟩ := Jvm.LawKit.callS X95 hx (y := (⟨"java/lang/String", "valueOf", "(C)Ljava/lang/String;"⟩ : MethodName)) hown95 (mvT hZ95 (own_at hw 44 rfl)) (mvT hZ95 (own_at hw 45 rfl)) (mvT hZ95 (own_at hw 18 rfl)) (mvT hZ95 (own_at hw 46 rfl)) (by decide) (backOf (W := 0) (own_vo l Z a0 hw [] (p0 &&& 255) cs T95.heap n0 O97 SCS hcs (own_le255 p0)) hZ95 (own_at hw 46 rfl) (own_at hw 18 rfl) (by decide) (by decide)) (g := (mkF m 255 #[.val (.int p0), .val (.int p1), .val (.long p2), .second, .val (.long p3), .second, .val (.int p4), .val (.int ia), .val (.int ib), .val (.long na), .second, .val (.long nb), .second, .val (.ref b89), .val (.int kq), .unset, .unset, .val .null, .unset] [(.int (p0 &&& 255))])) rfl (by rw [hml]; rfl) (argsL := [(.int (p0 &&& 255))]) (rest := []) (lenOf own_pd10 rfl) rfl (by show 2 * 0 + _ ≤ _; exact Nat.le_of_eq rfl) (hb hby at_255) (fun _ _ => ⟨rfl, (rfl : T95.heap = T95.heap), (by decide : 3 + 2 ≤ _), (by decide : 38 + 5 ≤ _)⟩)
                dsimp only [Pt.U, Pt.locs, Pt.cells, Pt.slots] at X154 l154 y154 z154 st154 hQ154
                subst l154 y154 z154
                obtain ⟨b154, rfl, N154q, K154, Ew154⟩ := hQ154
                have N154 := Fr.app N95 N154q
                have F155 := Ft95.keep K154 nin0
                have F156 := Fn95.keep K154 nin0
                have E157 := E96.keep K154
                have O158 := O97.keep K154 all0
                have hk159 := Nat.le_trans hkk95 K154.1
                refine own_go st154 ?_
                show own_Fin p.tables e below G (T154.setTop (mkF m 258 #[.val (.int p0), .val (.int p1), .val (.long p2), .second, .val (.long p3), .second, .val (.int p4), .val (.int ia), .val (.int ib), .val (.long na), .second, .val (.long nb), .second, .val (.ref b89), .val (.int kq), .unset, .unset, .val .null, .unset] [(.ref b154)]))
                refine own_go (fun _ k => XS.astore X154.here hx rfl (hb hby at_258) rfl rfl (l' := #[.val (.int p0), .val (.int p1), .val (.long p2), .second, .val (.long p3), .second, .val (.int p4), .val (.int ia), .val (.int ib), .val (.long na), .second, .val (.long nb), .second, .val (.ref b89), .val (.int kq), .val (.ref b154), .unset, .val .null, .unset]) rfl k) ?_
                show own_Fin p.tables e below G (T154.setTop (mkF m 260 #[.val (.int p0), .val (.int p1), .val (.long p2), .second, .val (.long p3), .second, .val (.int p4), .val (.int ia), .val (.int ib), .val (.long na), .second, .val (.long nb), .second, .val (.ref b89), .val (.int kq), .val (.ref b154), .unset, .val .null, .unset] []))
                refine own_go (fun _ k => XS.iconst X154.here hx rfl (hb hby at_260)  k) ?_
                show own_Fin p.tables e below G (T154.setTop (mkF m 261 #[.val (.int p0), .val (.int p1), .val (.long p2), .second, .val (.long p3), .second, .val (.int p4), .val (.int ia), .val (.int ib), .val (.long na), .second, .val (.long nb), .second, .val (.ref b89), .val (.int kq), .val (.ref b154), .unset, .val .null, .unset] [(.int (0 : Int32))]))
                refine own_go (fun _ k => XS.istore X154.here hx rfl (hb hby at_261) rfl (l' := #[.val (.int p0), .val (.int p1), .val (.long p2), .second, .val (.long p3), .second, .val (.int p4), .val (.int ia), .val (.int ib), .val (.long na), .second, .val (.long nb), .second, .val (.ref b89), .val (.int kq), .val (.ref b154), .val (.int (0 : Int32)), .val .null, .unset]) rfl k) ?_
                show own_Fin p.tables e below G (T154.setTop (mkF m 263 #[.val (.int p0), .val (.int p1), .val (.long p2), .second, .val (.long p3), .second, .val (.int p4), .val (.int ia), .val (.int ib), .val (.long na), .second, .val (.long nb), .second, .val (.ref b89), .val (.int kq), .val (.ref b154), .val (.int (0 : Int32)), .val .null, .unset] []))
                refine own_go (fun _ k => XS.goto X154.here hx rfl (pc0 := 263) (pc' := 289) rfl (hb hby at_263) (by decide) (by decide) k) ?_
                show own_Fin p.tables e below G (T154.setTop (mkF m 289 #[.val (.int p0), .val (.int p1), .val (.long p2), .second, .val (.long p3), .second, .val (.int p4), .val (.int ia), .val (.int ib), .val (.long na), .second, .val (.long nb), .second, .val (.ref b89), .val (.int kq), .val (.ref b154), .val (.int (0 : Int32)), .val .null, .unset] []))
                exact own_kS _ _ _ _ _ (own_mono X154 (by decide) (by decide)) hZ95 hown95 SS95 hk159 (rfl : T154.heap = T154.heap) N154 O158 b89 b154 E157 Ew154
              · refine own_go (fun _ k => XS.icmpYes X95.here hx rfl (pc0 := 246) (pc' := 266) rfl (hb hby at_246) rfl (Jvm.Free.XT.ii_ne_t hk6) (by decide) (by decide) k) ?_
                show own_Fin p.tables e below G (T95.setTop (mkF m 266 #[.val (.int p0), .val (.int p1), .val (.long p2), .second, .val (.long p3), .second, .val (.int p4), .val (.int ia), .val (.int ib), .val (.long na), .second, .val (.long nb), .second, .val (.ref b89), .val (.int kq), .unset, .unset, .val .null, .unset] []))
                obtain ⟨T160, h160, X160, e160, E160, A160, D160, -, st160⟩ := newO X95 hx hZ95 hown95 (own_at hw 1 rfl) (own_at hw 2 rfl) (own_at hw 3 rfl) (rfl : T95.heap = T95.heap) (g := (mkF m 266 #[.val (.int p0), .val (.int p1), .val (.long p2), .second, .val (.long p3), .second, .val (.int p4), .val (.int ia), .val (.int ib), .val (.long na), .second, .val (.long nb), .second, .val (.ref b89), .val (.int kq), .unset, .unset, .val .null, .unset] [])) rfl (hb hby at_266) (by decide) (by decide)
                obtain ⟨b160, g160⟩ : ∃ z, z = T95.heap.size := ⟨_, rfl⟩
                rw [← g160] at A160 D160 st160
                refine own_go st160 ?_
                have gn_b160 : n0 ≤ b160 := Nat.le_trans (own_size O97) (Nat.le_of_eq g160.symm)
                have ne_b89_b160 : b89 ≠ b160 := Nat.ne_of_lt (Nat.lt_of_lt_of_le E96.lt (Nat.le_of_eq g160.symm))
                have F161 := Ft95.ext E160
                have F162 := Fn95.ext E160
                have E163 := E96.ext E160
                have O164 := O97.ext E160
                have hk165 := Nat.le_trans hkk95 E160.1
                have F166 : Fld Z h160 b160 "com/example/tagwright/tagwright/model/Tag" "tagClass" "Lcom/example/tagwright/tagwright/model/TagClass;" .null := D160 (Or.inr (own_at hw 30 rfl)) (ty := (.object "com/example/tagwright/tagwright/model/TagClass")) (by decide)
                have F167 : Fld Z h160 b160 "com/example/tagwright/tagwright/model/Tag" "number" "J" (.long (0 : Int64)) := D160 (Or.inr (own_at hw 32 rfl)) (ty := .long) (by decide)
                show own_Fin p.tables e below G (T160.setTop (mkF m 269 #[.val (.int p0), .val (.int p1), .val (.long p2), .second, .val (.long p3), .second, .val (.int p4), .val (.int ia), .val (.int ib), .val (.long na), .second, .val (.long nb), .second, .val (.ref b89), .val (.int kq), .unset, .unset, .val .null, .unset] [(.ref b160)]))
                refine own_go (fun _ k => XS.dup X160.here hx rfl (hb hby at_269) rfl rfl k) ?_
                show own_Fin p.tables e below G (T160.setTop (mkF m 270 #[.val (.int p0), .val (.int p1), .val (.long p2), .second, .val (.long p3), .second, .val (.int p4), .val (.int ia), .val (.int ib), .val (.long na), .second, .val (.long nb), .second, .val (.ref b89), .val (.int kq), .unset, .unset, .val .null, .unset] [(.ref b160), (.ref b160)]))
                refine own_go (fun _ k => XS.iload X160.here hx rfl (hb hby at_270) rfl k) ?_
                show own_Fin p.tables e below G (T160.setTop (mkF m 272 #[.val (.int p0), .val (.int p1), .val (.long p2), .second, .val (.long p3), .second, .val (.int p4), .val (.int ia), .val (.int ib), .val (.long na), .second, .val (.long nb), .second, .val (.ref b89), .val (.int kq), .unset, .unset, .val .null, .unset] [(.int ia), (.ref b160), (.ref b160)]))
                obtain ⟨_, _, ⟨T168, L168, k168, n168⟩, -, X168, ⟨Lc168, hQ168, l168, y168, z168⟩, st168⟩ := Jvm.LawKit.callS X160 hx (y := (⟨"com/example/tagwright/tagwright/model/TagEqualsPinLaw", "cls", "(I)Lcom/example/tagwright/tagwright/model/TagClass;"⟩ : MethodName)) hown95 (mvT hZ95 (own_at hw 4 rfl)) (mvT hZ95 (own_at hw 5 rfl)) (mvT hZ95 (own_at hw 6 rfl)) (mvT hZ95 (own_at hw 7 rfl)) (by decide) (backOf (W := 2) (own_c l Z a0 hw [] ia o0 o1 o2 o3 h160 n0 O164 S0 S1 S2 S3) hZ95 (own_at hw 7 rfl) (own_at hw 6 rfl) (by decide) (by decide)) (g := (mkF m 272 #[.val (.int p0), .val (.int p1), .val (.long p2), .second, .val (.long p3), .second, .val (.int p4), .val (.int ia), .val (.int ib), .val (.long na), .second, .val (.long nb), .second, .val (.ref b89), .val (.int kq), .unset, .unset, .val .null, .unset] [(.int ia), (.ref b160), (.ref b160)])) rfl (by rw [hml]; rfl) (argsL := [(.int ia)]) (rest := [(.ref b160), (.ref b160)]) (lenOf own_pd6 rfl) rfl (by show 2 * 0 + _ ≤ _; exact Nat.le_of_eq rfl) (hb hby at_272) (fun _ _ => ⟨rfl, e160, (by decide : 4 + 0 ≤ _), (by decide : 40 + 0 ≤ _)⟩)
                dsimp only [Pt.U, Pt.locs, Pt.cells, Pt.slots] at X168 l168 y168 z168 st168 hQ168
                subst l168 y168 z168
                obtain ⟨rfl, N168q, e168⟩ := hQ168
                have N168 := Fr.app N95 N168q
                refine own_go st168 ?_
                show own_Fin p.tables e below G (T168.setTop (mkF m 275 #[.val (.int p0), .val (.int p1), .val (.long p2), .second, .val (.long p3), .second, .val (.int p4), .val (.int ia), .val (.int ib), .val (.long na), .second, .val (.long nb), .second, .val (.ref b89), .val (.int kq), .unset, .unset, .val .null, .unset] [(.ref (own_cls o0 o1 o2 o3 (ia &&& 3))), (.ref b160), (.ref b160)]))
                rw [own_cls3 hia]
                show own_Fin p.tables e below G (T168.setTop (mkF m 275 #[.val (.int p0), .val (.int p1), .val (.long p2), .second, .val (.long p3), .second, .val (.int p4), .val (.int ia), .val (.int ib), .val (.long na), .second, .val (.long nb), .second, .val (.ref b89), .val (.int kq), .unset, .unset, .val .null, .unset] [(.ref (own_cls o0 o1 o2 o3 ia)), (.ref b160), (.ref b160)]))
                refine own_go (fun _ k => XS.lload X168.here hx rfl (hb hby at_275) rfl k) ?_
                show own_Fin p.tables e below G (T168.setTop (mkF m 277 #[.val (.int p0), .val (.int p1), .val (.long p2), .second, .val (.long p3), .second, .val (.int p4), .val (.int ia), .val (.int ib), .val (.long na), .second, .val (.long nb), .second, .val (.ref b89), .val (.int kq), .unset, .unset, .val .null, .unset] [(.long na), (.ref (own_cls o0 o1 o2 o3 ia)), (.ref b160), (.ref b160)]))
                obtain ⟨_, _, ⟨T169, L169, k169, n169⟩, -, X169, S169, gs169, ⟨Lc169, hQ169, l169, y169, z169⟩, st169⟩ := X168.specialBackS hx (y := (⟨"com/example/tagwright/tagwright/model/Tag", "<init>", "(Lcom/example/tagwright/tagwright/model/TagClass;J)V"⟩ : MethodName)) rfl hown95 (mvT hZ95 (own_at hw 11 rfl)) (mvT hZ95 (own_at hw 12 rfl)) (mvT hZ95 (own_at hw 13 rfl)) (by decide) (backOfS (W := 1) (own_ti l Z a0 hw [] b160 (own_cls o0 o1 o2 o3 ia) na h160 n0 O164 A160 F166 F167 gn_b160 hna) hZ95 (own_at hw 13 rfl) (own_at hw 3 rfl) (by decide) (by decide)) (g := (mkF m 277 #[.val (.int p0), .val (.int p1), .val (.long p2), .second, .val (.long p3), .second, .val (.int p4), .val (.int ia), .val (.int ib), .val (.long na), .second, .val (.long nb), .second, .val (.ref b89), .val (.int kq), .unset, .unset, .val .null, .unset] [(.long na), (.ref (own_cls o0 o1 o2 o3 ia)), (.ref b160), (.ref b160)])) rfl (by rw [hml]; rfl) (Steps.refl _) (a := b160) (argsL := [(.ref (own_cls o0 o1 o2 o3 ia)), (.long na)]) (rest := [(.ref b160)]) (lenOf own_pd7 rfl) rfl (by show 2 * 0 + _ ≤ _; exact Nat.le_of_eq rfl) (hb hby at_277) (fun _ _ => ⟨rfl, e168, (by decide : 4 + 2 ≤ _), (by decide : 40 + 36 ≤ _)⟩)
                dsimp only [Pt.U, Pt.locs, Pt.cells, Pt.slots] at X169 l169 y169 z169 st169 hQ169 S169 gs169
                subst l169 y169 z169
                have SS169 := foldS SS95 (own_hk e168 hk165) S169 gs169
                have hZ169 := own_rebZ hZ95 S169
                have hown169 := own_rebO hown95 S169
                have hkk169 : T169.heap.size ≤ T169.heap.size := Nat.le_refl _
                obtain ⟨rfl, N169q, K169, Ew169, Ft169, Fn169⟩ := hQ169
                have N169 := Fr.app N168 N169q
                have F170 := F161.keep K169 (ninS ne_b89_b160 nin0)
                have F171 := F162.keep K169 (ninS ne_b89_b160 nin0)
                have E172 := E163.keep K169
                have E173 := A160.keep K169
                have O174 := O164.keep K169 (allS gn_b160 all0)
                refine own_go (fun _ k => st169.trans k) ?_
                show own_Fin p.tables e below G (T169.setTop (mkF m 280 #[.val (.int p0), .val (.int p1), .val (.long p2), .second, .val (.long p3), .second, .val (.int p4), .val (.int ia), .val (.int ib), .val (.long na), .second, .val (.long nb), .second, .val (.ref b89), .val (.int kq), .unset, .unset, .val .null, .unset] [(.ref b160)]))
                refine own_go (fun _ k => XS.astore X169.here hx rfl (hb hby at_280) rfl rfl (l' := #[.val (.int p0), .val (.int p1), .val (.long p2), .second, .val (.long p3), .second, .val (.int p4), .val (.int ia), .val (.int ib), .val (.long na), .second, .val (.long nb), .second, .val (.ref b89), .val (.int kq), .unset, .unset, .val (.ref b160), .unset]) rfl k) ?_
                show own_Fin p.tables e below G (T169.setTop (mkF m 282 #[.val (.int p0), .val (.int p1), .val (.long p2), .second, .val (.long p3), .second, .val (.int p4), .val (.int ia), .val (.int ib), .val (.long na), .second, .val (.long nb), .second, .val (.ref b89), .val (.int kq), .unset, .unset, .val (.ref b160), .unset] []))
                refine own_go (fun _ k => XS.aload X169.here hx rfl (hb hby at_282) rfl rfl k) ?_
                show own_Fin p.tables e below G (T169.setTop (mkF m 284 #[.val (.int p0), .val (.int p1), .val (.long p2), .second, .val (.long p3), .second, .val (.int p4), .val (.int ia), .val (.int ib), .val (.long na), .second, .val (.long nb), .second, .val (.ref b89), .val (.int kq), .unset, .unset, .val (.ref b160), .unset] [(.ref b160)]))
                refine own_go (fun _ k => XS.astore X169.here hx rfl (hb hby at_284) rfl rfl (l' := #[.val (.int p0), .val (.int p1), .val (.long p2), .second, .val (.long p3), .second, .val (.int p4), .val (.int ia), .val (.int ib), .val (.long na), .second, .val (.long nb), .second, .val (.ref b89), .val (.int kq), .val (.ref b160), .unset, .val (.ref b160), .unset]) rfl k) ?_
                show own_Fin p.tables e below G (T169.setTop (mkF m 286 #[.val (.int p0), .val (.int p1), .val (.long p2), .second, .val (.long p3), .second, .val (.int p4), .val (.int ia), .val (.int ib), .val (.long na), .second, .val (.long nb), .second, .val (.ref b89), .val (.int kq), .val (.ref b160), .unset, .val (.ref b160), .unset] []))
                refine own_go (fun _ k => XS.iconst X169.here hx rfl (hb hby at_286)  k) ?_
                show own_Fin p.tables e below G (T169.setTop (mkF m 287 #[.val (.int p0), .val (.int p1), .val (.long p2), .second, .val (.long p3), .second, .val (.int p4), .val (.int ia), .val (.int ib), .val (.long na), .second, .val (.long nb), .second, .val (.ref b89), .val (.int kq), .val (.ref b160), .unset, .val (.ref b160), .unset] [(.int (1 : Int32))]))
                refine own_go (fun _ k => XS.istore X169.here hx rfl (hb hby at_287) rfl (l' := #[.val (.int p0), .val (.int p1), .val (.long p2), .second, .val (.long p3), .second, .val (.int p4), .val (.int ia), .val (.int ib), .val (.long na), .second, .val (.long nb), .second, .val (.ref b89), .val (.int kq), .val (.ref b160), .val (.int (1 : Int32)), .val (.ref b160), .unset]) rfl k) ?_
                show own_Fin p.tables e below G (T169.setTop (mkF m 289 #[.val (.int p0), .val (.int p1), .val (.long p2), .second, .val (.long p3), .second, .val (.int p4), .val (.int ia), .val (.int ib), .val (.long na), .second, .val (.long nb), .second, .val (.ref b89), .val (.int kq), .val (.ref b160), .val (.int (1 : Int32)), .val (.ref b160), .unset] []))
                exact own_kT _ _ _ _ _ (own_mono X169 (by decide) (by decide)) hZ169 hown169 SS169 hkk169 (rfl : T169.heap = T169.heap) N169 O174 b89 b160 _ (own_cls o0 o1 o2 o3 ia) na E172 F170 F171 E173 Ft169 Fn169 (own_ex1 (by simp))
set_option maxRecDepth 65536 in
set_option maxHeartbeats 40000000 in
theorem comes_1 {Post : Tables → Env → Array Value → State → Outcome → State → Prop} (hpost : ∀ tb e args s v u, (limb_1_1.after args s (.returned v) u = true ∧ limb_1_2.after args s (.returned v) u = true ∧ True) → ReturnedEndW s (.returned v) u (Jvm.fieldLocs frame_1_writes args s ++ Jvm.arrayLocs frame_1_arrays args s ++ Jvm.staticLocs frame_1_statics s) 16 1152 → Post tb e args s (.returned v) u) :
    ArmFor flags0 classFile x code maxLocals ret World_1 tables_1 room_1 Calls_1 rest_1 Pre_1 Post := by
  intro l hfl _ _ p e ha hc hk s m args below hf hA hF happ hP
  obtain ⟨hcalls, hrest, hpre⟩ := hP
  obtain ⟨-, -, -, hnamed, -, -, -, hat⟩ := (Spec.applies_iff hf).mp happ
  obtain ⟨hg, hn⟩ := and_e (Cond.before_iff.mp (show (Jvm.Cond.and given_1 narrow_1).before args s = true from hpre))
  obtain ⟨g175, g176⟩ := and_e hg
  obtain ⟨g177, g178⟩ := and_e g176
  obtain ⟨g179, g180⟩ := and_e g178
  obtain ⟨g181, g182⟩ := and_e g180
  obtain ⟨g183, g184⟩ := and_e g182
  obtain ⟨g185, g186⟩ := and_e hn
  obtain ⟨g187, g188⟩ := and_e g186
  obtain ⟨g189, g190⟩ := and_e g188
  obtain ⟨g191, g192⟩ := and_e g190
  obtain ⟨g193, g194⟩ := and_e g192
  obtain ⟨g195, g196⟩ := and_e g194
  obtain ⟨g197, g198⟩ := and_e g196
  obtain ⟨w0, w1, w2, w3, w4, rfl⟩ : ∃ w0 w1 w2 w3 w4 : Value, args = #[w0, w1, w2, w3, w4] := by
    have hs : args.size = 5 := by simpa [Cond.value, given_1] using g175
    obtain ⟨L⟩ := args
    match L, hs with
    | [w0, w1, w2, w3, w4], _ => exact ⟨w0, w1, w2, w3, w4, rfl⟩
  have hw := fun d (hd : d ∈ tables_1) => atoms_spec (ws := Jvm.Cond.code x code maxLocals ret :: tables_1) hat d (List.mem_cons_of_mem _ hd)
  have hfit : Fit s := fun {y c} hc i hi => by
    obtain ⟨ha, rfl⟩ := Array.getElem?_eq_some_iff.mp hc
    have q := List.all_eq_true.mp ((Array.all_eq_true_iff_forall_mem.mp hF) _ (Array.getElem_mem ha)) i (List.mem_range.mpr hi)
    simpa [Array.getElem?_eq_getElem hi] using q
  obtain ⟨hsets, hown0⟩ := atoms_of _ (rest_1_c_eq ▸ (show rest_1_c.before _ s = true from hrest))
  obtain ⟨i0, ei0⟩ := is_v g177
  obtain rfl : w0 = (.int i0) := Option.some.inj ei0
  obtain ⟨i1, ei1⟩ := is_v g179
  obtain rfl : w1 = (.int i1) := Option.some.inj ei1
  obtain ⟨i2, ei2⟩ := isL_v g181
  obtain rfl : w2 = (.long i2) := Option.some.inj ei2
  obtain ⟨i3, ei3⟩ := isL_v g183
  obtain rfl : w3 = (.long i3) := Option.some.inj ei3
  obtain ⟨i4, ei4⟩ := is_v g184
  obtain rfl : w4 = (.int i4) := Option.some.inj ei4
  obtain ⟨o_TagClass_UNIVERSAL, v_TagClass_UNIVERSAL⟩ := exa_v g185
  have E_TagClass_UNIVERSAL := Exa.start v_TagClass_UNIVERSAL g185
  have S_TagClass_UNIVERSAL := Sta.start v_TagClass_UNIVERSAL (Or.inr ⟨(own_at hw 9 rfl), (own_at hw 10 rfl)⟩)
  obtain ⟨o_TagClass_PRIVATE, v_TagClass_PRIVATE⟩ := exa_v g187
  have E_TagClass_PRIVATE := Exa.start v_TagClass_PRIVATE g187
  have S_TagClass_PRIVATE := Sta.start v_TagClass_PRIVATE (Or.inr ⟨(own_at hw 9 rfl), (own_at hw 41 rfl)⟩)
  obtain ⟨o_TagClass_APPLICATION, v_TagClass_APPLICATION⟩ := exa_v g189
  have E_TagClass_APPLICATION := Exa.start v_TagClass_APPLICATION g189
  have S_TagClass_APPLICATION := Sta.start v_TagClass_APPLICATION (Or.inr ⟨(own_at hw 9 rfl), (own_at hw 43 rfl)⟩)
  obtain ⟨o_TagClass_CONTEXT, v_TagClass_CONTEXT⟩ := exa_v g195
  have E_TagClass_CONTEXT := Exa.start v_TagClass_CONTEXT g195
  have S_TagClass_CONTEXT := Sta.start v_TagClass_CONTEXT (Or.inr ⟨(own_at hw 9 rfl), (own_at hw 66 rfl)⟩)
  have F_TagClass_UNIVERSAL_ordinal := Fld.start ((fld_at v_TagClass_UNIVERSAL).symm.trans (own_eqI g191))
  have F_TagClass_PRIVATE_ordinal := Fld.start ((fld_at v_TagClass_PRIVATE).symm.trans (own_eqI g193))
  have F_TagClass_CONTEXT_ordinal := Fld.start ((fld_at v_TagClass_CONTEXT).symm.trans (own_eqI g197))
  have F_TagClass_APPLICATION_ordinal := Fld.start ((fld_at v_TagClass_APPLICATION).symm.trans (own_eqI g198))
  obtain ⟨cs, ecs⟩ := is_v (Cond.before_iff.mp (hsets _ (List.mem_of_getElem? (i := 1) rfl)))
  have SCS := Sta.start ecs (Or.inl (hsets _ (List.mem_of_getElem? (i := 0) rfl)))
  have hcs : ¬ (cs = 0) := own_cs ecs (Cond.before_iff.mp (hsets _ (List.mem_of_getElem? (i := 2) rfl)))
  obtain ⟨oc, eoc⟩ := exa_v (Cond.before_iff.mp (hsets _ (List.mem_of_getElem? (i := 12) rfl)))
  have SC := Sta.start eoc (Or.inl (hsets _ (List.mem_of_getElem? (i := 10) rfl)))
  obtain ⟨cc, Ac⟩ := Arr.start eoc (Cond.before_iff.mp (hsets _ (List.mem_of_getElem? (i := 11) rfl)))
  obtain ⟨lz, ql⟩ := own_len eoc Ac (Cond.before_iff.mp (hsets _ (List.mem_of_getElem? (i := 13) rfl)))
  have BX : Bxs s oc cc "java/lang/Long" "J" (256 : Int32) (fun j => .long (own_lv j)) := Bxs.start (fun idx => eoc) Ac lz ql (by decide) (Cond.before_iff.mp (hsets _ (List.mem_of_getElem? (i := 14) rfl))) (fun X j hj hq => eqv_l (i2l_at (own_sub (idx_at hj))) hq)
  obtain ⟨n, o, h1, h2, h3, _, L, rfl, ⟨rfl, N⟩, hq⟩ := own_law l s _ hw tables_1 i0 i1 i2 i3 i4 o_TagClass_UNIVERSAL o_TagClass_APPLICATION o_TagClass_CONTEXT o_TagClass_PRIVATE oc cc cs s.heap s.heap.size (Old.start s) S_TagClass_UNIVERSAL S_TagClass_APPLICATION S_TagClass_CONTEXT S_TagClass_PRIVATE F_TagClass_UNIVERSAL_ordinal F_TagClass_APPLICATION_ordinal F_TagClass_CONTEXT_ordinal F_TagClass_PRIVATE_ordinal SC BX SCS hcs p e ha hc hk s m _ below hf ((Spec.applies_iff_loose hf).mp happ).1 ⟨rfl, State.Warmed39.refl s, rfl⟩ trivial
  refine ⟨n, _, h1, h2, h3, hpost _ _ _ _ _ _ ⟨Cond.after_iff.mpr rfl, Cond.after_iff.mpr (eq_i res_at (Term.int_eval (1)) rfl), trivial⟩ ⟨hq.1, hq.2.1, hq.2.2.1, (hq.2.2.2.sift fun y hy => Or.inr (N y hy)).mono (by decide) (by decide)⟩⟩
theorem main_1_1 : Claimed_1_1 := comes_1 fun _ _ _ _ _ _ h hF => ⟨h.1, hF⟩
theorem main_1_2 : Claimed_1_2 := comes_1 fun _ _ _ _ _ _ h hF => ⟨h.2.1, hF⟩
end Jvm.Pilot.@@N@@
namespace Jvm.Pilot.@@N@@
open Jvm Jvm.ClassFile Sem Op Lib Jvm.Free Jvm.Stand Jvm.Pilot.@@N@@.Jvm.D
/-! MADE BY PROGRAM (witnessworld.py) out of the Statement's table words and the real class files: 24 classes; the members and pool entries that the words name. The judged class is class 1, her method 2. -/
namespace start1
open Jvm.ClassFile
def u (s : String) : CpInfo := .utf8 (stringToUtf16 s)
/-- a pool by its gaps: so many unusable entries, then the entry; so many at the end -/
def gap : Nat → List CpInfo → List CpInfo
  | 0, r => r
  | n + 1, r => .unusable :: gap n r
def poolList (es : List (Nat × CpInfo)) (last : Nat) : List CpInfo := es.foldr (fun e r => gap e.1 (e.2 :: r)) (gap last [])
def pool (es : List (Nat × CpInfo)) (last : Nat) : Array CpInfo := ⟨poolList es last⟩
def fileOf (pool : Array CpInfo) (this : Nat) (attrs : Array Attribute := #[]) (ms : Array MethodInfo := #[]) (fl : Nat := 33) (sup : Nat := 0) (ifs : Array Nat := #[]) (fds : Array FieldInfo := #[]) : ClassFile where
  minorVersion := 0
  majorVersion := 65
  constantPool := pool
  accessFlags := fl
  thisClass := this
  superClass := sup
  interfaces := ifs
  fields := fds
  methods := ms
  attributes := attrs
def plain (name : String) (sup : Option ClassId) : Class where
  name := name
  kind := .ordinary
  loader := none
  accessFlags := 33
  super := sup
  interfaces := #[]
  cf := none
  fields := #[]
  methods := #[]
  instanceTypes := #[]
  staticTypes := #[]
  resolved := #[]
  callSites := []
  init := .initialized
  statics := none
  mirror := none

def pool0 : Array CpInfo := pool [(5, u "<init>"), (0, u "()V"), (1, .class_ 10), (1, u "java/lang/Object")] 113

def k0c0 : Code := { maxStack := 0, maxLocals := 1, code := object_method_1_code, exceptionTable := #[], attributes := #[] }
def k0m0 : Method := { name := "<init>", desc := "()V", sig := { parameters := [], returnType := none }, accessFlags := 1, code := some k0c0 }
/-- java/lang/Object -/
def k0 : Class := { plain "java/lang/Object" none with
  accessFlags := 33
  interfaces := #[]
  cf := some (fileOf pool0 8 #[] #[{ accessFlags := 1, nameIndex := 5, descriptorIndex := 6, attributes := #[] }] 33 0 #[] #[])
  fields := #[]
  methods := #[k0m0]
  instanceTypes := #[]
  staticTypes := #[]
  resolved := Array.replicate 124 none
  statics := none }

def pool1 : Array CpInfo := pool [(2, .class_ 4), (1, u "java/lang/Object"), (0, u "<init>"), (0, u "()V"), (0, .fieldref 8 9), (0, .class_ 10), (0, .nameAndType 11 12), (0, u "com/example/tagwright/tagwright/model/TagClass"), (0, u "UNIVERSAL"), (0, u "Lcom/example/tagwright/tagwright/model/TagClass;"), (0, .fieldref 8 14), (0, .nameAndType 15 12), (0, u "APPLICATION"), (0, .fieldref 8 17), (0, .nameAndType 18 12), (0, u "CONTEXT"), (0, .fieldref 8 20), (0, .nameAndType 21 12), (0, u "PRIVATE"), (0, .class_ 23), (0, u "java/lang/Long"), (0, .long 9223372036854775807), (1, .class_ 27), (0, u "com/example/tagwright/tagwright/model/Tag"), (0, .methodref 29 30), (0, .class_ 31), (0, .nameAndType 32 33), (0, u "com/example/tagwright/tagwright/model/TagEqualsPinLaw"), (0, u "cls"), (0, u "(I)Lcom/example/tagwright/tagwright/model/TagClass;"), (0, .methodref 26 35), (0, .nameAndType 5 36), (0, u "(Lcom/example/tagwright/tagwright/model/TagClass;J)V"), (0, .methodref 22 38), (0, .nameAndType 39 40), (0, u "valueOf"), (0, u "(J)Ljava/lang/Long;"), (0, .methodref 42 43), (0, .class_ 44), (0, .nameAndType 39 45), (0, u "java/lang/String"), (0, u "(C)Ljava/lang/String;"), (0, .methodref 26 47), (0, .nameAndType 48 49), (0, u "equals"), (0, u "(Ljava/lang/Object;)Z"), (3, u "law"), (0, u "(IIJJI)Z")] 2

def k1m0 : Method := { name := "<init>", desc := "()V", sig := { parameters := [], returnType := none }, accessFlags := 1, code := none }
def k1c1 : Code := { maxStack := 2, maxLocals := 2, code := method_2_code, exceptionTable := #[], attributes := #[] }
def k1m1 : Method := { name := "cls", desc := "(I)Lcom/example/tagwright/tagwright/model/TagClass;", sig := { parameters := [.int], returnType := some (.object "com/example/tagwright/tagwright/model/TagClass") }, accessFlags := 10, code := some k1c1 }
def k1c2 : Code := { maxStack := 5, maxLocals := 19, code := code, exceptionTable := #[], attributes := #[] }
def k1m2 : Method := { name := "law", desc := "(IIJJI)Z", sig := { parameters := [.int, .int, .long, .long, .int], returnType := some .boolean }, accessFlags := 9, code := some k1c2 }
/-- com/example/tagwright/tagwright/model/TagEqualsPinLaw -/
def k1 : Class := { plain "com/example/tagwright/tagwright/model/TagEqualsPinLaw" (some 0) with
  accessFlags := 49
  interfaces := #[]
  cf := some (fileOf pool1 29 #[] #[{ accessFlags := 1, nameIndex := 5, descriptorIndex := 6, attributes := #[] }, { accessFlags := 10, nameIndex := 32, descriptorIndex := 33, attributes := #[] }, { accessFlags := 9, nameIndex := 53, descriptorIndex := 54, attributes := #[] }] 49 2 #[] #[])
  fields := #[]
  methods := #[k1m0, k1m1, k1m2]
  instanceTypes := #[]
  staticTypes := #[]
  resolved := Array.replicate 57 none
  statics := none }

def pool2 : Array CpInfo := pool [(1, .methodref 2 3), (0, .class_ 4), (0, .nameAndType 5 6), (0, u "java/lang/Object"), (0, u "<init>"), (0, u "()V"), (0, .string 8), (0, u "tagClass"), (0, .methodref 10 11), (0, .class_ 12), (0, .nameAndType 13 14), (0, u "java/util/Objects"), (0, u "requireNonNull"), (0, u "(Ljava/lang/Object;Ljava/lang/String;)Ljava/lang/Object;"), (9, .fieldref 25 26), (0, .class_ 27), (0, .nameAndType 8 28), (0, u "com/example/tagwright/tagwright/model/Tag"), (0, u "Lcom/example/tagwright/tagwright/model/TagClass;"), (0, .fieldref 25 30), (0, .nameAndType 31 32), (0, u "number"), (0, u "J"), (19, u "(Lcom/example/tagwright/tagwright/model/TagClass;J)V"), (5, u "equals"), (0, u "(Ljava/lang/Object;)Z")] 22

def k2c0 : Code := { maxStack := 4, maxLocals := 4, code := prog_16_method_1_code, exceptionTable := #[], attributes := #[] }
def k2m0 : Method := { name := "<init>", desc := "(Lcom/example/tagwright/tagwright/model/TagClass;J)V", sig := { parameters := [(.object "com/example/tagwright/tagwright/model/TagClass"), .long], returnType := none }, accessFlags := 1, code := some k2c0 }
def k2c1 : Code := { maxStack := 4, maxLocals := 3, code := prog_16_method_4_code, exceptionTable := #[], attributes := #[] }
def k2m1 : Method := { name := "equals", desc := "(Ljava/lang/Object;)Z", sig := { parameters := [(.object "java/lang/Object")], returnType := some .boolean }, accessFlags := 1, code := some k2c1 }
/-- com/example/tagwright/tagwright/model/Tag -/
def k2 : Class := { plain "com/example/tagwright/tagwright/model/Tag" (some 0) with
  accessFlags := 49
  interfaces := #[]
  cf := some (fileOf pool2 25 #[] #[{ accessFlags := 1, nameIndex := 5, descriptorIndex := 52, attributes := #[] }, { accessFlags := 1, nameIndex := 58, descriptorIndex := 59, attributes := #[] }] 49 2 #[] #[{ accessFlags := 18, nameIndex := 8, descriptorIndex := 28, attributes := #[] }, { accessFlags := 18, nameIndex := 31, descriptorIndex := 32, attributes := #[] }])
  fields := #[{ name := "tagClass", type := (.object "com/example/tagwright/tagwright/model/TagClass"), accessFlags := 18, slot := 0, constantValue := 0 }, { name := "number", type := .long, accessFlags := 18, slot := 1, constantValue := 0 }]
  methods := #[k2m0, k2m1]
  instanceTypes := #[(.object "com/example/tagwright/tagwright/model/TagClass"), .long]
  staticTypes := #[]
  resolved := Array.replicate 82 none
  statics := none }

def pool3 : Array CpInfo := pool [(1, .class_ 2), (0, u "java/lang/constant/Constable"), (0, .class_ 4), (0, u "java/lang/Object")] 6

/-- java/lang/constant/Constable -/
def k3 : Class := { plain "java/lang/constant/Constable" (some 0) with
  accessFlags := 1537
  interfaces := #[]
  cf := some (fileOf pool3 1 #[] #[] 1537 3 #[] #[])
  fields := #[]
  methods := #[]
  instanceTypes := #[]
  staticTypes := #[]
  resolved := Array.replicate 11 none
  statics := none }

def pool4 : Array CpInfo := pool [(1, .class_ 2), (0, u "java/lang/Comparable"), (0, .class_ 4), (0, u "java/lang/Object")] 7

/-- java/lang/Comparable -/
def k4 : Class := { plain "java/lang/Comparable" (some 0) with
  accessFlags := 1537
  interfaces := #[]
  cf := some (fileOf pool4 1 #[] #[] 1537 3 #[] #[])
  fields := #[]
  methods := #[]
  instanceTypes := #[]
  staticTypes := #[]
  resolved := Array.replicate 12 none
  statics := none }

def pool5 : Array CpInfo := pool [(1, .class_ 2), (0, u "java/io/Serializable"), (0, .class_ 4), (0, u "java/lang/Object")] 2

/-- java/io/Serializable -/
def k5 : Class := { plain "java/io/Serializable" (some 0) with
  accessFlags := 1537
  interfaces := #[]
  cf := some (fileOf pool5 1 #[] #[] 1537 3 #[] #[])
  fields := #[]
  methods := #[]
  instanceTypes := #[]
  staticTypes := #[]
  resolved := Array.replicate 7 none
  statics := none }

def pool6 : Array CpInfo := pool [(2, .class_ 4), (1, u "java/lang/Enum"), (0, u "name"), (0, u "Ljava/lang/String;"), (2, u "ordinal"), (0, u "I"), (1, .class_ 14), (1, u "java/lang/Object"), (4, u "hash"), (86, .class_ 108), (1, u "java/lang/Enum$EnumDesc"), (2, .class_ 112), (0, u "java/lang/constant/Constable"), (0, .class_ 114), (0, u "java/lang/Comparable"), (0, .class_ 116), (0, u "java/io/Serializable")] 87

/-- java/lang/Enum -/
def k6 : Class := { plain "java/lang/Enum" (some 0) with
  accessFlags := 1057
  interfaces := #[3, 4, 5]
  cf := some (fileOf pool6 2 #[.nestMembers #[106]] #[] 1057 12 #[111, 113, 115] #[{ accessFlags := 18, nameIndex := 5, descriptorIndex := 6, attributes := #[] }, { accessFlags := 18, nameIndex := 9, descriptorIndex := 10, attributes := #[] }, { accessFlags := 2, nameIndex := 19, descriptorIndex := 10, attributes := #[] }])
  fields := #[{ name := "name", type := (.object "java/lang/String"), accessFlags := 18, slot := 0, constantValue := 0 }, { name := "ordinal", type := .int, accessFlags := 18, slot := 1, constantValue := 0 }, { name := "hash", type := .int, accessFlags := 2, slot := 2, constantValue := 0 }]
  methods := #[]
  instanceTypes := #[(.object "java/lang/String"), .int, .int]
  staticTypes := #[]
  resolved := Array.replicate 204 none
  statics := none }

def pool7 : Array CpInfo := pool [(1, .class_ 2), (0, u "com/example/tagwright/tagwright/model/TagClass"), (2, u "UNIVERSAL"), (0, u "Lcom/example/tagwright/tagwright/model/TagClass;"), (2, u "APPLICATION"), (2, u "CONTEXT"), (2, u "PRIVATE"), (2, u "$VALUES"), (0, u "[Lcom/example/tagwright/tagwright/model/TagClass;"), (6, .class_ 28), (1, u "java/lang/Enum")] 26

/-- com/example/tagwright/tagwright/model/TagClass -/
def k7 : Class := { plain "com/example/tagwright/tagwright/model/TagClass" (some 6) with
  accessFlags := 16433
  interfaces := #[]
  cf := some (fileOf pool7 1 #[] #[] 16433 26 #[] #[{ accessFlags := 16409, nameIndex := 5, descriptorIndex := 6, attributes := #[] }, { accessFlags := 16409, nameIndex := 9, descriptorIndex := 6, attributes := #[] }, { accessFlags := 16409, nameIndex := 12, descriptorIndex := 6, attributes := #[] }, { accessFlags := 16409, nameIndex := 15, descriptorIndex := 6, attributes := #[] }, { accessFlags := 4122, nameIndex := 18, descriptorIndex := 19, attributes := #[] }])
  fields := #[{ name := "UNIVERSAL", type := (.object "com/example/tagwright/tagwright/model/TagClass"), accessFlags := 16409, slot := 0, constantValue := 0 }, { name := "APPLICATION", type := (.object "com/example/tagwright/tagwright/model/TagClass"), accessFlags := 16409, slot := 1, constantValue := 0 }, { name := "CONTEXT", type := (.object "com/example/tagwright/tagwright/model/TagClass"), accessFlags := 16409, slot := 2, constantValue := 0 }, { name := "PRIVATE", type := (.object "com/example/tagwright/tagwright/model/TagClass"), accessFlags := 16409, slot := 3, constantValue := 0 }, { name := "$VALUES", type := (.array (.object "com/example/tagwright/tagwright/model/TagClass")), accessFlags := 4122, slot := 4, constantValue := 0 }]
  methods := #[]
  instanceTypes := #[(.object "java/lang/String"), .int, .int]
  staticTypes := #[(.object "com/example/tagwright/tagwright/model/TagClass"), (.object "com/example/tagwright/tagwright/model/TagClass"), (.object "com/example/tagwright/tagwright/model/TagClass"), (.object "com/example/tagwright/tagwright/model/TagClass"), (.array (.object "com/example/tagwright/tagwright/model/TagClass"))]
  resolved := Array.replicate 55 none
  statics := some 0 }

def pool8 : Array CpInfo := pool [(2, .class_ 4), (1, u "java/lang/CharSequence"), (42, .class_ 48), (0, u "java/lang/CharSequence$1CodePointIterator"), (10, .class_ 60), (0, u "java/lang/CharSequence$1CharIterator"), (5, .class_ 67), (0, u "java/lang/Object")] 63

/-- java/lang/CharSequence -/
def k8 : Class := { plain "java/lang/CharSequence" (some 0) with
  accessFlags := 1537
  interfaces := #[]
  cf := some (fileOf pool8 2 #[.nestMembers #[47, 59]] #[] 1537 66 #[] #[])
  fields := #[]
  methods := #[]
  instanceTypes := #[]
  staticTypes := #[]
  resolved := Array.replicate 131 none
  statics := none }

def pool9 : Array CpInfo := pool [(1, .class_ 2), (0, u "java/lang/constant/ConstantDesc"), (0, .class_ 4), (0, u "java/lang/Object")] 32

/-- java/lang/constant/ConstantDesc -/
def k9 : Class := { plain "java/lang/constant/ConstantDesc" (some 0) with
  accessFlags := 1537
  interfaces := #[]
  cf := some (fileOf pool9 1 #[] #[] 1537 3 #[] #[])
  fields := #[]
  methods := #[]
  instanceTypes := #[]
  staticTypes := #[]
  resolved := Array.replicate 37 none
  statics := none }

def pool10 : Array CpInfo := pool [(1, .methodref 2 3), (0, .class_ 4), (0, .nameAndType 5 6), (0, u "java/lang/Object"), (0, u "<init>"), (0, u "()V"), (2, .fieldref 10 11), (0, .class_ 12), (0, .nameAndType 13 14), (0, u "java/lang/String"), (0, u "value"), (0, u "[B"), (0, .fieldref 10 16), (0, .nameAndType 17 18), (0, u "coder"), (0, u "B"), (2, u "hash"), (0, u "I"), (2, u "hashIsZero"), (0, u "Z"), (11, .fieldref 10 39), (0, .nameAndType 40 26), (0, u "COMPACT_STRINGS"), (12, u "toBytes"), (53, .class_ 109), (1, u "java/lang/StringLatin1"), (99, .methodref 10 210), (0, .nameAndType 5 211), (0, u "([BB)V"), (157, u "(C)Z"), (205, .class_ 576), (0, u "java/lang/CharSequence"), (22, u "CASE_INSENSITIVE_ORDER"), (0, u "Ljava/util/Comparator;"), (181, u "valueOf"), (0, u "(C)Ljava/lang/String;"), (231, .methodref 107 1016), (0, .nameAndType 1017 369), (0, u "canEncode"), (0, .methodref 107 1019), (0, .nameAndType 53 1020), (0, u "(C)[B"), (80, u "serialPersistentFields"), (0, u "[Ljava/io/ObjectStreamField;"), (0, .class_ 1104), (0, u "java/lang/String$CaseInsensitiveComparator"), (1, .class_ 1107), (0, u "java/io/Serializable"), (0, .class_ 1109), (0, u "java/lang/Comparable"), (0, .class_ 1111), (0, u "java/lang/constant/Constable"), (0, .class_ 1113), (0, u "java/lang/constant/ConstantDesc"), (2, u "serialVersionUID"), (0, u "J"), (3, u "REPL"), (0, u "C"), (2, u "LATIN1"), (1, u "UTF16")] 323

def k10m0 : Method := { name := "<init>", desc := "()V", sig := { parameters := [], returnType := none }, accessFlags := 1, code := none }
def k10c1 : Code := { maxStack := 4, maxLocals := 1, code := jdk_42_method_139_code, exceptionTable := #[], attributes := #[] }
def k10m1 : Method := { name := "valueOf", desc := "(C)Ljava/lang/String;", sig := { parameters := [.char], returnType := some (.object "java/lang/String") }, accessFlags := 9, code := some k10c1 }
def k10c2 : Code := { maxStack := 2, maxLocals := 3, code := jdk_42_method_151_code, exceptionTable := #[], attributes := #[] }
def k10m2 : Method := { name := "<init>", desc := "([BB)V", sig := { parameters := [(.array .byte), .byte], returnType := none }, accessFlags := 0, code := some k10c2 }
/-- java/lang/String -/
def k10 : Class := { plain "java/lang/String" (some 0) with
  accessFlags := 49
  interfaces := #[5, 4, 8, 3, 9]
  cf := some (fileOf pool10 10 #[.nestMembers #[1103]] #[{ accessFlags := 1, nameIndex := 5, descriptorIndex := 6, attributes := #[] }, { accessFlags := 9, nameIndex := 782, descriptorIndex := 783, attributes := #[] }, { accessFlags := 0, nameIndex := 5, descriptorIndex := 211, attributes := #[] }] 49 2 #[1106, 1108, 575, 1110, 1112] #[{ accessFlags := 18, nameIndex := 13, descriptorIndex := 14, attributes := #[] }, { accessFlags := 18, nameIndex := 17, descriptorIndex := 18, attributes := #[] }, { accessFlags := 2, nameIndex := 21, descriptorIndex := 22, attributes := #[] }, { accessFlags := 2, nameIndex := 25, descriptorIndex := 26, attributes := #[] }, { accessFlags := 26, nameIndex := 1116, descriptorIndex := 1117, attributes := #[] }, { accessFlags := 24, nameIndex := 40, descriptorIndex := 26, attributes := #[] }, { accessFlags := 26, nameIndex := 1101, descriptorIndex := 1102, attributes := #[] }, { accessFlags := 26, nameIndex := 1121, descriptorIndex := 1122, attributes := #[] }, { accessFlags := 25, nameIndex := 599, descriptorIndex := 600, attributes := #[] }, { accessFlags := 24, nameIndex := 1125, descriptorIndex := 18, attributes := #[] }, { accessFlags := 24, nameIndex := 1127, descriptorIndex := 18, attributes := #[] }])
  fields := #[{ name := "value", type := (.array .byte), accessFlags := 18, slot := 0, constantValue := 0 }, { name := "coder", type := .byte, accessFlags := 18, slot := 1, constantValue := 0 }, { name := "hash", type := .int, accessFlags := 2, slot := 2, constantValue := 0 }, { name := "hashIsZero", type := .boolean, accessFlags := 2, slot := 3, constantValue := 0 }, { name := "serialVersionUID", type := .long, accessFlags := 26, slot := 0, constantValue := 0 }, { name := "COMPACT_STRINGS", type := .boolean, accessFlags := 24, slot := 1, constantValue := 0 }, { name := "serialPersistentFields", type := (.array (.object "java/io/ObjectStreamField")), accessFlags := 26, slot := 2, constantValue := 0 }, { name := "REPL", type := .char, accessFlags := 26, slot := 3, constantValue := 0 }, { name := "CASE_INSENSITIVE_ORDER", type := (.object "java/util/Comparator"), accessFlags := 25, slot := 4, constantValue := 0 }, { name := "LATIN1", type := .byte, accessFlags := 24, slot := 5, constantValue := 0 }, { name := "UTF16", type := .byte, accessFlags := 24, slot := 6, constantValue := 0 }]
  methods := #[k10m0, k10m1, k10m2]
  instanceTypes := #[(.array .byte), .byte, .int, .boolean]
  staticTypes := #[.long, .boolean, (.array (.object "java/io/ObjectStreamField")), .char, (.object "java/util/Comparator"), .byte, .byte]
  resolved := Array.replicate 1451 none
  statics := some 1 }

def pool11 : Array CpInfo := pool [(2, .class_ 4), (1, u "java/lang/Object"), (0, u "<init>"), (0, u "()V"), (35, .class_ 44), (1, u "java/util/Objects"), (0, u "requireNonNull"), (48, u "(Ljava/lang/Object;Ljava/lang/String;)Ljava/lang/Object;")] 89

def k11m0 : Method := { name := "<init>", desc := "()V", sig := { parameters := [], returnType := none }, accessFlags := 2, code := none }
def k11c1 : Code := { maxStack := 3, maxLocals := 2, code := jdk_31_method_11_code, exceptionTable := #[], attributes := #[] }
def k11m1 : Method := { name := "requireNonNull", desc := "(Ljava/lang/Object;Ljava/lang/String;)Ljava/lang/Object;", sig := { parameters := [(.object "java/lang/Object"), (.object "java/lang/String")], returnType := some (.object "java/lang/Object") }, accessFlags := 9, code := some k11c1 }
/-- java/util/Objects -/
def k11 : Class := { plain "java/util/Objects" (some 0) with
  accessFlags := 49
  interfaces := #[]
  cf := some (fileOf pool11 42 #[] #[{ accessFlags := 2, nameIndex := 5, descriptorIndex := 6, attributes := #[] }, { accessFlags := 9, nameIndex := 45, descriptorIndex := 94, attributes := #[] }] 49 2 #[] #[])
  fields := #[]
  methods := #[k11m0, k11m1]
  instanceTypes := #[]
  staticTypes := #[]
  resolved := Array.replicate 184 none
  statics := none }

def pool12 : Array CpInfo := pool [(4, .class_ 6), (1, u "java/lang/Object"), (0, u "<init>"), (0, u "()V"), (5, .class_ 16), (1, u "java/lang/StringLatin1"), (73, u "canEncode"), (14, u "(C)Z"), (15, u "$assertionsDisabled"), (0, u "Z"), (98, .class_ 223), (1, u "java/lang/StringLatin1$LinesSpliterator"), (156, u "toBytes"), (1, u "(C)[B"), (7, .class_ 391), (0, u "java/lang/StringLatin1$CharsSpliterator")] 3

def k12m0 : Method := { name := "<init>", desc := "()V", sig := { parameters := [], returnType := none }, accessFlags := 0, code := none }
def k12c1 : Code := { maxStack := 2, maxLocals := 1, code := jdk_43_method_3_code, exceptionTable := #[], attributes := #[] }
def k12m1 : Method := { name := "canEncode", desc := "(C)Z", sig := { parameters := [.char], returnType := some .boolean }, accessFlags := 9, code := some k12c1 }
def k12c2 : Code := { maxStack := 4, maxLocals := 1, code := jdk_43_method_46_code, exceptionTable := #[], attributes := #[] }
def k12m2 : Method := { name := "toBytes", desc := "(C)[B", sig := { parameters := [.char], returnType := some (.array .byte) }, accessFlags := 9, code := some k12c2 }
/-- java/lang/StringLatin1 -/
def k12 : Class := { plain "java/lang/StringLatin1" (some 0) with
  accessFlags := 48
  interfaces := #[]
  cf := some (fileOf pool12 14 #[.nestMembers #[390, 221]] #[{ accessFlags := 0, nameIndex := 7, descriptorIndex := 8, attributes := #[] }, { accessFlags := 9, nameIndex := 90, descriptorIndex := 105, attributes := #[] }, { accessFlags := 9, nameIndex := 380, descriptorIndex := 382, attributes := #[] }] 48 4 #[] #[{ accessFlags := 4120, nameIndex := 121, descriptorIndex := 122, attributes := #[] }])
  fields := #[{ name := "$assertionsDisabled", type := .boolean, accessFlags := 4120, slot := 0, constantValue := 0 }]
  methods := #[k12m0, k12m1, k12m2]
  instanceTypes := #[]
  staticTypes := #[.boolean]
  resolved := Array.replicate 395 none
  statics := none }

def pool13 : Array CpInfo := pool [(1, .methodref 2 3), (0, .class_ 4), (0, .nameAndType 5 6), (0, u "java/lang/Object"), (0, u "<init>"), (0, u "()V"), (1, .class_ 10), (1, u "java/lang/Number"), (2, .class_ 14), (0, u "java/io/Serializable"), (0, u "serialVersionUID"), (0, u "J")] 20

def k13c0 : Code := { maxStack := 1, maxLocals := 1, code := jdk_18_method_1_code, exceptionTable := #[], attributes := #[] }
def k13m0 : Method := { name := "<init>", desc := "()V", sig := { parameters := [], returnType := none }, accessFlags := 1, code := some k13c0 }
/-- java/lang/Number -/
def k13 : Class := { plain "java/lang/Number" (some 0) with
  accessFlags := 1057
  interfaces := #[5]
  cf := some (fileOf pool13 8 #[] #[{ accessFlags := 1, nameIndex := 5, descriptorIndex := 6, attributes := #[] }] 1057 2 #[13] #[{ accessFlags := 26, nameIndex := 15, descriptorIndex := 16, attributes := #[] }])
  fields := #[{ name := "serialVersionUID", type := .long, accessFlags := 26, slot := 0, constantValue := 0 }]
  methods := #[k13m0]
  instanceTypes := #[]
  staticTypes := #[.long]
  resolved := Array.replicate 37 none
  statics := none }

def pool14 : Array CpInfo := pool [(1, .class_ 2), (0, u "java/lang/Long"), (55, .nameAndType 59 60), (0, u "<init>"), (0, u "()V"), (24, u "valueOf"), (143, u "(J)Ljava/lang/Long;"), (0, .long 18446744073709551488), (1, .long 127), (1, .fieldref 235 236), (0, .class_ 237), (0, .nameAndType 238 239), (0, u "java/lang/Long$LongCache"), (0, u "cache"), (0, u "[Ljava/lang/Long;"), (0, .methodref 1 241), (0, .nameAndType 59 242), (0, u "(J)V"), (27, .methodref 271 58), (0, .class_ 272), (0, u "java/lang/Number"), (0, .fieldref 1 274), (0, .nameAndType 275 276), (0, u "value"), (0, u "J"), (84, u "TYPE"), (0, u "Ljava/lang/Class;"), (0, .class_ 364), (0, u "java/lang/Comparable"), (0, .class_ 366), (0, u "java/lang/constant/Constable"), (0, .class_ 368), (0, u "java/lang/constant/ConstantDesc"), (0, u "MIN_VALUE"), (1, u "MAX_VALUE"), (4, u "SIZE"), (0, u "I"), (1, u "BYTES"), (1, u "serialVersionUID")] 142

def k14c0 : Code := { maxStack := 4, maxLocals := 3, code := jdk_35_method_24_code, exceptionTable := #[], attributes := #[] }
def k14m0 : Method := { name := "valueOf", desc := "(J)Ljava/lang/Long;", sig := { parameters := [.long], returnType := some (.object "java/lang/Long") }, accessFlags := 9, code := some k14c0 }
def k14c1 : Code := { maxStack := 3, maxLocals := 3, code := jdk_35_method_26_code, exceptionTable := #[], attributes := #[] }
def k14m1 : Method := { name := "<init>", desc := "(J)V", sig := { parameters := [.long], returnType := none }, accessFlags := 1, code := some k14c1 }
/-- java/lang/Long -/
def k14 : Class := { plain "java/lang/Long" (some 13) with
  accessFlags := 49
  interfaces := #[4, 3, 9]
  cf := some (fileOf pool14 1 #[.nestMembers #[235]] #[{ accessFlags := 9, nameIndex := 85, descriptorIndex := 229, attributes := #[] }, { accessFlags := 1, nameIndex := 59, descriptorIndex := 242, attributes := #[] }] 49 271 #[363, 365, 367] #[{ accessFlags := 25, nameIndex := 369, descriptorIndex := 276, attributes := #[] }, { accessFlags := 25, nameIndex := 371, descriptorIndex := 276, attributes := #[] }, { accessFlags := 25, nameIndex := 361, descriptorIndex := 362, attributes := #[] }, { accessFlags := 18, nameIndex := 275, descriptorIndex := 276, attributes := #[] }, { accessFlags := 25, nameIndex := 376, descriptorIndex := 377, attributes := #[] }, { accessFlags := 25, nameIndex := 379, descriptorIndex := 377, attributes := #[] }, { accessFlags := 26, nameIndex := 381, descriptorIndex := 276, attributes := #[] }])
  fields := #[{ name := "MIN_VALUE", type := .long, accessFlags := 25, slot := 0, constantValue := 0 }, { name := "MAX_VALUE", type := .long, accessFlags := 25, slot := 1, constantValue := 0 }, { name := "TYPE", type := (.object "java/lang/Class"), accessFlags := 25, slot := 2, constantValue := 0 }, { name := "value", type := .long, accessFlags := 18, slot := 0, constantValue := 0 }, { name := "SIZE", type := .int, accessFlags := 25, slot := 3, constantValue := 0 }, { name := "BYTES", type := .int, accessFlags := 25, slot := 4, constantValue := 0 }, { name := "serialVersionUID", type := .long, accessFlags := 26, slot := 5, constantValue := 0 }]
  methods := #[k14m0, k14m1]
  instanceTypes := #[.long]
  staticTypes := #[.long, .long, (.object "java/lang/Class"), .int, .int, .long]
  resolved := Array.replicate 524 none
  statics := none }

def pool15 : Array CpInfo := pool [(2, .class_ 4), (1, u "java/lang/Object"), (0, u "<init>"), (0, u "()V"), (0, .class_ 8), (0, u "java/lang/Long"), (7, .class_ 18), (1, u "java/lang/Long$LongCache"), (0, u "$assertionsDisabled"), (0, u "Z"), (8, u "archivedCache"), (0, u "[Ljava/lang/Long;"), (7, u "cache")] 24

def k15m0 : Method := { name := "<init>", desc := "()V", sig := { parameters := [], returnType := none }, accessFlags := 2, code := none }
/-- java/lang/Long$LongCache -/
def k15 : Class := { plain "java/lang/Long$LongCache" (some 0) with
  accessFlags := 48
  interfaces := #[]
  cf := some (fileOf pool15 16 #[.nestHost 7] #[{ accessFlags := 2, nameIndex := 5, descriptorIndex := 6, attributes := #[] }] 48 2 #[] #[{ accessFlags := 24, nameIndex := 38, descriptorIndex := 30, attributes := #[] }, { accessFlags := 8, nameIndex := 29, descriptorIndex := 30, attributes := #[] }, { accessFlags := 4120, nameIndex := 19, descriptorIndex := 20, attributes := #[] }])
  fields := #[{ name := "cache", type := (.array (.object "java/lang/Long")), accessFlags := 24, slot := 0, constantValue := 0 }, { name := "archivedCache", type := (.array (.object "java/lang/Long")), accessFlags := 8, slot := 1, constantValue := 0 }, { name := "$assertionsDisabled", type := .boolean, accessFlags := 4120, slot := 2, constantValue := 0 }]
  methods := #[k15m0]
  instanceTypes := #[]
  staticTypes := #[(.array (.object "java/lang/Long")), (.array (.object "java/lang/Long")), .boolean]
  resolved := Array.replicate 63 none
  statics := some 2 }

def pool16 : Array CpInfo := pool [(2, .class_ 4), (1, u "java/lang/Object"), (0, u "<init>"), (0, u "()V"), (17, .class_ 26), (1, u "jdk/internal/util/Preconditions"), (28, .class_ 56), (0, u "jdk/internal/util/Preconditions$4"), (57, .class_ 115), (0, u "jdk/internal/util/Preconditions$1"), (7, u "SIOOBE_FORMATTER"), (0, u "Ljava/util/function/BiFunction;"), (0, .class_ 126), (0, u "jdk/internal/util/Preconditions$2"), (3, u "AIOOBE_FORMATTER"), (0, .class_ 132), (0, u "jdk/internal/util/Preconditions$3"), (3, u "IOOBE_FORMATTER")] 57

def k16m0 : Method := { name := "<init>", desc := "()V", sig := { parameters := [], returnType := none }, accessFlags := 1, code := none }
/-- jdk/internal/util/Preconditions -/
def k16 : Class := { plain "jdk/internal/util/Preconditions" (some 0) with
  accessFlags := 33
  interfaces := #[]
  cf := some (fileOf pool16 24 #[.nestMembers #[55, 131, 125, 114]] #[{ accessFlags := 1, nameIndex := 5, descriptorIndex := 6, attributes := #[] }] 33 2 #[] #[{ accessFlags := 25, nameIndex := 123, descriptorIndex := 124, attributes := #[] }, { accessFlags := 25, nameIndex := 130, descriptorIndex := 124, attributes := #[] }, { accessFlags := 25, nameIndex := 136, descriptorIndex := 124, attributes := #[] }])
  fields := #[{ name := "SIOOBE_FORMATTER", type := (.object "java/util/function/BiFunction"), accessFlags := 25, slot := 0, constantValue := 0 }, { name := "AIOOBE_FORMATTER", type := (.object "java/util/function/BiFunction"), accessFlags := 25, slot := 1, constantValue := 0 }, { name := "IOOBE_FORMATTER", type := (.object "java/util/function/BiFunction"), accessFlags := 25, slot := 2, constantValue := 0 }]
  methods := #[k16m0]
  instanceTypes := #[]
  staticTypes := #[(.object "java/util/function/BiFunction"), (.object "java/util/function/BiFunction"), (.object "java/util/function/BiFunction")]
  resolved := Array.replicate 194 none
  statics := some 3 }

def pool17 : Array CpInfo := pool [(9, u "<init>"), (6, .class_ 18), (1, u "java/lang/Object"), (0, u "()V"), (1, .class_ 23), (1, u "jdk/internal/util/ArraysSupport"), (0, u "LOG2_ARRAY_LONG_INDEX_SCALE"), (0, u "I"), (2, u "U"), (0, u "Ljdk/internal/misc/Unsafe;"), (8, u "BIG_ENDIAN"), (0, u "Z"), (8, u "LOG2_BYTE_BIT_SIZE"), (4, u "LOG2_ARRAY_INT_INDEX_SCALE"), (54, u "JLA"), (0, u "Ljdk/internal/access/JavaLangAccess;"), (11, u "LOG2_ARRAY_BOOLEAN_INDEX_SCALE"), (9, u "LOG2_ARRAY_BYTE_INDEX_SCALE"), (5, u "LOG2_ARRAY_CHAR_INDEX_SCALE"), (5, u "LOG2_ARRAY_SHORT_INDEX_SCALE"), (18, u "LOG2_ARRAY_FLOAT_INDEX_SCALE"), (24, u "LOG2_ARRAY_DOUBLE_INDEX_SCALE"), (89, u "T_BOOLEAN"), (2, u "T_CHAR"), (1, u "T_FLOAT"), (1, u "T_DOUBLE"), (1, u "T_BYTE"), (1, u "T_SHORT"), (1, u "T_INT"), (1, u "T_LONG"), (1, u "SOFT_MAX_ARRAY_LENGTH")] 83

def k17m0 : Method := { name := "<init>", desc := "()V", sig := { parameters := [], returnType := none }, accessFlags := 2, code := none }
/-- jdk/internal/util/ArraysSupport -/
def k17 : Class := { plain "jdk/internal/util/ArraysSupport" (some 0) with
  accessFlags := 33
  interfaces := #[]
  cf := some (fileOf pool17 21 #[] #[{ accessFlags := 2, nameIndex := 9, descriptorIndex := 19, attributes := #[] }] 33 16 #[] #[{ accessFlags := 24, nameIndex := 28, descriptorIndex := 29, attributes := #[] }, { accessFlags := 26, nameIndex := 38, descriptorIndex := 39, attributes := #[] }, { accessFlags := 25, nameIndex := 121, descriptorIndex := 25, attributes := #[] }, { accessFlags := 25, nameIndex := 131, descriptorIndex := 25, attributes := #[] }, { accessFlags := 25, nameIndex := 137, descriptorIndex := 25, attributes := #[] }, { accessFlags := 25, nameIndex := 143, descriptorIndex := 25, attributes := #[] }, { accessFlags := 25, nameIndex := 53, descriptorIndex := 25, attributes := #[] }, { accessFlags := 25, nameIndex := 24, descriptorIndex := 25, attributes := #[] }, { accessFlags := 25, nameIndex := 162, descriptorIndex := 25, attributes := #[] }, { accessFlags := 25, nameIndex := 187, descriptorIndex := 25, attributes := #[] }, { accessFlags := 26, nameIndex := 48, descriptorIndex := 25, attributes := #[] }, { accessFlags := 25, nameIndex := 277, descriptorIndex := 25, attributes := #[] }, { accessFlags := 25, nameIndex := 280, descriptorIndex := 25, attributes := #[] }, { accessFlags := 25, nameIndex := 282, descriptorIndex := 25, attributes := #[] }, { accessFlags := 25, nameIndex := 284, descriptorIndex := 25, attributes := #[] }, { accessFlags := 25, nameIndex := 286, descriptorIndex := 25, attributes := #[] }, { accessFlags := 25, nameIndex := 288, descriptorIndex := 25, attributes := #[] }, { accessFlags := 25, nameIndex := 290, descriptorIndex := 25, attributes := #[] }, { accessFlags := 25, nameIndex := 292, descriptorIndex := 25, attributes := #[] }, { accessFlags := 26, nameIndex := 108, descriptorIndex := 109, attributes := #[] }, { accessFlags := 25, nameIndex := 294, descriptorIndex := 25, attributes := #[] }])
  fields := #[{ name := "U", type := (.object "jdk/internal/misc/Unsafe"), accessFlags := 24, slot := 0, constantValue := 0 }, { name := "BIG_ENDIAN", type := .boolean, accessFlags := 26, slot := 1, constantValue := 0 }, { name := "LOG2_ARRAY_BOOLEAN_INDEX_SCALE", type := .int, accessFlags := 25, slot := 2, constantValue := 0 }, { name := "LOG2_ARRAY_BYTE_INDEX_SCALE", type := .int, accessFlags := 25, slot := 3, constantValue := 0 }, { name := "LOG2_ARRAY_CHAR_INDEX_SCALE", type := .int, accessFlags := 25, slot := 4, constantValue := 0 }, { name := "LOG2_ARRAY_SHORT_INDEX_SCALE", type := .int, accessFlags := 25, slot := 5, constantValue := 0 }, { name := "LOG2_ARRAY_INT_INDEX_SCALE", type := .int, accessFlags := 25, slot := 6, constantValue := 0 }, { name := "LOG2_ARRAY_LONG_INDEX_SCALE", type := .int, accessFlags := 25, slot := 7, constantValue := 0 }, { name := "LOG2_ARRAY_FLOAT_INDEX_SCALE", type := .int, accessFlags := 25, slot := 8, constantValue := 0 }, { name := "LOG2_ARRAY_DOUBLE_INDEX_SCALE", type := .int, accessFlags := 25, slot := 9, constantValue := 0 }, { name := "LOG2_BYTE_BIT_SIZE", type := .int, accessFlags := 26, slot := 10, constantValue := 0 }, { name := "T_BOOLEAN", type := .int, accessFlags := 25, slot := 11, constantValue := 0 }, { name := "T_CHAR", type := .int, accessFlags := 25, slot := 12, constantValue := 0 }, { name := "T_FLOAT", type := .int, accessFlags := 25, slot := 13, constantValue := 0 }, { name := "T_DOUBLE", type := .int, accessFlags := 25, slot := 14, constantValue := 0 }, { name := "T_BYTE", type := .int, accessFlags := 25, slot := 15, constantValue := 0 }, { name := "T_SHORT", type := .int, accessFlags := 25, slot := 16, constantValue := 0 }, { name := "T_INT", type := .int, accessFlags := 25, slot := 17, constantValue := 0 }, { name := "T_LONG", type := .int, accessFlags := 25, slot := 18, constantValue := 0 }, { name := "JLA", type := (.object "jdk/internal/access/JavaLangAccess"), accessFlags := 26, slot := 19, constantValue := 0 }, { name := "SOFT_MAX_ARRAY_LENGTH", type := .int, accessFlags := 25, slot := 20, constantValue := 0 }]
  methods := #[k17m0]
  instanceTypes := #[]
  staticTypes := #[(.object "jdk/internal/misc/Unsafe"), .boolean, .int, .int, .int, .int, .int, .int, .int, .int, .int, .int, .int, .int, .int, .int, .int, .int, .int, (.object "jdk/internal/access/JavaLangAccess"), .int]
  resolved := Array.replicate 378 none
  statics := none }

def pool18 : Array CpInfo := pool [(1, u "java/lang/Cloneable"), (0, .class_ 1), (0, u "java/lang/Object"), (0, .class_ 3)] 3

/-- java/lang/Cloneable -/
def k18 : Class := { plain "java/lang/Cloneable" (some 0) with
  accessFlags := 1537
  interfaces := #[]
  cf := some (fileOf pool18 2 #[] #[] 1537 4 #[] #[])
  fields := #[]
  methods := #[]
  instanceTypes := #[]
  staticTypes := #[]
  resolved := Array.replicate 8 none
  statics := none }

/-- the primitive byte -/
def k19 : Class := { plain "byte" none with kind := .primitive 'B', accessFlags := 0x411 }
/-- [B -/
def k20 : Class := { plain "[B" (some 0) with kind := .array 19 .byte, interfaces := #[18, 5], accessFlags := 1041 }

/-- the primitive int -/
def k21 : Class := { plain "int" none with kind := .primitive 'I', accessFlags := 0x411 }
/-- [I -/
def k22 : Class := { plain "[I" (some 0) with kind := .array 21 .int, interfaces := #[18, 5], accessFlags := 1041 }

/-- [Ljava/lang/Long; -/
def k23 : Class := { plain "[Ljava/lang/Long;" (some 0) with kind := .array 14 (.object "java/lang/Long"), interfaces := #[18, 5], accessFlags := 1041 }

def heap : Heap := #[{ cls := 7, slots := #[.ref 261, .ref 262, .ref 263, .ref 264, .null], vm := .statics 7 },
  { cls := 10, slots := #[.long 0, .int 1, .null, .int 0, .null, .int 0, .int 0], vm := .statics 10 },
  { cls := 15, slots := #[.ref 4, .null, .int 0], vm := .statics 15 },
  { cls := 16, slots := #[.null, .null, .null], vm := .statics 16 },
  { cls := 23, slots := #[.ref 5, .ref 6, .ref 7, .ref 8, .ref 9, .ref 10, .ref 11, .ref 12, .ref 13, .ref 14, .ref 15, .ref 16, .ref 17, .ref 18, .ref 19, .ref 20, .ref 21, .ref 22, .ref 23, .ref 24, .ref 25, .ref 26, .ref 27, .ref 28, .ref 29, .ref 30, .ref 31, .ref 32, .ref 33, .ref 34, .ref 35, .ref 36, .ref 37, .ref 38, .ref 39, .ref 40, .ref 41, .ref 42, .ref 43, .ref 44, .ref 45, .ref 46, .ref 47, .ref 48, .ref 49, .ref 50, .ref 51, .ref 52, .ref 53, .ref 54, .ref 55, .ref 56, .ref 57, .ref 58, .ref 59, .ref 60, .ref 61, .ref 62, .ref 63, .ref 64, .ref 65, .ref 66, .ref 67, .ref 68, .ref 69, .ref 70, .ref 71, .ref 72, .ref 73, .ref 74, .ref 75, .ref 76, .ref 77, .ref 78, .ref 79, .ref 80, .ref 81, .ref 82, .ref 83, .ref 84, .ref 85, .ref 86, .ref 87, .ref 88, .ref 89, .ref 90, .ref 91, .ref 92, .ref 93, .ref 94, .ref 95, .ref 96, .ref 97, .ref 98, .ref 99, .ref 100, .ref 101, .ref 102, .ref 103, .ref 104, .ref 105, .ref 106, .ref 107, .ref 108, .ref 109, .ref 110, .ref 111, .ref 112, .ref 113, .ref 114, .ref 115, .ref 116, .ref 117, .ref 118, .ref 119, .ref 120, .ref 121, .ref 122, .ref 123, .ref 124, .ref 125, .ref 126, .ref 127, .ref 128, .ref 129, .ref 130, .ref 131, .ref 132, .ref 133, .ref 134, .ref 135, .ref 136, .ref 137, .ref 138, .ref 139, .ref 140, .ref 141, .ref 142, .ref 143, .ref 144, .ref 145, .ref 146, .ref 147, .ref 148, .ref 149, .ref 150, .ref 151, .ref 152, .ref 153, .ref 154, .ref 155, .ref 156, .ref 157, .ref 158, .ref 159, .ref 160, .ref 161, .ref 162, .ref 163, .ref 164, .ref 165, .ref 166, .ref 167, .ref 168, .ref 169, .ref 170, .ref 171, .ref 172, .ref 173, .ref 174, .ref 175, .ref 176, .ref 177, .ref 178, .ref 179, .ref 180, .ref 181, .ref 182, .ref 183, .ref 184, .ref 185, .ref 186, .ref 187, .ref 188, .ref 189, .ref 190, .ref 191, .ref 192, .ref 193, .ref 194, .ref 195, .ref 196, .ref 197, .ref 198, .ref 199, .ref 200, .ref 201, .ref 202, .ref 203, .ref 204, .ref 205, .ref 206, .ref 207, .ref 208, .ref 209, .ref 210, .ref 211, .ref 212, .ref 213, .ref 214, .ref 215, .ref 216, .ref 217, .ref 218, .ref 219, .ref 220, .ref 221, .ref 222, .ref 223, .ref 224, .ref 225, .ref 226, .ref 227, .ref 228, .ref 229, .ref 230, .ref 231, .ref 232, .ref 233, .ref 234, .ref 235, .ref 236, .ref 237, .ref 238, .ref 239, .ref 240, .ref 241, .ref 242, .ref 243, .ref 244, .ref 245, .ref 246, .ref 247, .ref 248, .ref 249, .ref 250, .ref 251, .ref 252, .ref 253, .ref 254, .ref 255, .ref 256, .ref 257, .ref 258, .ref 259, .ref 260], vm := .none },
  { cls := 14, slots := #[.long (-128)], vm := .none },
  { cls := 14, slots := #[.long (-127)], vm := .none },
  { cls := 14, slots := #[.long (-126)], vm := .none },
  { cls := 14, slots := #[.long (-125)], vm := .none },
  { cls := 14, slots := #[.long (-124)], vm := .none },
  { cls := 14, slots := #[.long (-123)], vm := .none },
  { cls := 14, slots := #[.long (-122)], vm := .none },
  { cls := 14, slots := #[.long (-121)], vm := .none },
  { cls := 14, slots := #[.long (-120)], vm := .none },
  { cls := 14, slots := #[.long (-119)], vm := .none },
  { cls := 14, slots := #[.long (-118)], vm := .none },
  { cls := 14, slots := #[.long (-117)], vm := .none },
  { cls := 14, slots := #[.long (-116)], vm := .none },
  { cls := 14, slots := #[.long (-115)], vm := .none },
  { cls := 14, slots := #[.long (-114)], vm := .none },
  { cls := 14, slots := #[.long (-113)], vm := .none },
  { cls := 14, slots := #[.long (-112)], vm := .none },
  { cls := 14, slots := #[.long (-111)], vm := .none },
  { cls := 14, slots := #[.long (-110)], vm := .none },
  { cls := 14, slots := #[.long (-109)], vm := .none },
  { cls := 14, slots := #[.long (-108)], vm := .none },
  { cls := 14, slots := #[.long (-107)], vm := .none },
  { cls := 14, slots := #[.long (-106)], vm := .none },
  { cls := 14, slots := #[.long (-105)], vm := .none },
  { cls := 14, slots := #[.long (-104)], vm := .none },
  { cls := 14, slots := #[.long (-103)], vm := .none },
  { cls := 14, slots := #[.long (-102)], vm := .none },
  { cls := 14, slots := #[.long (-101)], vm := .none },
  { cls := 14, slots := #[.long (-100)], vm := .none },
  { cls := 14, slots := #[.long (-99)], vm := .none },
  { cls := 14, slots := #[.long (-98)], vm := .none },
  { cls := 14, slots := #[.long (-97)], vm := .none },
  { cls := 14, slots := #[.long (-96)], vm := .none },
  { cls := 14, slots := #[.long (-95)], vm := .none },
  { cls := 14, slots := #[.long (-94)], vm := .none },
  { cls := 14, slots := #[.long (-93)], vm := .none },
  { cls := 14, slots := #[.long (-92)], vm := .none },
  { cls := 14, slots := #[.long (-91)], vm := .none },
  { cls := 14, slots := #[.long (-90)], vm := .none },
  { cls := 14, slots := #[.long (-89)], vm := .none },
  { cls := 14, slots := #[.long (-88)], vm := .none },
  { cls := 14, slots := #[.long (-87)], vm := .none },
  { cls := 14, slots := #[.long (-86)], vm := .none },
  { cls := 14, slots := #[.long (-85)], vm := .none },
  { cls := 14, slots := #[.long (-84)], vm := .none },
  { cls := 14, slots := #[.long (-83)], vm := .none },
  { cls := 14, slots := #[.long (-82)], vm := .none },
  { cls := 14, slots := #[.long (-81)], vm := .none },
  { cls := 14, slots := #[.long (-80)], vm := .none },
  { cls := 14, slots := #[.long (-79)], vm := .none },
  { cls := 14, slots := #[.long (-78)], vm := .none },
  { cls := 14, slots := #[.long (-77)], vm := .none },
  { cls := 14, slots := #[.long (-76)], vm := .none },
  { cls := 14, slots := #[.long (-75)], vm := .none },
  { cls := 14, slots := #[.long (-74)], vm := .none },
  { cls := 14, slots := #[.long (-73)], vm := .none },
  { cls := 14, slots := #[.long (-72)], vm := .none },
  { cls := 14, slots := #[.long (-71)], vm := .none },
  { cls := 14, slots := #[.long (-70)], vm := .none },
  { cls := 14, slots := #[.long (-69)], vm := .none },
  { cls := 14, slots := #[.long (-68)], vm := .none },
  { cls := 14, slots := #[.long (-67)], vm := .none },
  { cls := 14, slots := #[.long (-66)], vm := .none },
  { cls := 14, slots := #[.long (-65)], vm := .none },
  { cls := 14, slots := #[.long (-64)], vm := .none },
  { cls := 14, slots := #[.long (-63)], vm := .none },
  { cls := 14, slots := #[.long (-62)], vm := .none },
  { cls := 14, slots := #[.long (-61)], vm := .none },
  { cls := 14, slots := #[.long (-60)], vm := .none },
  { cls := 14, slots := #[.long (-59)], vm := .none },
  { cls := 14, slots := #[.long (-58)], vm := .none },
  { cls := 14, slots := #[.long (-57)], vm := .none },
  { cls := 14, slots := #[.long (-56)], vm := .none },
  { cls := 14, slots := #[.long (-55)], vm := .none },
  { cls := 14, slots := #[.long (-54)], vm := .none },
  { cls := 14, slots := #[.long (-53)], vm := .none },
  { cls := 14, slots := #[.long (-52)], vm := .none },
  { cls := 14, slots := #[.long (-51)], vm := .none },
  { cls := 14, slots := #[.long (-50)], vm := .none },
  { cls := 14, slots := #[.long (-49)], vm := .none },
  { cls := 14, slots := #[.long (-48)], vm := .none },
  { cls := 14, slots := #[.long (-47)], vm := .none },
  { cls := 14, slots := #[.long (-46)], vm := .none },
  { cls := 14, slots := #[.long (-45)], vm := .none },
  { cls := 14, slots := #[.long (-44)], vm := .none },
  { cls := 14, slots := #[.long (-43)], vm := .none },
  { cls := 14, slots := #[.long (-42)], vm := .none },
  { cls := 14, slots := #[.long (-41)], vm := .none },
  { cls := 14, slots := #[.long (-40)], vm := .none },
  { cls := 14, slots := #[.long (-39)], vm := .none },
  { cls := 14, slots := #[.long (-38)], vm := .none },
  { cls := 14, slots := #[.long (-37)], vm := .none },
  { cls := 14, slots := #[.long (-36)], vm := .none },
  { cls := 14, slots := #[.long (-35)], vm := .none },
  { cls := 14, slots := #[.long (-34)], vm := .none },
  { cls := 14, slots := #[.long (-33)], vm := .none },
  { cls := 14, slots := #[.long (-32)], vm := .none },
  { cls := 14, slots := #[.long (-31)], vm := .none },
  { cls := 14, slots := #[.long (-30)], vm := .none },
  { cls := 14, slots := #[.long (-29)], vm := .none },
  { cls := 14, slots := #[.long (-28)], vm := .none },
  { cls := 14, slots := #[.long (-27)], vm := .none },
  { cls := 14, slots := #[.long (-26)], vm := .none },
  { cls := 14, slots := #[.long (-25)], vm := .none },
  { cls := 14, slots := #[.long (-24)], vm := .none },
  { cls := 14, slots := #[.long (-23)], vm := .none },
  { cls := 14, slots := #[.long (-22)], vm := .none },
  { cls := 14, slots := #[.long (-21)], vm := .none },
  { cls := 14, slots := #[.long (-20)], vm := .none },
  { cls := 14, slots := #[.long (-19)], vm := .none },
  { cls := 14, slots := #[.long (-18)], vm := .none },
  { cls := 14, slots := #[.long (-17)], vm := .none },
  { cls := 14, slots := #[.long (-16)], vm := .none },
  { cls := 14, slots := #[.long (-15)], vm := .none },
  { cls := 14, slots := #[.long (-14)], vm := .none },
  { cls := 14, slots := #[.long (-13)], vm := .none },
  { cls := 14, slots := #[.long (-12)], vm := .none },
  { cls := 14, slots := #[.long (-11)], vm := .none },
  { cls := 14, slots := #[.long (-10)], vm := .none },
  { cls := 14, slots := #[.long (-9)], vm := .none },
  { cls := 14, slots := #[.long (-8)], vm := .none },
  { cls := 14, slots := #[.long (-7)], vm := .none },
  { cls := 14, slots := #[.long (-6)], vm := .none },
  { cls := 14, slots := #[.long (-5)], vm := .none },
  { cls := 14, slots := #[.long (-4)], vm := .none },
  { cls := 14, slots := #[.long (-3)], vm := .none },
  { cls := 14, slots := #[.long (-2)], vm := .none },
  { cls := 14, slots := #[.long (-1)], vm := .none },
  { cls := 14, slots := #[.long (0)], vm := .none },
  { cls := 14, slots := #[.long (1)], vm := .none },
  { cls := 14, slots := #[.long (2)], vm := .none },
  { cls := 14, slots := #[.long (3)], vm := .none },
  { cls := 14, slots := #[.long (4)], vm := .none },
  { cls := 14, slots := #[.long (5)], vm := .none },
  { cls := 14, slots := #[.long (6)], vm := .none },
  { cls := 14, slots := #[.long (7)], vm := .none },
  { cls := 14, slots := #[.long (8)], vm := .none },
  { cls := 14, slots := #[.long (9)], vm := .none },
  { cls := 14, slots := #[.long (10)], vm := .none },
  { cls := 14, slots := #[.long (11)], vm := .none },
  { cls := 14, slots := #[.long (12)], vm := .none },
  { cls := 14, slots := #[.long (13)], vm := .none },
  { cls := 14, slots := #[.long (14)], vm := .none },
  { cls := 14, slots := #[.long (15)], vm := .none },
  { cls := 14, slots := #[.long (16)], vm := .none },
  { cls := 14, slots := #[.long (17)], vm := .none },
  { cls := 14, slots := #[.long (18)], vm := .none },
  { cls := 14, slots := #[.long (19)], vm := .none },
  { cls := 14, slots := #[.long (20)], vm := .none },
  { cls := 14, slots := #[.long (21)], vm := .none },
  { cls := 14, slots := #[.long (22)], vm := .none },
  { cls := 14, slots := #[.long (23)], vm := .none },
  { cls := 14, slots := #[.long (24)], vm := .none },
  { cls := 14, slots := #[.long (25)], vm := .none },
  { cls := 14, slots := #[.long (26)], vm := .none },
  { cls := 14, slots := #[.long (27)], vm := .none },
  { cls := 14, slots := #[.long (28)], vm := .none },
  { cls := 14, slots := #[.long (29)], vm := .none },
  { cls := 14, slots := #[.long (30)], vm := .none },
  { cls := 14, slots := #[.long (31)], vm := .none },
  { cls := 14, slots := #[.long (32)], vm := .none },
  { cls := 14, slots := #[.long (33)], vm := .none },
  { cls := 14, slots := #[.long (34)], vm := .none },
  { cls := 14, slots := #[.long (35)], vm := .none },
  { cls := 14, slots := #[.long (36)], vm := .none },
  { cls := 14, slots := #[.long (37)], vm := .none },
  { cls := 14, slots := #[.long (38)], vm := .none },
  { cls := 14, slots := #[.long (39)], vm := .none },
  { cls := 14, slots := #[.long (40)], vm := .none },
  { cls := 14, slots := #[.long (41)], vm := .none },
  { cls := 14, slots := #[.long (42)], vm := .none },
  { cls := 14, slots := #[.long (43)], vm := .none },
  { cls := 14, slots := #[.long (44)], vm := .none },
  { cls := 14, slots := #[.long (45)], vm := .none },
  { cls := 14, slots := #[.long (46)], vm := .none },
  { cls := 14, slots := #[.long (47)], vm := .none },
  { cls := 14, slots := #[.long (48)], vm := .none },
  { cls := 14, slots := #[.long (49)], vm := .none },
  { cls := 14, slots := #[.long (50)], vm := .none },
  { cls := 14, slots := #[.long (51)], vm := .none },
  { cls := 14, slots := #[.long (52)], vm := .none },
  { cls := 14, slots := #[.long (53)], vm := .none },
  { cls := 14, slots := #[.long (54)], vm := .none },
  { cls := 14, slots := #[.long (55)], vm := .none },
  { cls := 14, slots := #[.long (56)], vm := .none },
  { cls := 14, slots := #[.long (57)], vm := .none },
  { cls := 14, slots := #[.long (58)], vm := .none },
  { cls := 14, slots := #[.long (59)], vm := .none },
  { cls := 14, slots := #[.long (60)], vm := .none },
  { cls := 14, slots := #[.long (61)], vm := .none },
  { cls := 14, slots := #[.long (62)], vm := .none },
  { cls := 14, slots := #[.long (63)], vm := .none },
  { cls := 14, slots := #[.long (64)], vm := .none },
  { cls := 14, slots := #[.long (65)], vm := .none },
  { cls := 14, slots := #[.long (66)], vm := .none },
  { cls := 14, slots := #[.long (67)], vm := .none },
  { cls := 14, slots := #[.long (68)], vm := .none },
  { cls := 14, slots := #[.long (69)], vm := .none },
  { cls := 14, slots := #[.long (70)], vm := .none },
  { cls := 14, slots := #[.long (71)], vm := .none },
  { cls := 14, slots := #[.long (72)], vm := .none },
  { cls := 14, slots := #[.long (73)], vm := .none },
  { cls := 14, slots := #[.long (74)], vm := .none },
  { cls := 14, slots := #[.long (75)], vm := .none },
  { cls := 14, slots := #[.long (76)], vm := .none },
  { cls := 14, slots := #[.long (77)], vm := .none },
  { cls := 14, slots := #[.long (78)], vm := .none },
  { cls := 14, slots := #[.long (79)], vm := .none },
  { cls := 14, slots := #[.long (80)], vm := .none },
  { cls := 14, slots := #[.long (81)], vm := .none },
  { cls := 14, slots := #[.long (82)], vm := .none },
  { cls := 14, slots := #[.long (83)], vm := .none },
  { cls := 14, slots := #[.long (84)], vm := .none },
  { cls := 14, slots := #[.long (85)], vm := .none },
  { cls := 14, slots := #[.long (86)], vm := .none },
  { cls := 14, slots := #[.long (87)], vm := .none },
  { cls := 14, slots := #[.long (88)], vm := .none },
  { cls := 14, slots := #[.long (89)], vm := .none },
  { cls := 14, slots := #[.long (90)], vm := .none },
  { cls := 14, slots := #[.long (91)], vm := .none },
  { cls := 14, slots := #[.long (92)], vm := .none },
  { cls := 14, slots := #[.long (93)], vm := .none },
  { cls := 14, slots := #[.long (94)], vm := .none },
  { cls := 14, slots := #[.long (95)], vm := .none },
  { cls := 14, slots := #[.long (96)], vm := .none },
  { cls := 14, slots := #[.long (97)], vm := .none },
  { cls := 14, slots := #[.long (98)], vm := .none },
  { cls := 14, slots := #[.long (99)], vm := .none },
  { cls := 14, slots := #[.long (100)], vm := .none },
  { cls := 14, slots := #[.long (101)], vm := .none },
  { cls := 14, slots := #[.long (102)], vm := .none },
  { cls := 14, slots := #[.long (103)], vm := .none },
  { cls := 14, slots := #[.long (104)], vm := .none },
  { cls := 14, slots := #[.long (105)], vm := .none },
  { cls := 14, slots := #[.long (106)], vm := .none },
  { cls := 14, slots := #[.long (107)], vm := .none },
  { cls := 14, slots := #[.long (108)], vm := .none },
  { cls := 14, slots := #[.long (109)], vm := .none },
  { cls := 14, slots := #[.long (110)], vm := .none },
  { cls := 14, slots := #[.long (111)], vm := .none },
  { cls := 14, slots := #[.long (112)], vm := .none },
  { cls := 14, slots := #[.long (113)], vm := .none },
  { cls := 14, slots := #[.long (114)], vm := .none },
  { cls := 14, slots := #[.long (115)], vm := .none },
  { cls := 14, slots := #[.long (116)], vm := .none },
  { cls := 14, slots := #[.long (117)], vm := .none },
  { cls := 14, slots := #[.long (118)], vm := .none },
  { cls := 14, slots := #[.long (119)], vm := .none },
  { cls := 14, slots := #[.long (120)], vm := .none },
  { cls := 14, slots := #[.long (121)], vm := .none },
  { cls := 14, slots := #[.long (122)], vm := .none },
  { cls := 14, slots := #[.long (123)], vm := .none },
  { cls := 14, slots := #[.long (124)], vm := .none },
  { cls := 14, slots := #[.long (125)], vm := .none },
  { cls := 14, slots := #[.long (126)], vm := .none },
  { cls := 14, slots := #[.long (127)], vm := .none },
  { cls := 7, slots := #[.null, .int 0, .int 0], vm := .none },
  { cls := 7, slots := #[.null, .int 1, .int 0], vm := .none },
  { cls := 7, slots := #[.null, .int 2, .int 0], vm := .none },
  { cls := 7, slots := #[.null, .int 3, .int 0], vm := .none }]
def classes : Array Class := #[k0, k1, k2, k3, k4, k5, k6, k7, k8, k9, k10, k11, k12, k13, k14, k15, k16, k17, k18, k19, k20, k21, k22, k23]
def interned : List (Array UInt16 × Addr) := []
def slotsUsed : Nat := 542
def theMethod : MethodId := ⟨1, 2⟩
def args0 : Array Value := #[.int 0, .int 0, .long 0, .long 0, .int 0]
def aboutOver (below : List Frame) : State where
  vm := { classes := classes, interned := interned.toArray }
  heap := heap
  slotsUsed := slotsUsed
  threads := #[{ frames := .invoking theMethod args0 :: below }]
def below0 : List Frame := [.native { method := ⟨0, 0⟩, args := #[] }]
def about1 : State := aboutOver below0
def p0 : Program := .bare "" "" ""
def e0 : Env := launch0.env 0 0 0
theorem w_frames : about1.frames = Frame.invoking theMethod args0 :: below0 := rfl
set_option maxRecDepth 65536 in
theorem w_args : argsFit about1.vm theMethod args0 = true := by decide +kernel
set_option maxRecDepth 65536 in
theorem w_heap : heapFits about1 = true := by decide +kernel
set_option maxRecDepth 65536 in
theorem w_runnable : about1.curStatus? = some .runnable := by decide +kernel
set_option maxRecDepth 65536 in
theorem w_alone : about1.alone = true := by decide +kernel
set_option maxRecDepth 65536 in
theorem w_named : about1.methodNamed? x = some theMethod := by decide +kernel
set_option maxRecDepth 65536 in
theorem w_hears : about1.hears theMethod below0 = true := by decide +kernel
set_option maxRecDepth 65536 in
theorem w_ripe : about1.ripe theMethod args0 below0 = true := by decide +kernel
theorem w_running : about1.status = .running := rfl
set_option maxRecDepth 65536 in
theorem w_room : about1.hasRoom e0.platform room_1 = true :=
  launch0.hasRoom_least _ room_1 (by decide +kernel) (by decide +kernel) (by decide +kernel) (by decide +kernel) (by decide +kernel) (by decide +kernel)
theorem allAtoms_all (ts : List Jvm.Cond) (a : Array Jvm.Value) (st : Jvm.State) : (allAtoms ts).before a st = ts.all (fun c => c.before a st) := by
  induction ts with
  | nil => rfl
  | cons c t ih =>
    show (Jvm.Cond.and c (allAtoms t)).before a st = _
    rw [Jvm.Cond.before_and, ih, List.all_cons]
def words1 : List Jvm.Cond := Jvm.Cond.code x code maxLocals ret :: tables_1
/-- a 'code' word, met by the world's own term for the bytes: nothing is compared byte by byte -/
theorem code_word {y : MethodName} {bytes : ByteArray} {mx : Nat} {rt : Option FieldType} {a : Array Value} {s : State} {m : MethodId} {meth : Method} {c : Code} (h1 : s.methodNamed? y = some m) (h2 : s.vm.method? m = some meth) (h3 : meth.code = some c) (h4 : c.code = bytes)
    (h5 : (c.maxLocals == mx && c.exceptionTable.isEmpty && decide (c.maxStack ≤ mostOperands) && decide (meth.sig.returnType = rt) && !meth.locks && decide (parseMethodDescriptor y.desc = some meth.sig)) = true) : (Jvm.Cond.code y bytes mx rt).before a s = true := by
  simp only [Bool.and_eq_true, beq_iff_eq, Bool.not_eq_true', decide_eq_true_eq] at h5
  obtain ⟨⟨⟨⟨⟨g1, g2⟩, g3⟩, g4⟩, g5⟩, g6⟩ := h5
  simp [Cond.before, Cond.holds, Cond.value, h1, h2, h3, h4, g1, g2, g3, g4, g5, g6]
def isCode : Jvm.Cond → Bool
  | .code _ _ _ _ => true
  | _ => false
theorem all_split {L : List Jvm.Cond} {P : Jvm.Cond → Bool} (h1 : L.all (fun c => isCode c || P c) = true) (h2 : ∀ c ∈ L.filter isCode, P c = true) : L.all P = true := by
  refine List.all_eq_true.mpr fun c hc => ?_
  have h := List.all_eq_true.mp h1 c hc
  rcases Bool.eq_false_or_eq_true (isCode c) with hi | hi
  · exact h2 c (List.mem_filter.mpr ⟨hc, hi⟩)
  · simpa [hi] using h
set_option maxRecDepth 65536 in
theorem w_c0 : (Jvm.Cond.code x code maxLocals ret).before args0 about1 = true := code_word (m := ⟨1, 2⟩) (meth := k1m2) (c := k1c2) (by decide +kernel) rfl rfl rfl (by decide +kernel)
set_option maxRecDepth 65536 in
theorem w_c1 : (Jvm.Cond.code ({ cls := "com/example/tagwright/tagwright/model/TagEqualsPinLaw", name := "cls", desc := "(I)Lcom/example/tagwright/tagwright/model/TagClass;" } : Jvm.MethodName) method_2_code (2 : Nat) (Option.some (Jvm.ClassFile.FieldType.object "com/example/tagwright/tagwright/model/TagClass"))).before args0 about1 = true := code_word (m := ⟨1, 1⟩) (meth := k1m1) (c := k1c1) (by decide +kernel) rfl rfl rfl (by decide +kernel)
set_option maxRecDepth 65536 in
theorem w_c2 : (Jvm.Cond.code ({ cls := "com/example/tagwright/tagwright/model/Tag", name := "<init>", desc := "(Lcom/example/tagwright/tagwright/model/TagClass;J)V" } : Jvm.MethodName) prog_16_method_1_code (4 : Nat) (Option.none : Option Jvm.ClassFile.FieldType)).before args0 about1 = true := code_word (m := ⟨2, 0⟩) (meth := k2m0) (c := k2c0) (by decide +kernel) rfl rfl rfl (by decide +kernel)
set_option maxRecDepth 65536 in
theorem w_c3 : (Jvm.Cond.code ({ cls := "java/lang/Object", name := "<init>", desc := "()V" } : Jvm.MethodName) object_method_1_code (1 : Nat) (Option.none : Option Jvm.ClassFile.FieldType)).before args0 about1 = true := code_word (m := ⟨0, 0⟩) (meth := k0m0) (c := k0c0) (by decide +kernel) rfl rfl rfl (by decide +kernel)
set_option maxRecDepth 65536 in
theorem w_c4 : (Jvm.Cond.code ({ cls := "java/util/Objects", name := "requireNonNull", desc := "(Ljava/lang/Object;Ljava/lang/String;)Ljava/lang/Object;" } : Jvm.MethodName) jdk_31_method_11_code (2 : Nat) (Option.some (Jvm.ClassFile.FieldType.object "java/lang/Object"))).before args0 about1 = true := code_word (m := ⟨11, 1⟩) (meth := k11m1) (c := k11c1) (by decide +kernel) rfl rfl rfl (by decide +kernel)
set_option maxRecDepth 65536 in
theorem w_c5 : (Jvm.Cond.code ({ cls := "com/example/tagwright/tagwright/model/Tag", name := "equals", desc := "(Ljava/lang/Object;)Z" } : Jvm.MethodName) prog_16_method_4_code (3 : Nat) (Option.some Jvm.ClassFile.FieldType.boolean)).before args0 about1 = true := code_word (m := ⟨2, 1⟩) (meth := k2m1) (c := k2c1) (by decide +kernel) rfl rfl rfl (by decide +kernel)
set_option maxRecDepth 65536 in
theorem w_c6 : (Jvm.Cond.code ({ cls := "java/lang/String", name := "valueOf", desc := "(C)Ljava/lang/String;" } : Jvm.MethodName) jdk_42_method_139_code (1 : Nat) (Option.some (Jvm.ClassFile.FieldType.object "java/lang/String"))).before args0 about1 = true := code_word (m := ⟨10, 1⟩) (meth := k10m1) (c := k10c1) (by decide +kernel) rfl rfl rfl (by decide +kernel)
set_option maxRecDepth 65536 in
theorem w_c7 : (Jvm.Cond.code ({ cls := "java/lang/StringLatin1", name := "canEncode", desc := "(C)Z" } : Jvm.MethodName) jdk_43_method_3_code (1 : Nat) (Option.some Jvm.ClassFile.FieldType.boolean)).before args0 about1 = true := code_word (m := ⟨12, 1⟩) (meth := k12m1) (c := k12c1) (by decide +kernel) rfl rfl rfl (by decide +kernel)
set_option maxRecDepth 65536 in
theorem w_c8 : (Jvm.Cond.code ({ cls := "java/lang/StringLatin1", name := "toBytes", desc := "(C)[B" } : Jvm.MethodName) jdk_43_method_46_code (1 : Nat) (Option.some (Jvm.ClassFile.FieldType.array Jvm.ClassFile.FieldType.byte))).before args0 about1 = true := code_word (m := ⟨12, 2⟩) (meth := k12m2) (c := k12c2) (by decide +kernel) rfl rfl rfl (by decide +kernel)
set_option maxRecDepth 65536 in
theorem w_c9 : (Jvm.Cond.code ({ cls := "java/lang/String", name := "<init>", desc := "([BB)V" } : Jvm.MethodName) jdk_42_method_151_code (3 : Nat) (Option.none : Option Jvm.ClassFile.FieldType)).before args0 about1 = true := code_word (m := ⟨10, 2⟩) (meth := k10m2) (c := k10c2) (by decide +kernel) rfl rfl rfl (by decide +kernel)
set_option maxRecDepth 65536 in
theorem w_c10 : (Jvm.Cond.code ({ cls := "java/lang/Long", name := "valueOf", desc := "(J)Ljava/lang/Long;" } : Jvm.MethodName) jdk_35_method_24_code (3 : Nat) (Option.some (Jvm.ClassFile.FieldType.object "java/lang/Long"))).before args0 about1 = true := code_word (m := ⟨14, 0⟩) (meth := k14m0) (c := k14c0) (by decide +kernel) rfl rfl rfl (by decide +kernel)
set_option maxRecDepth 65536 in
theorem w_c11 : (Jvm.Cond.code ({ cls := "java/lang/Long", name := "<init>", desc := "(J)V" } : Jvm.MethodName) jdk_35_method_26_code (3 : Nat) (Option.none : Option Jvm.ClassFile.FieldType)).before args0 about1 = true := code_word (m := ⟨14, 1⟩) (meth := k14m1) (c := k14c1) (by decide +kernel) rfl rfl rfl (by decide +kernel)
set_option maxRecDepth 65536 in
theorem w_c12 : (Jvm.Cond.code ({ cls := "java/lang/Number", name := "<init>", desc := "()V" } : Jvm.MethodName) jdk_18_method_1_code (1 : Nat) (Option.none : Option Jvm.ClassFile.FieldType)).before args0 about1 = true := code_word (m := ⟨13, 0⟩) (meth := k13m0) (c := k13c0) (by decide +kernel) rfl rfl rfl (by decide +kernel)
def codes1 : List Jvm.Cond := [Jvm.Cond.code x code maxLocals ret, Jvm.Cond.code ({ cls := "com/example/tagwright/tagwright/model/TagEqualsPinLaw", name := "cls", desc := "(I)Lcom/example/tagwright/tagwright/model/TagClass;" } : Jvm.MethodName) method_2_code (2 : Nat) (Option.some (Jvm.ClassFile.FieldType.object "com/example/tagwright/tagwright/model/TagClass")), Jvm.Cond.code ({ cls := "com/example/tagwright/tagwright/model/Tag", name := "<init>", desc := "(Lcom/example/tagwright/tagwright/model/TagClass;J)V" } : Jvm.MethodName) prog_16_method_1_code (4 : Nat) (Option.none : Option Jvm.ClassFile.FieldType), Jvm.Cond.code ({ cls := "java/lang/Object", name := "<init>", desc := "()V" } : Jvm.MethodName) object_method_1_code (1 : Nat) (Option.none : Option Jvm.ClassFile.FieldType), Jvm.Cond.code ({ cls := "java/util/Objects", name := "requireNonNull", desc := "(Ljava/lang/Object;Ljava/lang/String;)Ljava/lang/Object;" } : Jvm.MethodName) jdk_31_method_11_code (2 : Nat) (Option.some (Jvm.ClassFile.FieldType.object "java/lang/Object")), Jvm.Cond.code ({ cls := "com/example/tagwright/tagwright/model/Tag", name := "equals", desc := "(Ljava/lang/Object;)Z" } : Jvm.MethodName) prog_16_method_4_code (3 : Nat) (Option.some Jvm.ClassFile.FieldType.boolean), Jvm.Cond.code ({ cls := "java/lang/String", name := "valueOf", desc := "(C)Ljava/lang/String;" } : Jvm.MethodName) jdk_42_method_139_code (1 : Nat) (Option.some (Jvm.ClassFile.FieldType.object "java/lang/String")), Jvm.Cond.code ({ cls := "java/lang/StringLatin1", name := "canEncode", desc := "(C)Z" } : Jvm.MethodName) jdk_43_method_3_code (1 : Nat) (Option.some Jvm.ClassFile.FieldType.boolean), Jvm.Cond.code ({ cls := "java/lang/StringLatin1", name := "toBytes", desc := "(C)[B" } : Jvm.MethodName) jdk_43_method_46_code (1 : Nat) (Option.some (Jvm.ClassFile.FieldType.array Jvm.ClassFile.FieldType.byte)), Jvm.Cond.code ({ cls := "java/lang/String", name := "<init>", desc := "([BB)V" } : Jvm.MethodName) jdk_42_method_151_code (3 : Nat) (Option.none : Option Jvm.ClassFile.FieldType), Jvm.Cond.code ({ cls := "java/lang/Long", name := "valueOf", desc := "(J)Ljava/lang/Long;" } : Jvm.MethodName) jdk_35_method_24_code (3 : Nat) (Option.some (Jvm.ClassFile.FieldType.object "java/lang/Long")), Jvm.Cond.code ({ cls := "java/lang/Long", name := "<init>", desc := "(J)V" } : Jvm.MethodName) jdk_35_method_26_code (3 : Nat) (Option.none : Option Jvm.ClassFile.FieldType), Jvm.Cond.code ({ cls := "java/lang/Number", name := "<init>", desc := "()V" } : Jvm.MethodName) jdk_18_method_1_code (1 : Nat) (Option.none : Option Jvm.ClassFile.FieldType)]
set_option maxRecDepth 65536 in
theorem codes_eq : words1.filter isCode = codes1 := rfl
theorem w_codes : ∀ c ∈ words1.filter isCode, c.before args0 about1 = true := by
  rw [codes_eq]
  intro c hc
  simp only [codes1, List.mem_cons, List.not_mem_nil, or_false] at hc
  rcases hc with rfl | rfl | rfl | rfl | rfl | rfl | rfl | rfl | rfl | rfl | rfl | rfl | rfl
  · exact w_c0
  · exact w_c1
  · exact w_c2
  · exact w_c3
  · exact w_c4
  · exact w_c5
  · exact w_c6
  · exact w_c7
  · exact w_c8
  · exact w_c9
  · exact w_c10
  · exact w_c11
  · exact w_c12
set_option maxRecDepth 65536 in
theorem w_t1 : (words1.take 24).all (fun c => isCode c || c.before args0 about1) = true := by decide +kernel
set_option maxRecDepth 65536 in
theorem w_t2 : ((words1.drop 24).take 24).all (fun c => isCode c || c.before args0 about1) = true := by decide +kernel
set_option maxRecDepth 65536 in
theorem w_t3 : (((words1.drop 24).drop 24).take 24).all (fun c => isCode c || c.before args0 about1) = true := by decide +kernel
set_option maxRecDepth 65536 in
theorem w_t4 : (((words1.drop 24).drop 24).drop 24).all (fun c => isCode c || c.before args0 about1) = true := by decide +kernel
theorem w_tables : (allAtoms (Jvm.Cond.code x code maxLocals ret :: tables_1)).before args0 about1 = true := by
  rw [allAtoms_all]
  show words1.all (fun c => c.before args0 about1) = true
  refine all_split ?_ w_codes
  rw [← List.take_append_drop 24 words1, List.all_append, w_t1, ← List.take_append_drop 24 (words1.drop 24), List.all_append, w_t2, ← List.take_append_drop 24 ((words1.drop 24).drop 24), List.all_append, w_t3, w_t4]
  rfl
set_option maxRecDepth 65536 in
theorem w_rest : rest_1_c.before args0 about1 = true := by decide +kernel
set_option maxRecDepth 65536 in
theorem w_case : (Jvm.Cond.and given_1 narrow_1).before args0 about1 = true := by decide +kernel
theorem w_applies : (headSpec (Jvm.Cond.code x code maxLocals ret :: tables_1) room_1).applies x e0.platform about1 = true :=
  (Spec.applies_iff w_frames).mpr ⟨w_running, w_runnable, w_alone, w_named, w_hears, w_ripe, w_room, w_tables⟩
theorem atStart : AtStart classFile x code maxLocals ret World_1 tables_1 room_1 Calls_1 rest_1 Pre_1 launch0 p0 e0 about1 theMethod args0 below0 :=
  ⟨lists_1, trivial, launch0.admits_env _ _ _, launch0.least_env, fairChoices_fair.cas, fairChoices_fair.clock, w_frames, w_args, w_heap, w_applies, trivial, w_rest, w_case⟩
end start1
theorem witness_1 : WitnessClaimed_1 := ⟨start1.p0, start1.e0, start1.about1, start1.theMethod, start1.args0, start1.below0, start1.atStart⟩
end Jvm.Pilot.@@N@@
