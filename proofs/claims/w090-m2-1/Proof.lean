import JvmDerived
import JvmDerived.Pilot.@@N@@Statement
import JvmDerived.Pilot.@@N@@Code
set_option linter.unusedVariables false
set_option linter.unusedSimpArgs false
namespace Jvm.Pilot.@@N@@
open Jvm Jvm.ClassFile Sem Op Lib Jvm.Free Jvm.Stand Jvm.LawKit Jvm.RoadKit Bundle Jvm.Pilot.@@N@@.Jvm.D
section OwnKit
variable {p : Program} {l : Launch} {e : Env} {R : Room} {s : State} {m : MethodId} {args : Array Value} {below : List Frame} {meth : Method} {c : Code} {T U W : State} {locs : List Loc} {cells slots : Nat} {Q : Option Value → Heap → List Loc → Prop} {K N : Nat}
/-- from U the body comes to its end, and Q holds there -/
def own_Ends (p : Program) (e : Env) (below : List Frame) (s : State) (Q : Option Value → Heap → List Loc → Prop) (K N : Nat) (U : State) : Prop :=
  ∃ s₂ o, Steps p.tables e below U s₂ ∧ s₂.status = .running ∧ Ended s₂ below o ∧ ∃ v L, o = .returned v ∧ Q v s₂.heap L ∧ FrameEnd s o s₂ L K N
theorem own_by {V : State} (h : ∀ t, Steps p.tables e below V t → Steps p.tables e below U t) (k : own_Ends p e below s Q K N V) : own_Ends p e below s Q K N U := by
  obtain ⟨s2, o, h1, h2⟩ := k; exact ⟨s2, o, h _ h1, h2⟩
theorem own_ret0 (X : Stand p l e R s m args below meth c T locs cells slots) (hx : p.tables.exec = Jvm.exec) (hlk : meth.locks = false) {h : Heap} (eT : T.heap = h) {pc : Nat} {Ls : Array Slot} (hret : meth.sig.returnType = none)
    (hd : decode c.code pc = .ok (.return_, 1)) (hQ : Q none h locs) (hK : cells ≤ K) (hN : slots ≤ N) : own_Ends p e below s Q K N (T.setTop (mkF m pc Ls [])) := by
  obtain ⟨fs, hr, hrun, hended, hW, hsame⟩ := X.leave (v := none) (fun _ => rfl) hlk
  exact ⟨_, _, X.returnOut hx hret hd hr, hrun, hended, _, _, rfl, (by subst eT; exact hQ), ⟨_, rfl⟩, hW, hsame.mono hK hN⟩
theorem own_retI (X : Stand p l e R s m args below meth c T locs cells slots) (hx : p.tables.exec = Jvm.exec) (hlk : meth.locks = false) {h : Heap} (eT : T.heap = h) {pc : Nat} {Ls : Array Slot} {z : Int32} {rest : List Value} (hret : meth.sig.returnType = some .int)
    (hd : decode c.code pc = .ok (.ireturn, 1)) (hQ : Q (some (.int z)) h locs) (hK : cells ≤ K) (hN : slots ≤ N) : own_Ends p e below s Q K N (T.setTop (mkF m pc Ls (.int z :: rest))) := by
  obtain ⟨fs, hr, hrun, hended, hW, hsame⟩ := X.leave (v := some (.int z)) (fun h => by rw [hret] at h; cases h) hlk
  exact ⟨_, _, retOut X hx hret rfl (Or.inl ⟨rfl, Or.inl rfl, z, rfl⟩) hd hr, hrun, hended, _, _, rfl, (by subst eT; exact hQ), ⟨_, rfl⟩, hW, hsame.mono hK hN⟩
theorem own_retN (X : Stand p l e R s m args below meth c T locs cells slots) (hx : p.tables.exec = Jvm.exec) (hlk : meth.locks = false) {h : Heap} (eT : T.heap = h) {pc : Nat} {Ls : Array Slot} {z : Int32} {t : FieldType} {rest : List Value} (hret : meth.sig.returnType = some t) (ht : t = .boolean ∨ t = .byte ∨ t = .char ∨ t = .short) (hz : nar t z = z)
    (hd : decode c.code pc = .ok (.ireturn, 1)) (hQ : Q (some (.int z)) h locs) (hK : cells ≤ K) (hN : slots ≤ N) : own_Ends p e below s Q K N (T.setTop (mkF m pc Ls (.int z :: rest))) := by
  obtain ⟨fs, hr, hrun, hended, hW, hsame⟩ := X.leave (v := some (.int z)) (fun h => by rw [hret] at h; cases h) hlk
  exact ⟨_, _, retN X hx hret ht hd (by rw [hz]; exact hr), hrun, hended, _, _, rfl, (by subst eT; exact hQ), ⟨_, rfl⟩, hW, hsame.mono hK hN⟩
theorem own_retL (X : Stand p l e R s m args below meth c T locs cells slots) (hx : p.tables.exec = Jvm.exec) (hlk : meth.locks = false) {h : Heap} (eT : T.heap = h) {pc : Nat} {Ls : Array Slot} {z : Int64} {rest : List Value} (hret : meth.sig.returnType = some .long)
    (hd : decode c.code pc = .ok (.lreturn, 1)) (hQ : Q (some (.long z)) h locs) (hK : cells ≤ K) (hN : slots ≤ N) : own_Ends p e below s Q K N (T.setTop (mkF m pc Ls (.long z :: rest))) := by
  obtain ⟨fs, hr, hrun, hended, hW, hsame⟩ := X.leave (v := some (.long z)) (fun h => by rw [hret] at h; cases h) hlk
  exact ⟨_, _, retOut X hx hret rfl (Or.inr (Or.inl ⟨rfl, rfl, z, rfl⟩)) hd hr, hrun, hended, _, _, rfl, (by subst eT; exact hQ), ⟨_, rfl⟩, hW, hsame.mono hK hN⟩
theorem own_retA (X : Stand p l e R s m args below meth c T locs cells slots) (hx : p.tables.exec = Jvm.exec) (hlk : meth.locks = false) {h : Heap} (eT : T.heap = h) {pc : Nat} {Ls : Array Slot} {w : Value} {t : FieldType} {rest : List Value} (hw : w.isRef = true) (hret : meth.sig.returnType = some t) (ht : t.isReference = true)
    (hd : decode c.code pc = .ok (.areturn, 1)) (hQ : Q (some w) h locs) (hK : cells ≤ K) (hN : slots ≤ N) : own_Ends p e below s Q K N (T.setTop (mkF m pc Ls (w :: rest))) := by
  obtain ⟨fs, hr, hrun, hended, hW, hsame⟩ := X.leave (v := some w) (fun h => by rw [hret] at h; cases h) hlk
  exact ⟨_, _, retOut X hx hret (by cases t <;> cases w <;> first | rfl | (simp [FieldType.isReference] at ht) | (simp [Value.isRef] at hw)) (Or.inr (Or.inr (Or.inr (Or.inr ⟨rfl, ht, hw⟩)))) hd hr, hrun, hended, _, _, rfl, (by subst eT; exact hQ), ⟨_, rfl⟩, hW, hsame.mono hK hN⟩

theorem own_neg1 : (-1 : Int32).toInt = -1 := rfl
end OwnKit
theorem own_selPriv {s : State} {args args' : Array Value} {y : MethodName} {n : Nat} (wi : (Cond.instantiable y.cls n).before args s = true) (wp : (Cond.privateMethod y).before args' s = true) (wm : (Cond.instanceMethod y).before args s = true) (hy : y.cls ≠ "java/lang/invoke/MethodHandle" ∧ y.cls ≠ "java/lang/invoke/VarHandle") : (Cond.selects y.cls y y).before args s = true := by
  obtain ⟨c, k, h1, h2, h3, h4, -⟩ := Cond.instantiable_spec wi
  exact selects_self_of_private h1 h2 (Bool.or_eq_false_iff.mp h4).1 (Cond.privateMethod_at wp) wm hy
section OwnWords
variable {args : Array Value} {s : State} {t : Term} {x : Addr} {C n d : String} {cl : Cell} {ty : FieldType}
theorem own_evI {k : Int32} (h : (Cond.eq t (.int k)).value args s none s [] = some true) : t.eval args s none [] s = some (.int k) := by
  obtain ⟨y, z, h1, h2, h3, -⟩ := cmp_v (Or.inl h)
  have h2' : z = .int k := (Option.some.inj h2).symm
  subst h2'
  cases y with
  | int v =>
    have q : v = k := by simpa [Cond.value, h1, Term.eval] using h
    rw [h1, q]
  | _ => simp [Kin, Value.isRef] at h3
theorem own_fldS {k : Int32} (ht : t.eval args s none [] s = some (.ref x)) (h : (Cond.eq (.field t C n d) (.int k)).value args s none s [] = some true) : Fld s s.heap x C n d (.int k) :=
  Fld.start ((fld_at ht).symm.trans (own_evI h))
theorem own_lenEv {k : Int32} (ev : t.eval args s none [] s = some (.ref x)) (A : Arr s s.heap x cl ty) (h : (Cond.eq (.length t) (.int k)).value args s none s [] = some true) : cl.slots.size.toInt32 = k ∧ cl.slots.size < 2 ^ 31 := by
  have e := own_evI h
  have hat := A.fin (Vm.Alike.refl _)
  simp only [Term.eval, ev, hat, Option.bind_eq_bind, Option.bind_some] at e
  split at e
  · rename_i hlt
    exact ⟨Value.int.inj (Option.some.inj e), hlt⟩
  · cases e
theorem own_len256 (ev : t.eval args s none [] s = some (.ref x)) (A : Arr s s.heap x cl ty) (h : (Cond.eq (.length t) (.int 256)).value args s none s [] = some true) : cl.slots.size = 256 := by
  obtain ⟨h1, h2⟩ := own_lenEv ev A h
  have q := len_toInt h2
  rw [h1] at q
  have q' : (256 : Int32).toInt = 256 := rfl
  omega
theorem own_cacheEl {K : String} {E : Jvm.Cond} (ev : (Term.static K n d).eval args s none [] s = some (.ref x)) (A : Arr s s.heap x cl ty) (hsz : cl.slots.size = 256) (h : (Cond.all (.static K n d) (.and (.exactly (.elem (.static K n d) (.index 0)) C) E)).value args s none s [] = some true) : ∀ j, j < 256 → ∃ b, cl.slots[j]? = some (.ref b) ∧ Exa s s.heap b C := by
  intro j hj
  have hat := A.fin (Vm.Alike.refl _)
  obtain ⟨h1, -⟩ := and_e (Cond.all_elim ev hat h j (by rw [hsz]; exact hj))
  obtain ⟨b, eb⟩ := exa_v h1
  have evj : (Term.static K n d).eval args s none [j] s = some (.ref x) := ev
  have q := (elem_in eb evj (Term.index_eval j) A.1).2
  rw [show j.toInt32 = Int32.ofNat j from rfl, Int32.toNatClampNeg_ofNat_of_lt (by omega)] at q
  exact ⟨b, q, exa_at eb h1⟩
theorem own_elemI {i k : Int32} (ev : t.eval args s none [] s = some (.ref x)) (A : Arr s s.heap x cl ty) (h : (Cond.eq (.elem t (.int i)) (.int k)).value args s none s [] = some true) : ¬ (i < 0 ∨ cl.slots.size ≤ i.toNatClampNeg) ∧ cl.slots[i.toNatClampNeg]? = some (.int k) :=
  elem_in (own_evI h) ev (Term.int_eval i) A.1
end OwnWords

theorem own_d_prog_57_21_0 : decode prog_57_method_21_code 0 = .ok (.iload_n 0, 1) := by decide +kernel
theorem own_d_prog_57_21_1 : decode prog_57_method_21_code 1 = .ok (.bipush 32, 2) := by decide +kernel
theorem own_d_prog_57_21_3 : decode prog_57_method_21_code 3 = .ok (.if_icmp .eq 21, 3) := by decide +kernel
theorem own_d_prog_57_21_6 : decode prog_57_method_21_code 6 = .ok (.iload_n 0, 1) := by decide +kernel
theorem own_d_prog_57_21_7 : decode prog_57_method_21_code 7 = .ok (.bipush 9, 2) := by decide +kernel
theorem own_d_prog_57_21_9 : decode prog_57_method_21_code 9 = .ok (.if_icmp .eq 15, 3) := by decide +kernel
theorem own_d_prog_57_21_12 : decode prog_57_method_21_code 12 = .ok (.iload_n 0, 1) := by decide +kernel
theorem own_d_prog_57_21_13 : decode prog_57_method_21_code 13 = .ok (.bipush 10, 2) := by decide +kernel
theorem own_d_prog_57_21_15 : decode prog_57_method_21_code 15 = .ok (.if_icmp .eq 9, 3) := by decide +kernel
theorem own_d_prog_57_21_18 : decode prog_57_method_21_code 18 = .ok (.iload_n 0, 1) := by decide +kernel
theorem own_d_prog_57_21_19 : decode prog_57_method_21_code 19 = .ok (.bipush 13, 2) := by decide +kernel
theorem own_d_prog_57_21_21 : decode prog_57_method_21_code 21 = .ok (.if_icmp .ne 7, 3) := by decide +kernel
theorem own_d_prog_57_21_24 : decode prog_57_method_21_code 24 = .ok (.iconst 1, 1) := by decide +kernel
theorem own_d_prog_57_21_25 : decode prog_57_method_21_code 25 = .ok (.goto 4, 3) := by decide +kernel
theorem own_d_prog_57_21_28 : decode prog_57_method_21_code 28 = .ok (.iconst 0, 1) := by decide +kernel
theorem own_d_prog_57_21_29 : decode prog_57_method_21_code 29 = .ok (.ireturn, 1) := by decide +kernel
theorem own_pd0 : parseMethodDescriptor "(I)Z" = some ⟨[.int], some .boolean⟩ := by decide +kernel
theorem own_pn0 : plainName "crossmarc/reading/Iso2709Reader" = true := by first | (simp [plainName, overriddenIn]; done) | decide +kernel
theorem own_pn1 : plainName "crossmarc/reading/Iso2709ReaderIsWhiteSpacePinLaw" = true := by first | (simp [plainName, overriddenIn]; done) | decide +kernel
def own_ws (b : Int32) : Int32 := if b.toInt = 32 ∨ b.toInt = 9 ∨ b.toInt = 10 ∨ b.toInt = 13 then 1 else 0
def own_ex (b : Int32) : Int32 := if b.toInt = 32 ∨ (9 ≤ b.toInt ∧ b.toInt ≤ 13 ∧ ¬ b.toInt = 11 ∧ ¬ b.toInt = 12) then 1 else 0
theorem own_same (b : Int32) : own_ws b = own_ex b := by
  unfold own_ws own_ex
  split
  · rw [if_pos (by omega)]
  · rw [if_neg (by omega)]

def own_Q_own_rm1 (Z : State) (p0 : Int32) (h0 : Heap) (n0 : Nat) : Option Value → Heap → List Loc → Prop := fun v h L => v = some (.int (own_ws p0)) ∧ Fr n0 L ∧ h = h0
theorem own_ef_own_rm1 (m : MethodId) (x0 : Int32) : entryFrame m #[(.int x0)] 1 = mkF m 0 #[.val (.int x0)] [] := by first | (simp [entryFrame, mkF, argsToLocals, Value.category]; done) | rfl
set_option maxRecDepth 65536 in
set_option maxHeartbeats 40000000 in
theorem own_rm1 (l : Launch) (Z : State) (a0 : Array Value) (hw : ∀ d ∈ tables_1, d.before a0 Z = true) (ws : List Jvm.Cond) (p0 : Int32) (h0 : Heap) (n0 : Nat) :
    MetFree l (⟨"crossmarc/reading/Iso2709Reader", "isWhiteSpace", "(I)Z"⟩ : MethodName) (head1 (Jvm.Cond.code (⟨"crossmarc/reading/Iso2709Reader", "isWhiteSpace", "(I)Z"⟩ : MethodName) prog_57_method_21_code 1 (some .boolean) :: ws) ({ frames := 0, cells := 0, slots := 0, locals := 0 } : Room)) (fun a U => a = #[(.int p0)] ∧ Z.Warmed39 U.vm ∧ U.heap = h0) (fun _ _ _ _ _ => True) (fun _ U o U' => ∃ v L, o = .returned v ∧ (own_Q_own_rm1 Z p0 h0 n0) v U'.heap L ∧ FrameEnd U o U' L ({ frames := 0, cells := 0, slots := 0, locals := 0 } : Room).cells ({ frames := 0, cells := 0, slots := 0, locals := 0 } : Room).slots) := by
  refine MetFree.of_bodySF (plainFor_of_name own_pn0) hisR ?_
  intro p e s m args below meth c s₁ Bd hml0 hP hK
  obtain ⟨rfl, hZ, hh⟩ := hP
  have hx := Bd.exec
  have hby := Bd.bytes
  have hml : c.maxLocals = 1 := hml0
  have hown : s.vm.findClass "crossmarc/reading/Iso2709Reader" = some m.cls := findClass_of_methodNamed Bd.named
  have hnm := (name_of_methodNamed Bd.named Bd.method).1
  have hlk : meth.locks = false := BodyLoose.notSynchronized Bd
  have X0 : Stand p l e ({ frames := 0, cells := 0, slots := 0, locals := 0 } : Room) s m #[(.int p0)] below meth c s₁ [] 0 0 := Stand.of_body Bd
  have e0 : s₁.heap = h0 := by rw [← hh, Bd.state]; rfl
  have N0 := Fr.nil n0
  show own_Ends p e below s (own_Q_own_rm1 Z p0 h0 n0) ({ frames := 0, cells := 0, slots := 0, locals := 0 } : Room).cells ({ frames := 0, cells := 0, slots := 0, locals := 0 } : Room).slots _
  refine own_by (V := s₁.setTop (mkF m 0 #[.val (.int p0)] [])) (fun t k => castTop (own_ef_own_rm1 m p0) k) ?_
  refine own_by (V := s₁.setTop (mkF m 1 #[.val (.int p0)] [(.int p0)])) (fun t k => XS.iloadN X0.here hx rfl (hb hby own_d_prog_57_21_0) rfl  k) ?_
  refine own_by (V := s₁.setTop (mkF m 3 #[.val (.int p0)] [(.int (32 : Int32)), (.int p0)])) (fun t k => XS.bipush X0.here hx rfl (hb hby own_d_prog_57_21_1) k) ?_
  by_cases hb3_1 : p0 = (32 : Int32)
  · refine own_by (V := s₁.setTop (mkF m 24 #[.val (.int p0)] [])) (fun t k => XS.icmpYes X0.here hx rfl (pc0 := 3) (pc' := 24) rfl (hb hby own_d_prog_57_21_3) rfl (teq hb3_1).1 (by decide) (by decide) k) ?_
    refine own_by (V := s₁.setTop (mkF m 25 #[.val (.int p0)] [(.int (1 : Int32))])) (fun t k => XS.iconst X0.here hx rfl (hb hby own_d_prog_57_21_24) k) ?_
    refine own_by (V := s₁.setTop (mkF m 29 #[.val (.int p0)] [(.int (1 : Int32))])) (fun t k => XS.goto X0.here hx rfl (pc0 := 25) (pc' := 29) rfl (hb hby own_d_prog_57_21_25) (by decide) (by decide) k) ?_
    refine own_retN X0 hx hlk e0 Bd.returns (t := .boolean) (by simp) rfl (hb hby own_d_prog_57_21_29) ?_ (by decide) (by decide)
    exact ⟨congrArg (fun z => some (Value.int z)) (show (1 : Int32) = (own_ws p0) from by (try simp only [Int32.lt_iff_toInt_lt, ← Int32.toInt_inj, own_neg1, Int32.reduceToInt] at hb3_1; exact (if_pos (by omega)).symm)), N0, rfl⟩
  · refine own_by (V := s₁.setTop (mkF m 6 #[.val (.int p0)] [])) (fun t k => XS.icmpNo X0.here hx rfl (hb hby own_d_prog_57_21_3) rfl (feq hb3_1).1 k) ?_
    refine own_by (V := s₁.setTop (mkF m 7 #[.val (.int p0)] [(.int p0)])) (fun t k => XS.iloadN X0.here hx rfl (hb hby own_d_prog_57_21_6) rfl  k) ?_
    refine own_by (V := s₁.setTop (mkF m 9 #[.val (.int p0)] [(.int (9 : Int32)), (.int p0)])) (fun t k => XS.bipush X0.here hx rfl (hb hby own_d_prog_57_21_7) k) ?_
    by_cases hb9_2 : p0 = (9 : Int32)
    · refine own_by (V := s₁.setTop (mkF m 24 #[.val (.int p0)] [])) (fun t k => XS.icmpYes X0.here hx rfl (pc0 := 9) (pc' := 24) rfl (hb hby own_d_prog_57_21_9) rfl (teq hb9_2).1 (by decide) (by decide) k) ?_
      refine own_by (V := s₁.setTop (mkF m 25 #[.val (.int p0)] [(.int (1 : Int32))])) (fun t k => XS.iconst X0.here hx rfl (hb hby own_d_prog_57_21_24) k) ?_
      refine own_by (V := s₁.setTop (mkF m 29 #[.val (.int p0)] [(.int (1 : Int32))])) (fun t k => XS.goto X0.here hx rfl (pc0 := 25) (pc' := 29) rfl (hb hby own_d_prog_57_21_25) (by decide) (by decide) k) ?_
      refine own_retN X0 hx hlk e0 Bd.returns (t := .boolean) (by simp) rfl (hb hby own_d_prog_57_21_29) ?_ (by decide) (by decide)
      exact ⟨congrArg (fun z => some (Value.int z)) (show (1 : Int32) = (own_ws p0) from by (try simp only [Int32.lt_iff_toInt_lt, ← Int32.toInt_inj, own_neg1, Int32.reduceToInt] at hb3_1; try simp only [Int32.lt_iff_toInt_lt, ← Int32.toInt_inj, own_neg1, Int32.reduceToInt] at hb9_2; exact (if_pos (by omega)).symm)), N0, rfl⟩
    · refine own_by (V := s₁.setTop (mkF m 12 #[.val (.int p0)] [])) (fun t k => XS.icmpNo X0.here hx rfl (hb hby own_d_prog_57_21_9) rfl (feq hb9_2).1 k) ?_
      refine own_by (V := s₁.setTop (mkF m 13 #[.val (.int p0)] [(.int p0)])) (fun t k => XS.iloadN X0.here hx rfl (hb hby own_d_prog_57_21_12) rfl  k) ?_
      refine own_by (V := s₁.setTop (mkF m 15 #[.val (.int p0)] [(.int (10 : Int32)), (.int p0)])) (fun t k => XS.bipush X0.here hx rfl (hb hby own_d_prog_57_21_13) k) ?_
      by_cases hb15_3 : p0 = (10 : Int32)
      · refine own_by (V := s₁.setTop (mkF m 24 #[.val (.int p0)] [])) (fun t k => XS.icmpYes X0.here hx rfl (pc0 := 15) (pc' := 24) rfl (hb hby own_d_prog_57_21_15) rfl (teq hb15_3).1 (by decide) (by decide) k) ?_
        refine own_by (V := s₁.setTop (mkF m 25 #[.val (.int p0)] [(.int (1 : Int32))])) (fun t k => XS.iconst X0.here hx rfl (hb hby own_d_prog_57_21_24) k) ?_
        refine own_by (V := s₁.setTop (mkF m 29 #[.val (.int p0)] [(.int (1 : Int32))])) (fun t k => XS.goto X0.here hx rfl (pc0 := 25) (pc' := 29) rfl (hb hby own_d_prog_57_21_25) (by decide) (by decide) k) ?_
        refine own_retN X0 hx hlk e0 Bd.returns (t := .boolean) (by simp) rfl (hb hby own_d_prog_57_21_29) ?_ (by decide) (by decide)
        exact ⟨congrArg (fun z => some (Value.int z)) (show (1 : Int32) = (own_ws p0) from by (try simp only [Int32.lt_iff_toInt_lt, ← Int32.toInt_inj, own_neg1, Int32.reduceToInt] at hb3_1; try simp only [Int32.lt_iff_toInt_lt, ← Int32.toInt_inj, own_neg1, Int32.reduceToInt] at hb9_2; try simp only [Int32.lt_iff_toInt_lt, ← Int32.toInt_inj, own_neg1, Int32.reduceToInt] at hb15_3; exact (if_pos (by omega)).symm)), N0, rfl⟩
      · refine own_by (V := s₁.setTop (mkF m 18 #[.val (.int p0)] [])) (fun t k => XS.icmpNo X0.here hx rfl (hb hby own_d_prog_57_21_15) rfl (feq hb15_3).1 k) ?_
        refine own_by (V := s₁.setTop (mkF m 19 #[.val (.int p0)] [(.int p0)])) (fun t k => XS.iloadN X0.here hx rfl (hb hby own_d_prog_57_21_18) rfl  k) ?_
        refine own_by (V := s₁.setTop (mkF m 21 #[.val (.int p0)] [(.int (13 : Int32)), (.int p0)])) (fun t k => XS.bipush X0.here hx rfl (hb hby own_d_prog_57_21_19) k) ?_
        by_cases hb21_4 : p0 = (13 : Int32)
        · refine own_by (V := s₁.setTop (mkF m 24 #[.val (.int p0)] [])) (fun t k => XS.icmpNo X0.here hx rfl (hb hby own_d_prog_57_21_21) rfl (teq hb21_4).2 k) ?_
          refine own_by (V := s₁.setTop (mkF m 25 #[.val (.int p0)] [(.int (1 : Int32))])) (fun t k => XS.iconst X0.here hx rfl (hb hby own_d_prog_57_21_24) k) ?_
          refine own_by (V := s₁.setTop (mkF m 29 #[.val (.int p0)] [(.int (1 : Int32))])) (fun t k => XS.goto X0.here hx rfl (pc0 := 25) (pc' := 29) rfl (hb hby own_d_prog_57_21_25) (by decide) (by decide) k) ?_
          refine own_retN X0 hx hlk e0 Bd.returns (t := .boolean) (by simp) rfl (hb hby own_d_prog_57_21_29) ?_ (by decide) (by decide)
          exact ⟨congrArg (fun z => some (Value.int z)) (show (1 : Int32) = (own_ws p0) from by (try simp only [Int32.lt_iff_toInt_lt, ← Int32.toInt_inj, own_neg1, Int32.reduceToInt] at hb3_1; try simp only [Int32.lt_iff_toInt_lt, ← Int32.toInt_inj, own_neg1, Int32.reduceToInt] at hb9_2; try simp only [Int32.lt_iff_toInt_lt, ← Int32.toInt_inj, own_neg1, Int32.reduceToInt] at hb15_3; try simp only [Int32.lt_iff_toInt_lt, ← Int32.toInt_inj, own_neg1, Int32.reduceToInt] at hb21_4; exact (if_pos (by omega)).symm)), N0, rfl⟩
        · refine own_by (V := s₁.setTop (mkF m 28 #[.val (.int p0)] [])) (fun t k => XS.icmpYes X0.here hx rfl (pc0 := 21) (pc' := 28) rfl (hb hby own_d_prog_57_21_21) rfl (feq hb21_4).2 (by decide) (by decide) k) ?_
          refine own_by (V := s₁.setTop (mkF m 29 #[.val (.int p0)] [(.int (0 : Int32))])) (fun t k => XS.iconst X0.here hx rfl (hb hby own_d_prog_57_21_28) k) ?_
          refine own_retN X0 hx hlk e0 Bd.returns (t := .boolean) (by simp) rfl (hb hby own_d_prog_57_21_29) ?_ (by decide) (by decide)
          exact ⟨congrArg (fun z => some (Value.int z)) (show (0 : Int32) = (own_ws p0) from by (try simp only [Int32.lt_iff_toInt_lt, ← Int32.toInt_inj, own_neg1, Int32.reduceToInt] at hb3_1; try simp only [Int32.lt_iff_toInt_lt, ← Int32.toInt_inj, own_neg1, Int32.reduceToInt] at hb9_2; try simp only [Int32.lt_iff_toInt_lt, ← Int32.toInt_inj, own_neg1, Int32.reduceToInt] at hb15_3; try simp only [Int32.lt_iff_toInt_lt, ← Int32.toInt_inj, own_neg1, Int32.reduceToInt] at hb21_4; exact (if_neg (by omega)).symm)), N0, rfl⟩
def own_Q_own_rm0 (Z : State) (p0 : Int32) (p1 : Int32) (h0 : Heap) (n0 : Nat) : Option Value → Heap → List Loc → Prop := fun v h L => v = some (.int 1) ∧ Fr n0 L
theorem own_ef_own_rm0 (m : MethodId) (x0 : Int32) (x1 : Int32) : entryFrame m #[(.int x0), (.int x1)] maxLocals = mkF m 0 #[.val (.int x0), .val (.int x1), .unset, .unset, .unset] [] := by first | (simp [entryFrame, mkF, argsToLocals, Value.category, maxLocals]; done) | rfl
set_option maxRecDepth 65536 in
set_option maxHeartbeats 40000000 in
theorem own_rm0 (l : Launch) (Z : State) (a0 : Array Value) (hw : ∀ d ∈ tables_1, d.before a0 Z = true) (ws : List Jvm.Cond) (p0 : Int32) (p1 : Int32) (h0 : Heap) (n0 : Nat) :
    MetFree l x (head1 (Jvm.Cond.code x code maxLocals ret :: ws) room_1) (fun a U => a = #[(.int p0), (.int p1)] ∧ Z.Warmed39 U.vm ∧ U.heap = h0) (fun _ _ _ _ _ => True) (fun _ U o U' => ∃ v L, o = .returned v ∧ (own_Q_own_rm0 Z p0 p1 h0 n0) v U'.heap L ∧ FrameEnd U o U' L room_1.cells room_1.slots) := by
  refine MetFree.of_bodySF (plainFor_of_name own_pn1) hisR ?_
  intro p e s m args below meth c s₁ Bd hml0 hP hK
  obtain ⟨rfl, hZ, hh⟩ := hP
  have hx := Bd.exec
  have hby := Bd.bytes
  have hml : c.maxLocals = 5 := hml0
  have hown : s.vm.findClass "crossmarc/reading/Iso2709ReaderIsWhiteSpacePinLaw" = some m.cls := findClass_of_methodNamed Bd.named
  have hnm := (name_of_methodNamed Bd.named Bd.method).1
  have hlk : meth.locks = false := BodyLoose.notSynchronized Bd
  have X0 : Stand p l e room_1 s m #[(.int p0), (.int p1)] below meth c s₁ [] 0 0 := Stand.of_body Bd
  have e0 : s₁.heap = h0 := by rw [← hh, Bd.state]; rfl
  have N0 := Fr.nil n0
  show own_Ends p e below s (own_Q_own_rm0 Z p0 p1 h0 n0) room_1.cells room_1.slots _
  refine own_by (V := s₁.setTop (mkF m 0 #[.val (.int p0), .val (.int p1), .unset, .unset, .unset] [])) (fun t k => castTop (own_ef_own_rm0 m p0 p1) k) ?_
  refine own_by (V := s₁.setTop (mkF m 1 #[.val (.int p0), .val (.int p1), .unset, .unset, .unset] [(.int p1)])) (fun t k => XS.iloadN X0.here hx rfl (hb hby at_0) rfl  k) ?_
  refine own_by (V := s₁.setTop (mkF m 2 #[.val (.int p0), .val (.int p1), .unset, .unset, .unset] [(.int (3 : Int32)), (.int p1)])) (fun t k => XS.iconst X0.here hx rfl (hb hby at_1) k) ?_
  refine own_by (V := s₁.setTop (mkF m 3 #[.val (.int p0), .val (.int p1), .unset, .unset, .unset] [(.int (p1 &&& (3 : Int32)))])) (fun t k => XS.iand X0.here hx rfl (hb hby at_2) rfl k) ?_
  obtain ⟨z1, hz1⟩ : ∃ z : Int32, z = (p1 &&& (3 : Int32)) := ⟨_, rfl⟩
  rw [← hz1]
  refine own_by (V := s₁.setTop (mkF m 4 #[.val (.int p0), .val (.int p1), .val (.int z1), .unset, .unset] [])) (fun t k => XS.istoreN X0.here hx rfl (hb hby at_3) rfl (l' := #[.val (.int p0), .val (.int p1), .val (.int z1), .unset, .unset]) rfl k) ?_
  refine own_by (V := s₁.setTop (mkF m 5 #[.val (.int p0), .val (.int p1), .val (.int z1), .unset, .unset] [(.int z1)])) (fun t k => XS.iloadN X0.here hx rfl (hb hby at_4) rfl  k) ?_
  have J2 : ∀ (T2 : State) (l2 : List Loc) (b3 : Int32) (X2 : Stand p l e room_1 s m #[(.int p0), (.int p1)] below meth c T2 l2 0 0) (e2 : T2.heap = h0) (N2 : Fr n0 l2), own_Ends p e below s (own_Q_own_rm0 Z p0 p1 h0 n0) room_1.cells room_1.slots (T2.setTop (mkF m 45 #[.val (.int p0), .val (.int p1), .val (.int z1), .val (.int b3), .unset] [])) := by
    intro T2 l2 b3 X2 e2 N2 
    refine own_by (V := T2.setTop (mkF m 46 #[.val (.int p0), .val (.int p1), .val (.int z1), .val (.int b3), .unset] [(.int b3)])) (fun t k => XS.iloadN X2.here hx rfl (hb hby at_45) rfl  k) ?_
    refine own_by (V := T2.setTop (mkF m 48 #[.val (.int p0), .val (.int p1), .val (.int z1), .val (.int b3), .unset] [(.int (32 : Int32)), (.int b3)])) (fun t k => XS.bipush X2.here hx rfl (hb hby at_46) k) ?_
    have J3 : ∀ (T3 : State) (l3 : List Loc) (v4 : Int32) (X3 : Stand p l e room_1 s m #[(.int p0), (.int p1)] below meth c T3 l3 0 0) (e3 : T3.heap = h0) (N3 : Fr n0 l3) (hv4 : v4 = own_ex b3), own_Ends p e below s (own_Q_own_rm0 Z p0 p1 h0 n0) room_1.cells room_1.slots (T3.setTop (mkF m 80 #[.val (.int p0), .val (.int p1), .val (.int z1), .val (.int b3), .unset] [(.int v4)])) := by
      intro T3 l3 v4 X3 e3 N3 hv4
      refine own_by (V := T3.setTop (mkF m 82 #[.val (.int p0), .val (.int p1), .val (.int z1), .val (.int b3), .val (.int v4)] [])) (fun t k => XS.istore X3.here hx rfl (hb hby at_80) rfl (l' := #[.val (.int p0), .val (.int p1), .val (.int z1), .val (.int b3), .val (.int v4)]) rfl k) ?_
      refine own_by (V := T3.setTop (mkF m 83 #[.val (.int p0), .val (.int p1), .val (.int z1), .val (.int b3), .val (.int v4)] [(.int b3)])) (fun t k => XS.iloadN X3.here hx rfl (hb hby at_82) rfl  k) ?_
      obtain ⟨_, _, ⟨T4, Lq4, kq4, nq4⟩, -, X4, ⟨Lc4, hQ4, lq4, yq4, zq4⟩, st4⟩ := Jvm.LawKit.callS X3 hx (y := (⟨"crossmarc/reading/Iso2709Reader", "isWhiteSpace", "(I)Z"⟩ : MethodName)) hown (mvT hZ (hw _ (List.mem_of_getElem? (i := 0) rfl))) (mvT hZ (hw _ (List.mem_of_getElem? (i := 1) rfl))) (mvT hZ (hw _ (List.mem_of_getElem? (i := 2) rfl))) (mvT hZ (hw _ (List.mem_of_getElem? (i := 3) rfl))) (by decide) (backOf (W := 0) (own_rm1 l Z a0 hw [] b3 h0 n0) hZ (hw _ (List.mem_of_getElem? (i := 3) rfl)) (hw _ (List.mem_of_getElem? (i := 2) rfl)) (by decide) (by decide)) (g := (mkF m 83 #[.val (.int p0), .val (.int p1), .val (.int z1), .val (.int b3), .val (.int v4)] [(.int b3)])) rfl (by rw [hml]; rfl) (argsL := [(.int b3)]) (rest := []) (lenOf own_pd0 rfl) rfl (by show 2 * 0 + _ ≤ _; exact Nat.le_of_eq rfl) (hb hby at_83) (fun _ _ => ⟨rfl, e3, (by decide : 0 + 0 ≤ _), (by decide : 0 + 0 ≤ _)⟩)
      dsimp only [Pt.U, Pt.locs, Pt.cells, Pt.slots] at X4 lq4 yq4 zq4 st4 hQ4
      subst lq4 yq4 zq4
      obtain ⟨rfl, N4q, e4⟩ := hQ4
      have N4 := Fr.app N3 N4q
      refine own_by (V := T4.setTop (mkF m 86 #[.val (.int p0), .val (.int p1), .val (.int z1), .val (.int b3), .val (.int v4)] [(.int (own_ws b3))])) st4 ?_
      refine own_by (V := T4.setTop (mkF m 88 #[.val (.int p0), .val (.int p1), .val (.int z1), .val (.int b3), .val (.int v4)] [(.int v4), (.int (own_ws b3))])) (fun t k => XS.iload X4.here hx rfl (hb hby at_86) rfl  k) ?_
      have hb88_5 : ((own_ws b3) = v4) := by rw [hv4]; exact own_same b3
      refine own_by (V := T4.setTop (mkF m 91 #[.val (.int p0), .val (.int p1), .val (.int z1), .val (.int b3), .val (.int v4)] [])) (fun t k => XS.icmpNo X4.here hx rfl (hb hby at_88) rfl (teq hb88_5).2 k) ?_
      refine own_by (V := T4.setTop (mkF m 92 #[.val (.int p0), .val (.int p1), .val (.int z1), .val (.int b3), .val (.int v4)] [(.int (1 : Int32))])) (fun t k => XS.iconst X4.here hx rfl (hb hby at_91) k) ?_
      refine own_by (V := T4.setTop (mkF m 96 #[.val (.int p0), .val (.int p1), .val (.int z1), .val (.int b3), .val (.int v4)] [(.int (1 : Int32))])) (fun t k => XS.goto X4.here hx rfl (pc0 := 92) (pc' := 96) rfl (hb hby at_92) (by decide) (by decide) k) ?_
      refine own_retN X4 hx hlk e4 Bd.returns (t := .boolean) (by simp) rfl (hb hby at_96) ?_ (by decide) (by decide)
      exact ⟨rfl, N4⟩
    by_cases hb48_6 : b3 = (32 : Int32)
    · refine own_by (V := T2.setTop (mkF m 75 #[.val (.int p0), .val (.int p1), .val (.int z1), .val (.int b3), .unset] [])) (fun t k => XS.icmpYes X2.here hx rfl (pc0 := 48) (pc' := 75) rfl (hb hby at_48) rfl (teq hb48_6).1 (by decide) (by decide) k) ?_
      refine own_by (V := T2.setTop (mkF m 76 #[.val (.int p0), .val (.int p1), .val (.int z1), .val (.int b3), .unset] [(.int (1 : Int32))])) (fun t k => XS.iconst X2.here hx rfl (hb hby at_75) k) ?_
      refine own_by (V := T2.setTop (mkF m 80 #[.val (.int p0), .val (.int p1), .val (.int z1), .val (.int b3), .unset] [(.int (1 : Int32))])) (fun t k => XS.goto X2.here hx rfl (pc0 := 76) (pc' := 80) rfl (hb hby at_76) (by decide) (by decide) k) ?_
      exact J3 T2 _ (1 : Int32) (X2.more (by decide) (by decide)) e2 N2 (by (try simp only [Int32.lt_iff_toInt_lt, ← Int32.toInt_inj, own_neg1, Int32.reduceToInt] at hb48_6; exact (if_pos (by omega)).symm))
    · refine own_by (V := T2.setTop (mkF m 51 #[.val (.int p0), .val (.int p1), .val (.int z1), .val (.int b3), .unset] [])) (fun t k => XS.icmpNo X2.here hx rfl (hb hby at_48) rfl (feq hb48_6).1 k) ?_
      refine own_by (V := T2.setTop (mkF m 52 #[.val (.int p0), .val (.int p1), .val (.int z1), .val (.int b3), .unset] [(.int b3)])) (fun t k => XS.iloadN X2.here hx rfl (hb hby at_51) rfl  k) ?_
      refine own_by (V := T2.setTop (mkF m 54 #[.val (.int p0), .val (.int p1), .val (.int z1), .val (.int b3), .unset] [(.int (9 : Int32)), (.int b3)])) (fun t k => XS.bipush X2.here hx rfl (hb hby at_52) k) ?_
      by_cases hb54_7 : b3 < (9 : Int32)
      · refine own_by (V := T2.setTop (mkF m 79 #[.val (.int p0), .val (.int p1), .val (.int z1), .val (.int b3), .unset] [])) (fun t k => XS.icmpYes X2.here hx rfl (pc0 := 54) (pc' := 79) rfl (hb hby at_54) rfl (tlt hb54_7).1 (by decide) (by decide) k) ?_
        refine own_by (V := T2.setTop (mkF m 80 #[.val (.int p0), .val (.int p1), .val (.int z1), .val (.int b3), .unset] [(.int (0 : Int32))])) (fun t k => XS.iconst X2.here hx rfl (hb hby at_79) k) ?_
        exact J3 T2 _ (0 : Int32) (X2.more (by decide) (by decide)) e2 N2 (by (try simp only [Int32.lt_iff_toInt_lt, ← Int32.toInt_inj, own_neg1, Int32.reduceToInt] at hb48_6; try simp only [Int32.lt_iff_toInt_lt, ← Int32.toInt_inj, own_neg1, Int32.reduceToInt] at hb54_7; exact (if_neg (by omega)).symm))
      · refine own_by (V := T2.setTop (mkF m 57 #[.val (.int p0), .val (.int p1), .val (.int z1), .val (.int b3), .unset] [])) (fun t k => XS.icmpNo X2.here hx rfl (hb hby at_54) rfl (flt hb54_7).1 k) ?_
        refine own_by (V := T2.setTop (mkF m 58 #[.val (.int p0), .val (.int p1), .val (.int z1), .val (.int b3), .unset] [(.int b3)])) (fun t k => XS.iloadN X2.here hx rfl (hb hby at_57) rfl  k) ?_
        refine own_by (V := T2.setTop (mkF m 60 #[.val (.int p0), .val (.int p1), .val (.int z1), .val (.int b3), .unset] [(.int (13 : Int32)), (.int b3)])) (fun t k => XS.bipush X2.here hx rfl (hb hby at_58) k) ?_
        by_cases hb60_8 : (13 : Int32) < b3
        · refine own_by (V := T2.setTop (mkF m 79 #[.val (.int p0), .val (.int p1), .val (.int z1), .val (.int b3), .unset] [])) (fun t k => XS.icmpYes X2.here hx rfl (pc0 := 60) (pc' := 79) rfl (hb hby at_60) rfl (tlt hb60_8).2.2.1 (by decide) (by decide) k) ?_
          refine own_by (V := T2.setTop (mkF m 80 #[.val (.int p0), .val (.int p1), .val (.int z1), .val (.int b3), .unset] [(.int (0 : Int32))])) (fun t k => XS.iconst X2.here hx rfl (hb hby at_79) k) ?_
          exact J3 T2 _ (0 : Int32) (X2.more (by decide) (by decide)) e2 N2 (by (try simp only [Int32.lt_iff_toInt_lt, ← Int32.toInt_inj, own_neg1, Int32.reduceToInt] at hb48_6; try simp only [Int32.lt_iff_toInt_lt, ← Int32.toInt_inj, own_neg1, Int32.reduceToInt] at hb54_7; try simp only [Int32.lt_iff_toInt_lt, ← Int32.toInt_inj, own_neg1, Int32.reduceToInt] at hb60_8; exact (if_neg (by omega)).symm))
        · refine own_by (V := T2.setTop (mkF m 63 #[.val (.int p0), .val (.int p1), .val (.int z1), .val (.int b3), .unset] [])) (fun t k => XS.icmpNo X2.here hx rfl (hb hby at_60) rfl (flt hb60_8).2.2.1 k) ?_
          refine own_by (V := T2.setTop (mkF m 64 #[.val (.int p0), .val (.int p1), .val (.int z1), .val (.int b3), .unset] [(.int b3)])) (fun t k => XS.iloadN X2.here hx rfl (hb hby at_63) rfl  k) ?_
          refine own_by (V := T2.setTop (mkF m 66 #[.val (.int p0), .val (.int p1), .val (.int z1), .val (.int b3), .unset] [(.int (11 : Int32)), (.int b3)])) (fun t k => XS.bipush X2.here hx rfl (hb hby at_64) k) ?_
          by_cases hb66_9 : b3 = (11 : Int32)
          · refine own_by (V := T2.setTop (mkF m 79 #[.val (.int p0), .val (.int p1), .val (.int z1), .val (.int b3), .unset] [])) (fun t k => XS.icmpYes X2.here hx rfl (pc0 := 66) (pc' := 79) rfl (hb hby at_66) rfl (teq hb66_9).1 (by decide) (by decide) k) ?_
            refine own_by (V := T2.setTop (mkF m 80 #[.val (.int p0), .val (.int p1), .val (.int z1), .val (.int b3), .unset] [(.int (0 : Int32))])) (fun t k => XS.iconst X2.here hx rfl (hb hby at_79) k) ?_
            exact J3 T2 _ (0 : Int32) (X2.more (by decide) (by decide)) e2 N2 (by (try simp only [Int32.lt_iff_toInt_lt, ← Int32.toInt_inj, own_neg1, Int32.reduceToInt] at hb48_6; try simp only [Int32.lt_iff_toInt_lt, ← Int32.toInt_inj, own_neg1, Int32.reduceToInt] at hb54_7; try simp only [Int32.lt_iff_toInt_lt, ← Int32.toInt_inj, own_neg1, Int32.reduceToInt] at hb60_8; try simp only [Int32.lt_iff_toInt_lt, ← Int32.toInt_inj, own_neg1, Int32.reduceToInt] at hb66_9; exact (if_neg (by omega)).symm))
          · refine own_by (V := T2.setTop (mkF m 69 #[.val (.int p0), .val (.int p1), .val (.int z1), .val (.int b3), .unset] [])) (fun t k => XS.icmpNo X2.here hx rfl (hb hby at_66) rfl (feq hb66_9).1 k) ?_
            refine own_by (V := T2.setTop (mkF m 70 #[.val (.int p0), .val (.int p1), .val (.int z1), .val (.int b3), .unset] [(.int b3)])) (fun t k => XS.iloadN X2.here hx rfl (hb hby at_69) rfl  k) ?_
            refine own_by (V := T2.setTop (mkF m 72 #[.val (.int p0), .val (.int p1), .val (.int z1), .val (.int b3), .unset] [(.int (12 : Int32)), (.int b3)])) (fun t k => XS.bipush X2.here hx rfl (hb hby at_70) k) ?_
            by_cases hb72_10 : b3 = (12 : Int32)
            · refine own_by (V := T2.setTop (mkF m 79 #[.val (.int p0), .val (.int p1), .val (.int z1), .val (.int b3), .unset] [])) (fun t k => XS.icmpYes X2.here hx rfl (pc0 := 72) (pc' := 79) rfl (hb hby at_72) rfl (teq hb72_10).1 (by decide) (by decide) k) ?_
              refine own_by (V := T2.setTop (mkF m 80 #[.val (.int p0), .val (.int p1), .val (.int z1), .val (.int b3), .unset] [(.int (0 : Int32))])) (fun t k => XS.iconst X2.here hx rfl (hb hby at_79) k) ?_
              exact J3 T2 _ (0 : Int32) (X2.more (by decide) (by decide)) e2 N2 (by (try simp only [Int32.lt_iff_toInt_lt, ← Int32.toInt_inj, own_neg1, Int32.reduceToInt] at hb48_6; try simp only [Int32.lt_iff_toInt_lt, ← Int32.toInt_inj, own_neg1, Int32.reduceToInt] at hb54_7; try simp only [Int32.lt_iff_toInt_lt, ← Int32.toInt_inj, own_neg1, Int32.reduceToInt] at hb60_8; try simp only [Int32.lt_iff_toInt_lt, ← Int32.toInt_inj, own_neg1, Int32.reduceToInt] at hb66_9; try simp only [Int32.lt_iff_toInt_lt, ← Int32.toInt_inj, own_neg1, Int32.reduceToInt] at hb72_10; exact (if_neg (by omega)).symm))
            · refine own_by (V := T2.setTop (mkF m 75 #[.val (.int p0), .val (.int p1), .val (.int z1), .val (.int b3), .unset] [])) (fun t k => XS.icmpNo X2.here hx rfl (hb hby at_72) rfl (feq hb72_10).1 k) ?_
              refine own_by (V := T2.setTop (mkF m 76 #[.val (.int p0), .val (.int p1), .val (.int z1), .val (.int b3), .unset] [(.int (1 : Int32))])) (fun t k => XS.iconst X2.here hx rfl (hb hby at_75) k) ?_
              refine own_by (V := T2.setTop (mkF m 80 #[.val (.int p0), .val (.int p1), .val (.int z1), .val (.int b3), .unset] [(.int (1 : Int32))])) (fun t k => XS.goto X2.here hx rfl (pc0 := 76) (pc' := 80) rfl (hb hby at_76) (by decide) (by decide) k) ?_
              exact J3 T2 _ (1 : Int32) (X2.more (by decide) (by decide)) e2 N2 (by (try simp only [Int32.lt_iff_toInt_lt, ← Int32.toInt_inj, own_neg1, Int32.reduceToInt] at hb48_6; try simp only [Int32.lt_iff_toInt_lt, ← Int32.toInt_inj, own_neg1, Int32.reduceToInt] at hb54_7; try simp only [Int32.lt_iff_toInt_lt, ← Int32.toInt_inj, own_neg1, Int32.reduceToInt] at hb60_8; try simp only [Int32.lt_iff_toInt_lt, ← Int32.toInt_inj, own_neg1, Int32.reduceToInt] at hb66_9; try simp only [Int32.lt_iff_toInt_lt, ← Int32.toInt_inj, own_neg1, Int32.reduceToInt] at hb72_10; exact (if_pos (by omega)).symm))
  by_cases hb5_11 : z1 = (0 : Int32)
  · refine own_by (V := s₁.setTop (mkF m 8 #[.val (.int p0), .val (.int p1), .val (.int z1), .unset, .unset] [])) (fun t k => XS.ifNo X0.here hx rfl (hb hby at_5) rfl ((if0 _ _).trans (teq hb5_11).2) k) ?_
    refine own_by (V := s₁.setTop (mkF m 9 #[.val (.int p0), .val (.int p1), .val (.int z1), .unset, .unset] [(.int p0)])) (fun t k => XS.iloadN X0.here hx rfl (hb hby at_8) rfl  k) ?_
    refine own_by (V := s₁.setTop (mkF m 10 #[.val (.int p0), .val (.int p1), .val (.int z1), .val (.int p0), .unset] [])) (fun t k => XS.istoreN X0.here hx rfl (hb hby at_9) rfl (l' := #[.val (.int p0), .val (.int p1), .val (.int z1), .val (.int p0), .unset]) rfl k) ?_
    refine own_by (V := s₁.setTop (mkF m 45 #[.val (.int p0), .val (.int p1), .val (.int z1), .val (.int p0), .unset] [])) (fun t k => XS.goto X0.here hx rfl (pc0 := 10) (pc' := 45) rfl (hb hby at_10) (by decide) (by decide) k) ?_
    exact J2 s₁ _ p0 (X0.more (by decide) (by decide)) e0 N0 
  · refine own_by (V := s₁.setTop (mkF m 13 #[.val (.int p0), .val (.int p1), .val (.int z1), .unset, .unset] [])) (fun t k => XS.ifYes X0.here hx rfl (pc0 := 5) (pc' := 13) rfl (hb hby at_5) rfl ((if0 _ _).trans (feq hb5_11).2) (by decide) (by decide) k) ?_
    refine own_by (V := s₁.setTop (mkF m 14 #[.val (.int p0), .val (.int p1), .val (.int z1), .unset, .unset] [(.int z1)])) (fun t k => XS.iloadN X0.here hx rfl (hb hby at_13) rfl  k) ?_
    refine own_by (V := s₁.setTop (mkF m 15 #[.val (.int p0), .val (.int p1), .val (.int z1), .unset, .unset] [(.int (1 : Int32)), (.int z1)])) (fun t k => XS.iconst X0.here hx rfl (hb hby at_14) k) ?_
    by_cases hb15_12 : z1 = (1 : Int32)
    · refine own_by (V := s₁.setTop (mkF m 18 #[.val (.int p0), .val (.int p1), .val (.int z1), .unset, .unset] [])) (fun t k => XS.icmpNo X0.here hx rfl (hb hby at_15) rfl (teq hb15_12).2 k) ?_
      refine own_by (V := s₁.setTop (mkF m 19 #[.val (.int p0), .val (.int p1), .val (.int z1), .unset, .unset] [(.int p0)])) (fun t k => XS.iloadN X0.here hx rfl (hb hby at_18) rfl  k) ?_
      refine own_by (V := s₁.setTop (mkF m 21 #[.val (.int p0), .val (.int p1), .val (.int z1), .unset, .unset] [(.int (63 : Int32)), (.int p0)])) (fun t k => XS.bipush X0.here hx rfl (hb hby at_19) k) ?_
      refine own_by (V := s₁.setTop (mkF m 22 #[.val (.int p0), .val (.int p1), .val (.int z1), .unset, .unset] [(.int (p0 &&& (63 : Int32)))])) (fun t k => XS.iand X0.here hx rfl (hb hby at_21) rfl k) ?_
      refine own_by (V := s₁.setTop (mkF m 23 #[.val (.int p0), .val (.int p1), .val (.int z1), .unset, .unset] [(.int (1 : Int32)), (.int (p0 &&& (63 : Int32)))])) (fun t k => XS.iconst X0.here hx rfl (hb hby at_22) k) ?_
      refine own_by (V := s₁.setTop (mkF m 24 #[.val (.int p0), .val (.int p1), .val (.int z1), .unset, .unset] [(.int ((p0 &&& (63 : Int32)) - (1 : Int32)))])) (fun t k => XS.isub X0.here hx rfl (hb hby at_23) rfl k) ?_
      obtain ⟨z13, hz13⟩ : ∃ z : Int32, z = ((p0 &&& (63 : Int32)) - (1 : Int32)) := ⟨_, rfl⟩
      rw [← hz13]
      refine own_by (V := s₁.setTop (mkF m 25 #[.val (.int p0), .val (.int p1), .val (.int z1), .val (.int z13), .unset] [])) (fun t k => XS.istoreN X0.here hx rfl (hb hby at_24) rfl (l' := #[.val (.int p0), .val (.int p1), .val (.int z1), .val (.int z13), .unset]) rfl k) ?_
      refine own_by (V := s₁.setTop (mkF m 45 #[.val (.int p0), .val (.int p1), .val (.int z1), .val (.int z13), .unset] [])) (fun t k => XS.goto X0.here hx rfl (pc0 := 25) (pc' := 45) rfl (hb hby at_25) (by decide) (by decide) k) ?_
      exact J2 s₁ _ z13 (X0.more (by decide) (by decide)) e0 N0 
    · refine own_by (V := s₁.setTop (mkF m 28 #[.val (.int p0), .val (.int p1), .val (.int z1), .unset, .unset] [])) (fun t k => XS.icmpYes X0.here hx rfl (pc0 := 15) (pc' := 28) rfl (hb hby at_15) rfl (feq hb15_12).2 (by decide) (by decide) k) ?_
      refine own_by (V := s₁.setTop (mkF m 29 #[.val (.int p0), .val (.int p1), .val (.int z1), .unset, .unset] [(.int z1)])) (fun t k => XS.iloadN X0.here hx rfl (hb hby at_28) rfl  k) ?_
      refine own_by (V := s₁.setTop (mkF m 30 #[.val (.int p0), .val (.int p1), .val (.int z1), .unset, .unset] [(.int (2 : Int32)), (.int z1)])) (fun t k => XS.iconst X0.here hx rfl (hb hby at_29) k) ?_
      by_cases hb30_14 : z1 = (2 : Int32)
      · refine own_by (V := s₁.setTop (mkF m 33 #[.val (.int p0), .val (.int p1), .val (.int z1), .unset, .unset] [])) (fun t k => XS.icmpNo X0.here hx rfl (hb hby at_30) rfl (teq hb30_14).2 k) ?_
        refine own_by (V := s₁.setTop (mkF m 34 #[.val (.int p0), .val (.int p1), .val (.int z1), .unset, .unset] [(.int p0)])) (fun t k => XS.iloadN X0.here hx rfl (hb hby at_33) rfl  k) ?_
        refine own_by (V := s₁.setTop (mkF m 35 #[.val (.int p0), .val (.int p1), .val (.int z1), .unset, .unset] [(.int (p0.toInt8.toInt32))])) (fun t k => XS.i2b X0.here hx rfl (hb hby at_34) rfl k) ?_
        obtain ⟨z15, hz15⟩ : ∃ z : Int32, z = (p0.toInt8.toInt32) := ⟨_, rfl⟩
        rw [← hz15]
        refine own_by (V := s₁.setTop (mkF m 36 #[.val (.int p0), .val (.int p1), .val (.int z1), .val (.int z15), .unset] [])) (fun t k => XS.istoreN X0.here hx rfl (hb hby at_35) rfl (l' := #[.val (.int p0), .val (.int p1), .val (.int z1), .val (.int z15), .unset]) rfl k) ?_
        refine own_by (V := s₁.setTop (mkF m 45 #[.val (.int p0), .val (.int p1), .val (.int z1), .val (.int z15), .unset] [])) (fun t k => XS.goto X0.here hx rfl (pc0 := 36) (pc' := 45) rfl (hb hby at_36) (by decide) (by decide) k) ?_
        exact J2 s₁ _ z15 (X0.more (by decide) (by decide)) e0 N0 
      · refine own_by (V := s₁.setTop (mkF m 39 #[.val (.int p0), .val (.int p1), .val (.int z1), .unset, .unset] [])) (fun t k => XS.icmpYes X0.here hx rfl (pc0 := 30) (pc' := 39) rfl (hb hby at_30) rfl (feq hb30_14).2 (by decide) (by decide) k) ?_
        refine own_by (V := s₁.setTop (mkF m 40 #[.val (.int p0), .val (.int p1), .val (.int z1), .unset, .unset] [(.int p0)])) (fun t k => XS.iloadN X0.here hx rfl (hb hby at_39) rfl  k) ?_
        refine own_by (V := s₁.setTop (mkF m 43 #[.val (.int p0), .val (.int p1), .val (.int z1), .unset, .unset] [(.int (255 : Int32)), (.int p0)])) (fun t k => XS.sipush X0.here hx rfl (hb hby at_40) k) ?_
        refine own_by (V := s₁.setTop (mkF m 44 #[.val (.int p0), .val (.int p1), .val (.int z1), .unset, .unset] [(.int (p0 &&& (255 : Int32)))])) (fun t k => XS.iand X0.here hx rfl (hb hby at_43) rfl k) ?_
        obtain ⟨z16, hz16⟩ : ∃ z : Int32, z = (p0 &&& (255 : Int32)) := ⟨_, rfl⟩
        rw [← hz16]
        refine own_by (V := s₁.setTop (mkF m 45 #[.val (.int p0), .val (.int p1), .val (.int z1), .val (.int z16), .unset] [])) (fun t k => XS.istoreN X0.here hx rfl (hb hby at_44) rfl (l' := #[.val (.int p0), .val (.int p1), .val (.int z1), .val (.int z16), .unset]) rfl k) ?_
        exact J2 s₁ _ z16 (X0.more (by decide) (by decide)) e0 N0 
set_option maxRecDepth 65536 in
set_option maxHeartbeats 40000000 in
theorem own_comes {Post : Tables → Env → Array Value → State → Outcome → State → Prop} (hpost : ∀ tb e args s v u, (limb_1_1.after args s (.returned v) u = true ∧ limb_1_2.after args s (.returned v) u = true ∧ True) → FrameEnd s (.returned v) u (Jvm.fieldLocs frame_1_writes args s ++ Jvm.arrayLocs frame_1_arrays args s ++ Jvm.staticLocs frame_1_statics s) 0 0 → Post tb e args s (.returned v) u) :
    ArmFor flags0 classFile x code maxLocals ret World_1 tables_1 room_1 Calls_1 rest_1 Pre_1 Post := by
  intro l hfl _ _ p e ha hc hk s m args below hf hA hF happ hP
  obtain ⟨hcalls, hrest, hpre⟩ := hP
  obtain ⟨-, -, -, hnamed, -, -, -, hat⟩ := (Spec.applies_iff hf).mp happ
  obtain ⟨hg, hn⟩ := and_e (Cond.before_iff.mp (show (Jvm.Cond.and given_1 narrow_1).before args s = true from hpre))
  obtain ⟨hc0, hr0⟩ := and_e hg
  obtain ⟨hv0, hr1⟩ := and_e hr0
  have hv1 := hr1
  obtain ⟨w0, w1, rfl⟩ : ∃ w0 w1 : Value, args = #[w0, w1] := by
    have hs : args.size = 2 := by simpa [Cond.value, given_1] using hc0
    obtain ⟨L⟩ := args
    match L, hs with
    | [w0, w1], _ => exact ⟨w0, w1, rfl⟩
  have hw := fun d (hd : d ∈ tables_1) => atoms_spec (ws := Jvm.Cond.code x code maxLocals ret :: tables_1) hat d (List.mem_cons_of_mem _ hd)
  have hfit : Fit s := fun {y c} hc i hi => by
    obtain ⟨ha, rfl⟩ := Array.getElem?_eq_some_iff.mp hc
    have q := List.all_eq_true.mp ((Array.all_eq_true_iff_forall_mem.mp hF) _ (Array.getElem_mem ha)) i (List.mem_range.mpr hi)
    simpa [Array.getElem?_eq_getElem hi] using q
  obtain ⟨i0, ei0⟩ := is_v hv0
  obtain rfl : w0 = (.int i0) := Option.some.inj ei0
  obtain ⟨i1, ei1⟩ := is_v hv1
  obtain rfl : w1 = (.int i1) := Option.some.inj ei1
  obtain ⟨n, o, h1, h2, h3, _, L, rfl, ⟨rfl, N⟩, hq⟩ := own_rm0 l s _ hw tables_1 i0 i1  s.heap s.heap.size  p e ha hc hk s m _ below hf ((Spec.applies_iff_loose hf).mp happ).1 ⟨rfl, State.Warmed39.refl s, rfl⟩ trivial
  refine ⟨n, _, h1, h2, h3, hpost _ _ _ _ _ _ ⟨Cond.after_iff.mpr rfl, Cond.after_iff.mpr (eq_i res_at (Term.int_eval (1)) rfl), trivial⟩ ⟨hq.1, hq.2.1, (hq.2.2.sift fun y hy => Or.inr (N y hy)).mono (by decide) (by decide)⟩⟩
theorem main_1_1 : Claimed_1_1 := own_comes fun _ _ _ _ _ _ h hF => ⟨h.1, hF⟩
theorem main_1_2 : Claimed_1_2 := own_comes fun _ _ _ _ _ _ h hF => ⟨h.2.1, hF⟩

end Jvm.Pilot.@@N@@
namespace Jvm.Pilot.@@N@@
open Jvm Jvm.ClassFile Sem Op Lib Jvm.Free Jvm.Stand Jvm.Pilot.@@N@@.Jvm.D
/-! MADE BY PROGRAM (witnessworld.py) out of the Statement's table words and the real class files: 10 classes; the members and pool entries that the words name. The judged class is class 1, her method 1. -/
namespace start1
open Jvm.ClassFile
def u (s : String) : CpInfo := .utf8 (stringToUtf16 s)
/-- a pool by its gaps: so many unusable entries, then the entry; so many at the end -/
def gap : Nat → List CpInfo → List CpInfo
  | 0, r => r
  | n + 1, r => .unusable :: gap n r
def poolList (es : List (Nat × CpInfo)) (last : Nat) : List CpInfo := es.foldr (fun e r => gap e.1 (e.2 :: r)) (gap last [])
def pool (es : List (Nat × CpInfo)) (last : Nat) : Array CpInfo := ⟨poolList es last⟩
def fileOf (pool : Array CpInfo) (this : Nat) (attrs : Array Attribute := #[]) (ms : Array MethodInfo := #[]) (fl : Nat := 33) (sup : Nat := 0) (ifs : Array Nat := #[]) (fds : Array FieldInfo := #[]) : ClassFile where
  minorVersion := 0
  majorVersion := 65
  constantPool := pool
  accessFlags := fl
  thisClass := this
  superClass := sup
  interfaces := ifs
  fields := fds
  methods := ms
  attributes := attrs
def plain (name : String) (sup : Option ClassId) : Class where
  name := name
  kind := .ordinary
  loader := none
  accessFlags := 33
  super := sup
  interfaces := #[]
  cf := none
  fields := #[]
  methods := #[]
  instanceTypes := #[]
  staticTypes := #[]
  resolved := #[]
  callSites := []
  init := .initialized
  statics := none
  mirror := none

def pool0 : Array CpInfo := pool [(5, u "<init>"), (0, u "()V"), (1, .class_ 10), (1, u "java/lang/Object")] 113

def k0m0 : Method := { name := "<init>", desc := "()V", sig := { parameters := [], returnType := none }, accessFlags := 1, code := none }
/-- java/lang/Object -/
def k0 : Class := { plain "java/lang/Object" none with
  accessFlags := 33
  interfaces := #[]
  cf := some (fileOf pool0 8 #[] #[{ accessFlags := 1, nameIndex := 5, descriptorIndex := 6, attributes := #[] }] 33 0 #[] #[])
  fields := #[]
  methods := #[k0m0]
  instanceTypes := #[]
  staticTypes := #[]
  resolved := Array.replicate 124 none
  statics := none }

def pool1 : Array CpInfo := pool [(2, .class_ 4), (1, u "java/lang/Object"), (0, u "<init>"), (0, u "()V"), (0, .methodref 8 9), (0, .class_ 10), (0, .nameAndType 11 12), (0, u "crossmarc/reading/Iso2709Reader"), (0, u "isWhiteSpace"), (0, u "(I)Z"), (0, .class_ 14), (0, u "crossmarc/reading/Iso2709ReaderIsWhiteSpacePinLaw"), (2, u "law"), (0, u "(II)Z")] 3

def k1m0 : Method := { name := "<init>", desc := "()V", sig := { parameters := [], returnType := none }, accessFlags := 2, code := none }
def k1c1 : Code := { maxStack := 2, maxLocals := 5, code := code, exceptionTable := #[], attributes := #[] }
def k1m1 : Method := { name := "law", desc := "(II)Z", sig := { parameters := [.int, .int], returnType := some .boolean }, accessFlags := 9, code := some k1c1 }
/-- crossmarc/reading/Iso2709ReaderIsWhiteSpacePinLaw -/
def k1 : Class := { plain "crossmarc/reading/Iso2709ReaderIsWhiteSpacePinLaw" (some 0) with
  accessFlags := 49
  interfaces := #[]
  cf := some (fileOf pool1 13 #[] #[{ accessFlags := 2, nameIndex := 5, descriptorIndex := 6, attributes := #[] }, { accessFlags := 9, nameIndex := 17, descriptorIndex := 18, attributes := #[] }] 49 2 #[] #[])
  fields := #[]
  methods := #[k1m0, k1m1]
  instanceTypes := #[]
  staticTypes := #[]
  resolved := Array.replicate 22 none
  statics := none }

def pool2 : Array CpInfo := pool [(2, .class_ 4), (1, u "crossmarc/reading/RecordReader"), (44, .class_ 50), (0, u "java/lang/Object")] 17

/-- crossmarc/reading/RecordReader -/
def k2 : Class := { plain "crossmarc/reading/RecordReader" (some 0) with
  accessFlags := 1537
  interfaces := #[]
  cf := some (fileOf pool2 2 #[] #[] 1537 49 #[] #[])
  fields := #[]
  methods := #[]
  instanceTypes := #[]
  staticTypes := #[]
  resolved := Array.replicate 68 none
  statics := none }

def pool3 : Array CpInfo := pool [(4, .class_ 6), (1, u "java/lang/Object"), (15, .class_ 24), (1, u "crossmarc/reading/Iso2709Reader"), (0, u "utf8"), (0, u "Ljava/nio/charset/CharsetDecoder;"), (9, u "value"), (0, u "Ljava/nio/CharBuffer;"), (3, u "buffer"), (0, u "[B"), (5, u "builder"), (0, u "Lcrossmarc/reading/RecordBuilder;"), (2, u "in"), (0, u "Ljava/io/InputStream;"), (2, u "offset"), (0, u "J"), (10, u "repaired"), (0, u "Ljava/lang/String;"), (6, u "recordStart"), (2, u "replaced"), (0, u "Z"), (10, u "readAsMarc8"), (14, u "utf8NotMarc8"), (5, u "next"), (0, u "I"), (2, u "end"), (5, u "isWhiteSpace"), (0, u "(I)Z"), (164, u "marc8"), (0, u "Lcrossmarc/reading/Marc8Decoder;"), (50, .class_ 341), (0, u "crossmarc/reading/RecordReader"), (0, u "RECORD_TERMINATOR"), (0, u "B"), (2, u "FIELD_TERMINATOR"), (1, u "SUBFIELD_DELIMITER"), (1, u "RECORD_LENGTH_DIGITS"), (1, u "CODING_SCHEME_AT"), (1, u "BASE_ADDRESS_AT"), (1, u "BASE_ADDRESS_DIGITS"), (0, u "ENTRY_LENGTH"), (0, u "TAG_LENGTH"), (1, u "FIELD_LENGTH_DIGITS"), (1, u "FIELD_START_DIGITS"), (0, u "CUT_OFF"), (0, u "SHORTEST_RECORD"), (1, u "LONGEST_RECORD"), (0, u "REPLACEMENT_CHARACTER"), (0, u "C")] 62

def k3c0 : Code := { maxStack := 2, maxLocals := 1, code := prog_57_method_21_code, exceptionTable := #[], attributes := #[] }
def k3m0 : Method := { name := "isWhiteSpace", desc := "(I)Z", sig := { parameters := [.int], returnType := some .boolean }, accessFlags := 8, code := some k3c0 }
/-- crossmarc/reading/Iso2709Reader -/
def k3 : Class := { plain "crossmarc/reading/Iso2709Reader" (some 0) with
  accessFlags := 48
  interfaces := #[2]
  cf := some (fileOf pool3 22 #[] #[{ accessFlags := 8, nameIndex := 122, descriptorIndex := 123, attributes := #[] }] 48 4 #[340] #[{ accessFlags := 26, nameIndex := 342, descriptorIndex := 343, attributes := #[] }, { accessFlags := 26, nameIndex := 346, descriptorIndex := 343, attributes := #[] }, { accessFlags := 26, nameIndex := 348, descriptorIndex := 343, attributes := #[] }, { accessFlags := 26, nameIndex := 350, descriptorIndex := 113, attributes := #[] }, { accessFlags := 26, nameIndex := 352, descriptorIndex := 113, attributes := #[] }, { accessFlags := 26, nameIndex := 354, descriptorIndex := 113, attributes := #[] }, { accessFlags := 26, nameIndex := 356, descriptorIndex := 113, attributes := #[] }, { accessFlags := 26, nameIndex := 357, descriptorIndex := 113, attributes := #[] }, { accessFlags := 26, nameIndex := 358, descriptorIndex := 113, attributes := #[] }, { accessFlags := 26, nameIndex := 360, descriptorIndex := 113, attributes := #[] }, { accessFlags := 26, nameIndex := 362, descriptorIndex := 113, attributes := #[] }, { accessFlags := 26, nameIndex := 363, descriptorIndex := 69, attributes := #[] }, { accessFlags := 26, nameIndex := 364, descriptorIndex := 113, attributes := #[] }, { accessFlags := 26, nameIndex := 366, descriptorIndex := 113, attributes := #[] }, { accessFlags := 26, nameIndex := 367, descriptorIndex := 368, attributes := #[] }, { accessFlags := 18, nameIndex := 52, descriptorIndex := 53, attributes := #[] }, { accessFlags := 18, nameIndex := 25, descriptorIndex := 26, attributes := #[] }, { accessFlags := 2, nameIndex := 288, descriptorIndex := 289, attributes := #[] }, { accessFlags := 18, nameIndex := 36, descriptorIndex := 37, attributes := #[] }, { accessFlags := 18, nameIndex := 41, descriptorIndex := 42, attributes := #[] }, { accessFlags := 18, nameIndex := 48, descriptorIndex := 49, attributes := #[] }, { accessFlags := 2, nameIndex := 112, descriptorIndex := 113, attributes := #[] }, { accessFlags := 2, nameIndex := 116, descriptorIndex := 113, attributes := #[] }, { accessFlags := 2, nameIndex := 56, descriptorIndex := 57, attributes := #[] }, { accessFlags := 2, nameIndex := 76, descriptorIndex := 57, attributes := #[] }, { accessFlags := 2, nameIndex := 91, descriptorIndex := 80, attributes := #[] }, { accessFlags := 2, nameIndex := 106, descriptorIndex := 80, attributes := #[] }, { accessFlags := 2, nameIndex := 79, descriptorIndex := 80, attributes := #[] }, { accessFlags := 2, nameIndex := 68, descriptorIndex := 69, attributes := #[] }])
  fields := #[{ name := "RECORD_TERMINATOR", type := .byte, accessFlags := 26, slot := 0, constantValue := 0 }, { name := "FIELD_TERMINATOR", type := .byte, accessFlags := 26, slot := 1, constantValue := 0 }, { name := "SUBFIELD_DELIMITER", type := .byte, accessFlags := 26, slot := 2, constantValue := 0 }, { name := "RECORD_LENGTH_DIGITS", type := .int, accessFlags := 26, slot := 3, constantValue := 0 }, { name := "CODING_SCHEME_AT", type := .int, accessFlags := 26, slot := 4, constantValue := 0 }, { name := "BASE_ADDRESS_AT", type := .int, accessFlags := 26, slot := 5, constantValue := 0 }, { name := "BASE_ADDRESS_DIGITS", type := .int, accessFlags := 26, slot := 6, constantValue := 0 }, { name := "ENTRY_LENGTH", type := .int, accessFlags := 26, slot := 7, constantValue := 0 }, { name := "TAG_LENGTH", type := .int, accessFlags := 26, slot := 8, constantValue := 0 }, { name := "FIELD_LENGTH_DIGITS", type := .int, accessFlags := 26, slot := 9, constantValue := 0 }, { name := "FIELD_START_DIGITS", type := .int, accessFlags := 26, slot := 10, constantValue := 0 }, { name := "CUT_OFF", type := (.object "java/lang/String"), accessFlags := 26, slot := 11, constantValue := 0 }, { name := "SHORTEST_RECORD", type := .int, accessFlags := 26, slot := 12, constantValue := 0 }, { name := "LONGEST_RECORD", type := .int, accessFlags := 26, slot := 13, constantValue := 0 }, { name := "REPLACEMENT_CHARACTER", type := .char, accessFlags := 26, slot := 14, constantValue := 0 }, { name := "in", type := (.object "java/io/InputStream"), accessFlags := 18, slot := 0, constantValue := 0 }, { name := "utf8", type := (.object "java/nio/charset/CharsetDecoder"), accessFlags := 18, slot := 1, constantValue := 0 }, { name := "marc8", type := (.object "crossmarc/reading/Marc8Decoder"), accessFlags := 2, slot := 2, constantValue := 0 }, { name := "value", type := (.object "java/nio/CharBuffer"), accessFlags := 18, slot := 3, constantValue := 0 }, { name := "buffer", type := (.array .byte), accessFlags := 18, slot := 4, constantValue := 0 }, { name := "builder", type := (.object "crossmarc/reading/RecordBuilder"), accessFlags := 18, slot := 5, constantValue := 0 }, { name := "next", type := .int, accessFlags := 2, slot := 6, constantValue := 0 }, { name := "end", type := .int, accessFlags := 2, slot := 7, constantValue := 0 }, { name := "offset", type := .long, accessFlags := 2, slot := 8, constantValue := 0 }, { name := "recordStart", type := .long, accessFlags := 2, slot := 9, constantValue := 0 }, { name := "readAsMarc8", type := .boolean, accessFlags := 2, slot := 10, constantValue := 0 }, { name := "utf8NotMarc8", type := .boolean, accessFlags := 2, slot := 11, constantValue := 0 }, { name := "replaced", type := .boolean, accessFlags := 2, slot := 12, constantValue := 0 }, { name := "repaired", type := (.object "java/lang/String"), accessFlags := 2, slot := 13, constantValue := 0 }]
  methods := #[k3m0]
  instanceTypes := #[(.object "java/io/InputStream"), (.object "java/nio/charset/CharsetDecoder"), (.object "crossmarc/reading/Marc8Decoder"), (.object "java/nio/CharBuffer"), (.array .byte), (.object "crossmarc/reading/RecordBuilder"), .int, .int, .long, .long, .boolean, .boolean, .boolean, (.object "java/lang/String")]
  staticTypes := #[.byte, .byte, .byte, .int, .int, .int, .int, .int, .int, .int, .int, (.object "java/lang/String"), .int, .int, .char]
  resolved := Array.replicate 431 none
  statics := none }

def pool4 : Array CpInfo := pool [(1, u "java/lang/Cloneable"), (0, .class_ 1), (0, u "java/lang/Object"), (0, .class_ 3)] 3

/-- java/lang/Cloneable -/
def k4 : Class := { plain "java/lang/Cloneable" (some 0) with
  accessFlags := 1537
  interfaces := #[]
  cf := some (fileOf pool4 2 #[] #[] 1537 4 #[] #[])
  fields := #[]
  methods := #[]
  instanceTypes := #[]
  staticTypes := #[]
  resolved := Array.replicate 8 none
  statics := none }

def pool5 : Array CpInfo := pool [(1, u "java/io/Serializable"), (0, .class_ 1), (0, u "java/lang/Object"), (0, .class_ 3)] 3

/-- java/io/Serializable -/
def k5 : Class := { plain "java/io/Serializable" (some 0) with
  accessFlags := 1537
  interfaces := #[]
  cf := some (fileOf pool5 2 #[] #[] 1537 4 #[] #[])
  fields := #[]
  methods := #[]
  instanceTypes := #[]
  staticTypes := #[]
  resolved := Array.replicate 8 none
  statics := none }

/-- the primitive byte -/
def k6 : Class := { plain "byte" none with kind := .primitive 'B', accessFlags := 0x411 }
/-- [B -/
def k7 : Class := { plain "[B" (some 0) with kind := .array 6 .byte, interfaces := #[4, 5], accessFlags := 1041 }

/-- the primitive int -/
def k8 : Class := { plain "int" none with kind := .primitive 'I', accessFlags := 0x411 }
/-- [I -/
def k9 : Class := { plain "[I" (some 0) with kind := .array 8 .int, interfaces := #[4, 5], accessFlags := 1041 }

def heap : Heap := #[]
def classes : Array Class := #[k0, k1, k2, k3, k4, k5, k6, k7, k8, k9]
def interned : List (Array UInt16 × Addr) := []
def slotsUsed : Nat := 0
def theMethod : MethodId := ⟨1, 1⟩
def args0 : Array Value := #[.int 5, .int 7]
def aboutOver (below : List Frame) : State where
  vm := { classes := classes, interned := interned.toArray }
  heap := heap
  slotsUsed := slotsUsed
  threads := #[{ frames := .invoking theMethod args0 :: below }]
def below0 : List Frame := [.native { method := ⟨0, 0⟩, args := #[] }]
def about1 : State := aboutOver below0
def p0 : Program := .bare "" "" ""
def e0 : Env := launch0.env 0 0 0
theorem w_frames : about1.frames = Frame.invoking theMethod args0 :: below0 := rfl
set_option maxRecDepth 65536 in
theorem w_args : argsFit about1.vm theMethod args0 = true := by decide +kernel
set_option maxRecDepth 65536 in
theorem w_heap : heapFits about1 = true := by decide +kernel
set_option maxRecDepth 65536 in
theorem w_runnable : about1.curStatus? = some .runnable := by decide +kernel
set_option maxRecDepth 65536 in
theorem w_alone : about1.alone = true := by decide +kernel
set_option maxRecDepth 65536 in
theorem w_named : about1.methodNamed? x = some theMethod := by decide +kernel
set_option maxRecDepth 65536 in
theorem w_hears : about1.hears theMethod below0 = true := by decide +kernel
set_option maxRecDepth 65536 in
theorem w_ripe : about1.ripe theMethod args0 below0 = true := by decide +kernel
theorem w_running : about1.status = .running := rfl
set_option maxRecDepth 65536 in
theorem w_room : about1.hasRoom e0.platform room_1 = true :=
  launch0.hasRoom_least _ room_1 (by decide +kernel) (by decide +kernel) (by decide +kernel) (by decide +kernel) (by decide +kernel) (by decide +kernel)
theorem allAtoms_all (ts : List Jvm.Cond) (a : Array Jvm.Value) (st : Jvm.State) : (allAtoms ts).before a st = ts.all (fun c => c.before a st) := by
  induction ts with
  | nil => rfl
  | cons c t ih =>
    show (Jvm.Cond.and c (allAtoms t)).before a st = _
    rw [Jvm.Cond.before_and, ih, List.all_cons]
def words1 : List Jvm.Cond := Jvm.Cond.code x code maxLocals ret :: tables_1
/-- a 'code' word, met by the world's own term for the bytes: nothing is compared byte by byte -/
theorem code_word {y : MethodName} {bytes : ByteArray} {mx : Nat} {rt : Option FieldType} {a : Array Value} {s : State} {m : MethodId} {meth : Method} {c : Code} (h1 : s.methodNamed? y = some m) (h2 : s.vm.method? m = some meth) (h3 : meth.code = some c) (h4 : c.code = bytes)
    (h5 : (c.maxLocals == mx && c.exceptionTable.isEmpty && decide (c.maxStack ≤ mostOperands) && decide (meth.sig.returnType = rt) && !meth.locks && decide (parseMethodDescriptor y.desc = some meth.sig)) = true) : (Jvm.Cond.code y bytes mx rt).before a s = true := by
  simp only [Bool.and_eq_true, beq_iff_eq, Bool.not_eq_true', decide_eq_true_eq] at h5
  obtain ⟨⟨⟨⟨⟨g1, g2⟩, g3⟩, g4⟩, g5⟩, g6⟩ := h5
  simp [Cond.before, Cond.holds, Cond.value, h1, h2, h3, h4, g1, g2, g3, g4, g5, g6]
def isCode : Jvm.Cond → Bool
  | .code _ _ _ _ => true
  | _ => false
theorem all_split {L : List Jvm.Cond} {P : Jvm.Cond → Bool} (h1 : L.all (fun c => isCode c || P c) = true) (h2 : ∀ c ∈ L.filter isCode, P c = true) : L.all P = true := by
  refine List.all_eq_true.mpr fun c hc => ?_
  have h := List.all_eq_true.mp h1 c hc
  rcases Bool.eq_false_or_eq_true (isCode c) with hi | hi
  · exact h2 c (List.mem_filter.mpr ⟨hc, hi⟩)
  · simpa [hi] using h
set_option maxRecDepth 65536 in
theorem w_c0 : (Jvm.Cond.code x code maxLocals ret).before args0 about1 = true := code_word (m := ⟨1, 1⟩) (meth := k1m1) (c := k1c1) (by decide +kernel) rfl rfl rfl (by decide +kernel)
set_option maxRecDepth 65536 in
theorem w_c1 : (Jvm.Cond.code ({ cls := "crossmarc/reading/Iso2709Reader", name := "isWhiteSpace", desc := "(I)Z" } : Jvm.MethodName) prog_57_method_21_code (1 : Nat) (Option.some Jvm.ClassFile.FieldType.boolean)).before args0 about1 = true := code_word (m := ⟨3, 0⟩) (meth := k3m0) (c := k3c0) (by decide +kernel) rfl rfl rfl (by decide +kernel)
def codes1 : List Jvm.Cond := [Jvm.Cond.code x code maxLocals ret, Jvm.Cond.code ({ cls := "crossmarc/reading/Iso2709Reader", name := "isWhiteSpace", desc := "(I)Z" } : Jvm.MethodName) prog_57_method_21_code (1 : Nat) (Option.some Jvm.ClassFile.FieldType.boolean)]
set_option maxRecDepth 65536 in
theorem codes_eq : words1.filter isCode = codes1 := rfl
theorem w_codes : ∀ c ∈ words1.filter isCode, c.before args0 about1 = true := by
  rw [codes_eq]
  intro c hc
  simp only [codes1, List.mem_cons, List.not_mem_nil, or_false] at hc
  rcases hc with rfl | rfl
  · exact w_c0
  · exact w_c1
set_option maxRecDepth 65536 in
theorem w_t1 : words1.all (fun c => isCode c || c.before args0 about1) = true := by decide +kernel
theorem w_tables : (allAtoms (Jvm.Cond.code x code maxLocals ret :: tables_1)).before args0 about1 = true := by
  rw [allAtoms_all]
  show words1.all (fun c => c.before args0 about1) = true
  refine all_split ?_ w_codes
  rw [w_t1]
set_option maxRecDepth 65536 in
theorem w_case : (Jvm.Cond.and given_1 narrow_1).before args0 about1 = true := by decide +kernel
theorem w_applies : (headSpec (Jvm.Cond.code x code maxLocals ret :: tables_1) room_1).applies x e0.platform about1 = true :=
  (Spec.applies_iff w_frames).mpr ⟨w_running, w_runnable, w_alone, w_named, w_hears, w_ripe, w_room, w_tables⟩
theorem atStart : AtStart classFile x code maxLocals ret World_1 tables_1 room_1 Calls_1 rest_1 Pre_1 launch0 p0 e0 about1 theMethod args0 below0 :=
  ⟨lists_1, trivial, launch0.admits_env _ _ _, launch0.least_env, fairChoices_fair.cas, fairChoices_fair.clock, w_frames, w_args, w_heap, w_applies, trivial, trivial, w_case⟩
end start1
theorem witness_1 : WitnessClaimed_1 := ⟨start1.p0, start1.e0, start1.about1, start1.theMethod, start1.args0, start1.below0, start1.atStart⟩
end Jvm.Pilot.@@N@@
