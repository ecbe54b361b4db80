import JvmDerived
import JvmDerived.Pilot.@@N@@Statement
import JvmDerived.Pilot.@@N@@Code
set_option linter.unusedVariables false
set_option linter.unusedSimpArgs false
namespace Jvm.Pilot.@@N@@
open Jvm Jvm.ClassFile Sem Op Lib Jvm.Free Jvm.Stand Jvm.LawKit Jvm.RoadKit Bundle Jvm.Pilot.@@N@@.Jvm.D
section OwnKit
variable {p : Program} {l : Launch} {e : Env} {R : Room} {s : State} {m : MethodId} {args : Array Value} {below : List Frame} {meth : Method} {c : Code} {T U W : State} {locs : List Loc} {cells slots : Nat} {Q : Option Value → Heap → List Loc → Prop} {K N : Nat}
/-- from U the body comes to its end, and Q holds there -/
def own_Ends (p : Program) (e : Env) (below : List Frame) (s : State) (Q : Option Value → Heap → List Loc → Prop) (K N : Nat) (U : State) : Prop :=
  ∃ s₂ o, Steps p.tables e below U s₂ ∧ s₂.status = .running ∧ Ended s₂ below o ∧ ∃ v L, o = .returned v ∧ Q v s₂.heap L ∧ FrameEnd s o s₂ L K N
theorem own_by {V : State} (h : ∀ t, Steps p.tables e below V t → Steps p.tables e below U t) (k : own_Ends p e below s Q K N V) : own_Ends p e below s Q K N U := by
  obtain ⟨s2, o, h1, h2⟩ := k; exact ⟨s2, o, h _ h1, h2⟩
theorem own_ret0 (X : Stand p l e R s m args below meth c T locs cells slots) (hx : p.tables.exec = Jvm.exec) (hlk : meth.locks = false) {h : Heap} (eT : T.heap = h) {pc : Nat} {Ls : Array Slot} (hret : meth.sig.returnType = none)
    (hd : decode c.code pc = .ok (.return_, 1)) (hQ : Q none h locs) (hK : cells ≤ K) (hN : slots ≤ N) : own_Ends p e below s Q K N (T.setTop (mkF m pc Ls [])) := by
  obtain ⟨fs, hr, hrun, hended, hW, hsame⟩ := X.leave (v := none) (fun _ => rfl) hlk
  exact ⟨_, _, X.returnOut hx hret hd hr, hrun, hended, _, _, rfl, (by subst eT; exact hQ), ⟨_, rfl⟩, hW, hsame.mono hK hN⟩
theorem own_retI (X : Stand p l e R s m args below meth c T locs cells slots) (hx : p.tables.exec = Jvm.exec) (hlk : meth.locks = false) {h : Heap} (eT : T.heap = h) {pc : Nat} {Ls : Array Slot} {z : Int32} {rest : List Value} (hret : meth.sig.returnType = some .int)
    (hd : decode c.code pc = .ok (.ireturn, 1)) (hQ : Q (some (.int z)) h locs) (hK : cells ≤ K) (hN : slots ≤ N) : own_Ends p e below s Q K N (T.setTop (mkF m pc Ls (.int z :: rest))) := by
  obtain ⟨fs, hr, hrun, hended, hW, hsame⟩ := X.leave (v := some (.int z)) (fun h => by rw [hret] at h; cases h) hlk
  exact ⟨_, _, retOut X hx hret rfl (Or.inl ⟨rfl, Or.inl rfl, z, rfl⟩) hd hr, hrun, hended, _, _, rfl, (by subst eT; exact hQ), ⟨_, rfl⟩, hW, hsame.mono hK hN⟩
theorem own_retN (X : Stand p l e R s m args below meth c T locs cells slots) (hx : p.tables.exec = Jvm.exec) (hlk : meth.locks = false) {h : Heap} (eT : T.heap = h) {pc : Nat} {Ls : Array Slot} {z : Int32} {t : FieldType} {rest : List Value} (hret : meth.sig.returnType = some t) (ht : t = .boolean ∨ t = .byte ∨ t = .char ∨ t = .short) (hz : nar t z = z)
    (hd : decode c.code pc = .ok (.ireturn, 1)) (hQ : Q (some (.int z)) h locs) (hK : cells ≤ K) (hN : slots ≤ N) : own_Ends p e below s Q K N (T.setTop (mkF m pc Ls (.int z :: rest))) := by
  obtain ⟨fs, hr, hrun, hended, hW, hsame⟩ := X.leave (v := some (.int z)) (fun h => by rw [hret] at h; cases h) hlk
  exact ⟨_, _, retN X hx hret ht hd (by rw [hz]; exact hr), hrun, hended, _, _, rfl, (by subst eT; exact hQ), ⟨_, rfl⟩, hW, hsame.mono hK hN⟩
theorem own_retL (X : Stand p l e R s m args below meth c T locs cells slots) (hx : p.tables.exec = Jvm.exec) (hlk : meth.locks = false) {h : Heap} (eT : T.heap = h) {pc : Nat} {Ls : Array Slot} {z : Int64} {rest : List Value} (hret : meth.sig.returnType = some .long)
    (hd : decode c.code pc = .ok (.lreturn, 1)) (hQ : Q (some (.long z)) h locs) (hK : cells ≤ K) (hN : slots ≤ N) : own_Ends p e below s Q K N (T.setTop (mkF m pc Ls (.long z :: rest))) := by
  obtain ⟨fs, hr, hrun, hended, hW, hsame⟩ := X.leave (v := some (.long z)) (fun h => by rw [hret] at h; cases h) hlk
  exact ⟨_, _, retOut X hx hret rfl (Or.inr (Or.inl ⟨rfl, rfl, z, rfl⟩)) hd hr, hrun, hended, _, _, rfl, (by subst eT; exact hQ), ⟨_, rfl⟩, hW, hsame.mono hK hN⟩
theorem own_retA (X : Stand p l e R s m args below meth c T locs cells slots) (hx : p.tables.exec = Jvm.exec) (hlk : meth.locks = false) {h : Heap} (eT : T.heap = h) {pc : Nat} {Ls : Array Slot} {w : Value} {t : FieldType} {rest : List Value} (hw : w.isRef = true) (hret : meth.sig.returnType = some t) (ht : t.isReference = true)
    (hd : decode c.code pc = .ok (.areturn, 1)) (hQ : Q (some w) h locs) (hK : cells ≤ K) (hN : slots ≤ N) : own_Ends p e below s Q K N (T.setTop (mkF m pc Ls (w :: rest))) := by
  obtain ⟨fs, hr, hrun, hended, hW, hsame⟩ := X.leave (v := some w) (fun h => by rw [hret] at h; cases h) hlk
  exact ⟨_, _, retOut X hx hret (by cases t <;> cases w <;> first | rfl | (simp [FieldType.isReference] at ht) | (simp [Value.isRef] at hw)) (Or.inr (Or.inr (Or.inr (Or.inr ⟨rfl, ht, hw⟩)))) hd hr, hrun, hended, _, _, rfl, (by subst eT; exact hQ), ⟨_, rfl⟩, hW, hsame.mono hK hN⟩

theorem own_neg1 : (-1 : Int32).toInt = -1 := rfl
end OwnKit
theorem own_selPriv {s : State} {args args' : Array Value} {y : MethodName} {n : Nat} (wi : (Cond.instantiable y.cls n).before args s = true) (wp : (Cond.privateMethod y).before args' s = true) (wm : (Cond.instanceMethod y).before args s = true) (hy : y.cls ≠ "java/lang/invoke/MethodHandle" ∧ y.cls ≠ "java/lang/invoke/VarHandle") : (Cond.selects y.cls y y).before args s = true := by
  obtain ⟨c, k, h1, h2, h3, h4, -⟩ := Cond.instantiable_spec wi
  exact selects_self_of_private h1 h2 (Bool.or_eq_false_iff.mp h4).1 (Cond.privateMethod_at wp) wm hy
section OwnWords
variable {args : Array Value} {s : State} {t : Term} {x : Addr} {C n d : String} {cl : Cell} {ty : FieldType}
theorem own_evI {k : Int32} (h : (Cond.eq t (.int k)).value args s none s [] = some true) : t.eval args s none [] s = some (.int k) := by
  obtain ⟨y, z, h1, h2, h3, -⟩ := cmp_v (Or.inl h)
  have h2' : z = .int k := (Option.some.inj h2).symm
  subst h2'
  cases y with
  | int v =>
    have q : v = k := by simpa [Cond.value, h1, Term.eval] using h
    rw [h1, q]
  | _ => simp [Kin, Value.isRef] at h3
theorem own_fldS {k : Int32} (ht : t.eval args s none [] s = some (.ref x)) (h : (Cond.eq (.field t C n d) (.int k)).value args s none s [] = some true) : Fld s s.heap x C n d (.int k) :=
  Fld.start ((fld_at ht).symm.trans (own_evI h))
theorem own_lenEv {k : Int32} (ev : t.eval args s none [] s = some (.ref x)) (A : Arr s s.heap x cl ty) (h : (Cond.eq (.length t) (.int k)).value args s none s [] = some true) : cl.slots.size.toInt32 = k ∧ cl.slots.size < 2 ^ 31 := by
  have e := own_evI h
  have hat := A.fin (Vm.Alike.refl _)
  simp only [Term.eval, ev, hat, Option.bind_eq_bind, Option.bind_some] at e
  split at e
  · rename_i hlt
    exact ⟨Value.int.inj (Option.some.inj e), hlt⟩
  · cases e
theorem own_len256 (ev : t.eval args s none [] s = some (.ref x)) (A : Arr s s.heap x cl ty) (h : (Cond.eq (.length t) (.int 256)).value args s none s [] = some true) : cl.slots.size = 256 := by
  obtain ⟨h1, h2⟩ := own_lenEv ev A h
  have q := len_toInt h2
  rw [h1] at q
  have q' : (256 : Int32).toInt = 256 := rfl
  omega
theorem own_cacheEl {K : String} {E : Jvm.Cond} (ev : (Term.static K n d).eval args s none [] s = some (.ref x)) (A : Arr s s.heap x cl ty) (hsz : cl.slots.size = 256) (h : (Cond.all (.static K n d) (.and (.exactly (.elem (.static K n d) (.index 0)) C) E)).value args s none s [] = some true) : ∀ j, j < 256 → ∃ b, cl.slots[j]? = some (.ref b) ∧ Exa s s.heap b C := by
  intro j hj
  have hat := A.fin (Vm.Alike.refl _)
  obtain ⟨h1, -⟩ := and_e (Cond.all_elim ev hat h j (by rw [hsz]; exact hj))
  obtain ⟨b, eb⟩ := exa_v h1
  have evj : (Term.static K n d).eval args s none [j] s = some (.ref x) := ev
  have q := (elem_in eb evj (Term.index_eval j) A.1).2
  rw [show j.toInt32 = Int32.ofNat j from rfl, Int32.toNatClampNeg_ofNat_of_lt (by omega)] at q
  exact ⟨b, q, exa_at eb h1⟩
theorem own_elemI {i k : Int32} (ev : t.eval args s none [] s = some (.ref x)) (A : Arr s s.heap x cl ty) (h : (Cond.eq (.elem t (.int i)) (.int k)).value args s none s [] = some true) : ¬ (i < 0 ∨ cl.slots.size ≤ i.toNatClampNeg) ∧ cl.slots[i.toNatClampNeg]? = some (.int k) :=
  elem_in (own_evI h) ev (Term.int_eval i) A.1
end OwnWords

theorem own_d_method_2_0 : decode method_2_code 0 = .ok (.iload_n 0, 1) := by decide +kernel
theorem own_d_method_2_1 : decode method_2_code 1 = .ok (.iconst 3, 1) := by decide +kernel
theorem own_d_method_2_2 : decode method_2_code 2 = .ok (.iand, 1) := by decide +kernel
theorem own_d_method_2_3 : decode method_2_code 3 = .ok (.istore_n 1, 1) := by decide +kernel
theorem own_d_method_2_4 : decode method_2_code 4 = .ok (.iload_n 1, 1) := by decide +kernel
theorem own_d_method_2_5 : decode method_2_code 5 = .ok (.ifCond .ne 7, 3) := by decide +kernel
theorem own_d_method_2_8 : decode method_2_code 8 = .ok (.getstatic 7, 3) := by decide +kernel
theorem own_d_method_2_11 : decode method_2_code 11 = .ok (.areturn, 1) := by decide +kernel
theorem own_d_method_2_12 : decode method_2_code 12 = .ok (.iload_n 1, 1) := by decide +kernel
theorem own_d_method_2_13 : decode method_2_code 13 = .ok (.iconst 1, 1) := by decide +kernel
theorem own_d_method_2_14 : decode method_2_code 14 = .ok (.if_icmp .ne 7, 3) := by decide +kernel
theorem own_d_method_2_17 : decode method_2_code 17 = .ok (.getstatic 13, 3) := by decide +kernel
theorem own_d_method_2_20 : decode method_2_code 20 = .ok (.areturn, 1) := by decide +kernel
theorem own_d_method_2_21 : decode method_2_code 21 = .ok (.iload_n 1, 1) := by decide +kernel
theorem own_d_method_2_22 : decode method_2_code 22 = .ok (.iconst 2, 1) := by decide +kernel
theorem own_d_method_2_23 : decode method_2_code 23 = .ok (.if_icmp .ne 7, 3) := by decide +kernel
theorem own_d_method_2_26 : decode method_2_code 26 = .ok (.getstatic 16, 3) := by decide +kernel
theorem own_d_method_2_29 : decode method_2_code 29 = .ok (.areturn, 1) := by decide +kernel
theorem own_d_method_2_30 : decode method_2_code 30 = .ok (.getstatic 19, 3) := by decide +kernel
theorem own_d_method_2_33 : decode method_2_code 33 = .ok (.areturn, 1) := by decide +kernel
theorem own_d_prog_127_6_0 : decode prog_127_method_6_code 0 = .ok (.aload_n 0, 1) := by decide +kernel
theorem own_d_prog_127_6_1 : decode prog_127_method_6_code 1 = .ok (.getstatic 3, 3) := by decide +kernel
theorem own_d_prog_127_6_4 : decode prog_127_method_6_code 4 = .ok (.if_acmp .eq 8, 3) := by decide +kernel
theorem own_d_prog_127_6_7 : decode prog_127_method_6_code 7 = .ok (.aload_n 0, 1) := by decide +kernel
theorem own_d_prog_127_6_8 : decode prog_127_method_6_code 8 = .ok (.aload_n 1, 1) := by decide +kernel
theorem own_d_prog_127_6_9 : decode prog_127_method_6_code 9 = .ok (.if_acmp .ne 8, 3) := by decide +kernel
theorem own_d_prog_127_6_12 : decode prog_127_method_6_code 12 = .ok (.aload_n 1, 1) := by decide +kernel
theorem own_d_prog_127_6_13 : decode prog_127_method_6_code 13 = .ok (.astore_n 2, 1) := by decide +kernel
theorem own_d_prog_127_6_14 : decode prog_127_method_6_code 14 = .ok (.goto 19, 3) := by decide +kernel
theorem own_d_prog_127_6_17 : decode prog_127_method_6_code 17 = .ok (.aload_n 1, 1) := by decide +kernel
theorem own_d_prog_127_6_18 : decode prog_127_method_6_code 18 = .ok (.getstatic 3, 3) := by decide +kernel
theorem own_d_prog_127_6_21 : decode prog_127_method_6_code 21 = .ok (.if_acmp .ne 8, 3) := by decide +kernel
theorem own_d_prog_127_6_24 : decode prog_127_method_6_code 24 = .ok (.aload_n 0, 1) := by decide +kernel
theorem own_d_prog_127_6_25 : decode prog_127_method_6_code 25 = .ok (.astore_n 2, 1) := by decide +kernel
theorem own_d_prog_127_6_26 : decode prog_127_method_6_code 26 = .ok (.goto 7, 3) := by decide +kernel
theorem own_d_prog_127_6_29 : decode prog_127_method_6_code 29 = .ok (.getstatic 13, 3) := by decide +kernel
theorem own_d_prog_127_6_32 : decode prog_127_method_6_code 32 = .ok (.astore_n 2, 1) := by decide +kernel
theorem own_d_prog_127_6_33 : decode prog_127_method_6_code 33 = .ok (.aload_n 2, 1) := by decide +kernel
theorem own_d_prog_127_6_34 : decode prog_127_method_6_code 34 = .ok (.areturn, 1) := by decide +kernel
theorem own_pd0 : parseMethodDescriptor "(I)Lcom/example/canox/canox/subset/FromEachNamespace;" = some ⟨[.int], some (.object "com/example/canox/canox/subset/FromEachNamespace")⟩ := by decide +kernel
theorem own_pd1 : parseMethodDescriptor "(Lcom/example/canox/canox/subset/FromEachNamespace;)Lcom/example/canox/canox/subset/FromEachNamespace;" = some ⟨[(.object "com/example/canox/canox/subset/FromEachNamespace")], some (.object "com/example/canox/canox/subset/FromEachNamespace")⟩ := by decide +kernel
theorem own_pn0 : plainName "com/example/canox/canox/subset/FromEachNamespaceUnionPinLaw" = true := by first | (simp [plainName, overriddenIn]; done) | decide +kernel
theorem own_pn1 : plainName "com/example/canox/canox/subset/FromEachNamespace" = true := by first | (simp [plainName, overriddenIn]; done) | decide +kernel
def own_pick (k : Int32) (w0 w1 w2 w3 : Addr) : Addr := if (k &&& 3) = 0 then w0 else if (k &&& 3) = 1 then w1 else if (k &&& 3) = 2 then w2 else w3
def own_union (a b w0 w3 : Addr) : Addr := if a = w0 ∨ a = b then b else if b = w0 then a else w3
theorem own_and3 (k : Int32) : (k &&& 3) = 0 ∨ (k &&& 3) = 1 ∨ (k &&& 3) = 2 ∨ (k &&& 3) = 3 := by
  have e : (k &&& 3).toInt = k.toInt % 4 := c_mask k 3 2 (by decide) (by decide)
  simp only [← Int32.toInt_inj, Int32.reduceToInt]; omega
theorem own_pk (k : Int32) (w0 w1 w2 w3 : Addr) : ∃ j : Int32, (j = 0 ∨ j = 1 ∨ j = 2 ∨ j = 3) ∧ (k &&& 3) = j ∧ own_pick k w0 w1 w2 w3 = if j = 0 then w0 else if j = 1 then w1 else if j = 2 then w2 else w3 := ⟨_, own_and3 k, rfl, rfl⟩
theorem own_law (a b : Int32) (w0 w1 w2 w3 : Addr) (h01 : w0 ≠ w1) (h02 : w0 ≠ w2) (h03 : w0 ≠ w3) (h12 : w1 ≠ w2) (h13 : w1 ≠ w3) (h23 : w2 ≠ w3) :
    own_union (own_pick a w0 w1 w2 w3) (own_pick b w0 w1 w2 w3) w0 w3 = own_pick ((a &&& 3) ||| (b &&& 3)) w0 w1 w2 w3 := by
  rcases own_and3 a with ha | ha | ha | ha <;> rcases own_and3 b with hb | hb | hb | hb <;>
    simp +decide [own_pick, own_union, ha, hb, h01, h02, h03, h12, h13, h23, h01.symm, h02.symm, h03.symm, h12.symm, h13.symm, h23.symm]

def own_Q_own_rm1 (Z : State) (p0 : Int32) (w0 w1 w2 w3 : Addr) (h0 : Heap) (n0 : Nat) : Option Value → Heap → List Loc → Prop := fun v h L => v = some (.ref (own_pick p0 w0 w1 w2 w3)) ∧ Fr n0 L ∧ h = h0
theorem own_ef_own_rm1 (m : MethodId) (x0 : Int32) : entryFrame m #[(.int x0)] 2 = mkF m 0 #[.val (.int x0), .unset] [] := by first | (simp [entryFrame, mkF, argsToLocals, Value.category]; done) | rfl
set_option maxRecDepth 65536 in
set_option maxHeartbeats 40000000 in
theorem own_rm1 (l : Launch) (Z : State) (a0 : Array Value) (hw : ∀ d ∈ tables_1, d.before a0 Z = true) (ws : List Jvm.Cond) (p0 : Int32) (w0 w1 w2 w3 : Addr) (h0 : Heap) (n0 : Nat) (S0 : Sta Z h0 "com/example/canox/canox/subset/FromEachNamespace" "SAME_WITHOUT_THEM" "Lcom/example/canox/canox/subset/FromEachNamespace;" (.ref w0)) (S1 : Sta Z h0 "com/example/canox/canox/subset/FromEachNamespace" "SAME" "Lcom/example/canox/canox/subset/FromEachNamespace;" (.ref w1)) (S2 : Sta Z h0 "com/example/canox/canox/subset/FromEachNamespace" "SAME_BUT_ITSELF" "Lcom/example/canox/canox/subset/FromEachNamespace;" (.ref w2)) (S3 : Sta Z h0 "com/example/canox/canox/subset/FromEachNamespace" "APART" "Lcom/example/canox/canox/subset/FromEachNamespace;" (.ref w3)) :
    MetFree l (⟨"com/example/canox/canox/subset/FromEachNamespaceUnionPinLaw", "pick", "(I)Lcom/example/canox/canox/subset/FromEachNamespace;"⟩ : MethodName) (head1 (Jvm.Cond.code (⟨"com/example/canox/canox/subset/FromEachNamespaceUnionPinLaw", "pick", "(I)Lcom/example/canox/canox/subset/FromEachNamespace;"⟩ : MethodName) method_2_code 2 (some (.object "com/example/canox/canox/subset/FromEachNamespace")) :: ws) ({ frames := 0, cells := 0, slots := 0, locals := 0 } : Room)) (fun a U => a = #[(.int p0)] ∧ Z.Warmed39 U.vm ∧ U.heap = h0) (fun _ _ _ _ _ => True) (fun _ U o U' => ∃ v L, o = .returned v ∧ (own_Q_own_rm1 Z p0 w0 w1 w2 w3 h0 n0) v U'.heap L ∧ FrameEnd U o U' L ({ frames := 0, cells := 0, slots := 0, locals := 0 } : Room).cells ({ frames := 0, cells := 0, slots := 0, locals := 0 } : Room).slots) := by
  refine MetFree.of_bodySF (plainFor_of_name own_pn0) hisR ?_
  intro p e s m args below meth c s₁ Bd hml0 hP hK
  obtain ⟨rfl, hZ, hh⟩ := hP
  have hx := Bd.exec
  have hby := Bd.bytes
  have hml : c.maxLocals = 2 := hml0
  have hown : s.vm.findClass "com/example/canox/canox/subset/FromEachNamespaceUnionPinLaw" = some m.cls := findClass_of_methodNamed Bd.named
  have hnm := (name_of_methodNamed Bd.named Bd.method).1
  have hlk : meth.locks = false := BodyLoose.notSynchronized Bd
  have X0 : Stand p l e ({ frames := 0, cells := 0, slots := 0, locals := 0 } : Room) s m #[(.int p0)] below meth c s₁ [] 0 0 := Stand.of_body Bd
  have e0 : s₁.heap = h0 := by rw [← hh, Bd.state]; rfl
  have N0 := Fr.nil n0
  show own_Ends p e below s (own_Q_own_rm1 Z p0 w0 w1 w2 w3 h0 n0) ({ frames := 0, cells := 0, slots := 0, locals := 0 } : Room).cells ({ frames := 0, cells := 0, slots := 0, locals := 0 } : Room).slots _
  refine own_by (V := s₁.setTop (mkF m 0 #[.val (.int p0), .unset] [])) (fun t k => castTop (own_ef_own_rm1 m p0) k) ?_
  refine own_by (V := s₁.setTop (mkF m 1 #[.val (.int p0), .unset] [(.int p0)])) (fun t k => XS.iloadN X0.here hx rfl (hb hby own_d_method_2_0) rfl  k) ?_
  refine own_by (V := s₁.setTop (mkF m 2 #[.val (.int p0), .unset] [(.int (3 : Int32)), (.int p0)])) (fun t k => XS.iconst X0.here hx rfl (hb hby own_d_method_2_1) k) ?_
  refine own_by (V := s₁.setTop (mkF m 3 #[.val (.int p0), .unset] [(.int (p0 &&& (3 : Int32)))])) (fun t k => XS.iand X0.here hx rfl (hb hby own_d_method_2_2) rfl k) ?_
  obtain ⟨z1, hz1⟩ : ∃ z : Int32, z = (p0 &&& (3 : Int32)) := ⟨_, rfl⟩
  rw [← hz1]
  refine own_by (V := s₁.setTop (mkF m 4 #[.val (.int p0), .val (.int z1)] [])) (fun t k => XS.istoreN X0.here hx rfl (hb hby own_d_method_2_3) rfl (l' := #[.val (.int p0), .val (.int z1)]) rfl k) ?_
  refine own_by (V := s₁.setTop (mkF m 5 #[.val (.int p0), .val (.int z1)] [(.int z1)])) (fun t k => XS.iloadN X0.here hx rfl (hb hby own_d_method_2_4) rfl  k) ?_
  by_cases hb5_2 : z1 = (0 : Int32)
  · refine own_by (V := s₁.setTop (mkF m 8 #[.val (.int p0), .val (.int z1)] [])) (fun t k => XS.ifNo X0.here hx rfl (hb hby own_d_method_2_5) rfl ((if0 _ _).trans (teq hb5_2).2) k) ?_
    obtain ⟨T3, X3, e3, st3⟩ := getS2 X0 hx hZ hown (host := "") (Or.inl (hw _ (List.mem_of_getElem? (i := 4) rfl))) Via.refl e0 S0 (g := (mkF m 8 #[.val (.int p0), .val (.int z1)] [])) rfl (hb hby own_d_method_2_8)
    refine own_by (V := T3.setTop (mkF m 11 #[.val (.int p0), .val (.int z1)] [(.ref w0)])) st3 ?_
    refine own_retA X3 hx hlk e3 (w := (.ref w0)) rfl Bd.returns rfl (hb hby own_d_method_2_11) ?_ (by decide) (by decide)
    exact ⟨congrArg (fun z => some (Value.ref z)) (show w0 = (own_pick p0 w0 w1 w2 w3) from by simp [own_pick, ← hz1, hb5_2]), N0, rfl⟩
  · refine own_by (V := s₁.setTop (mkF m 12 #[.val (.int p0), .val (.int z1)] [])) (fun t k => XS.ifYes X0.here hx rfl (pc0 := 5) (pc' := 12) rfl (hb hby own_d_method_2_5) rfl ((if0 _ _).trans (feq hb5_2).2) (by decide) (by decide) k) ?_
    refine own_by (V := s₁.setTop (mkF m 13 #[.val (.int p0), .val (.int z1)] [(.int z1)])) (fun t k => XS.iloadN X0.here hx rfl (hb hby own_d_method_2_12) rfl  k) ?_
    refine own_by (V := s₁.setTop (mkF m 14 #[.val (.int p0), .val (.int z1)] [(.int (1 : Int32)), (.int z1)])) (fun t k => XS.iconst X0.here hx rfl (hb hby own_d_method_2_13) k) ?_
    by_cases hb14_4 : z1 = (1 : Int32)
    · refine own_by (V := s₁.setTop (mkF m 17 #[.val (.int p0), .val (.int z1)] [])) (fun t k => XS.icmpNo X0.here hx rfl (hb hby own_d_method_2_14) rfl (teq hb14_4).2 k) ?_
      obtain ⟨T5, X5, e5, st5⟩ := getS2 X0 hx hZ hown (host := "") (Or.inl (hw _ (List.mem_of_getElem? (i := 17) rfl))) Via.refl e0 S1 (g := (mkF m 17 #[.val (.int p0), .val (.int z1)] [])) rfl (hb hby own_d_method_2_17)
      refine own_by (V := T5.setTop (mkF m 20 #[.val (.int p0), .val (.int z1)] [(.ref w1)])) st5 ?_
      refine own_retA X5 hx hlk e5 (w := (.ref w1)) rfl Bd.returns rfl (hb hby own_d_method_2_20) ?_ (by decide) (by decide)
      exact ⟨congrArg (fun z => some (Value.ref z)) (show w1 = (own_pick p0 w0 w1 w2 w3) from by simp [own_pick, ← hz1, hb5_2, hb14_4]), N0, rfl⟩
    · refine own_by (V := s₁.setTop (mkF m 21 #[.val (.int p0), .val (.int z1)] [])) (fun t k => XS.icmpYes X0.here hx rfl (pc0 := 14) (pc' := 21) rfl (hb hby own_d_method_2_14) rfl (feq hb14_4).2 (by decide) (by decide) k) ?_
      refine own_by (V := s₁.setTop (mkF m 22 #[.val (.int p0), .val (.int z1)] [(.int z1)])) (fun t k => XS.iloadN X0.here hx rfl (hb hby own_d_method_2_21) rfl  k) ?_
      refine own_by (V := s₁.setTop (mkF m 23 #[.val (.int p0), .val (.int z1)] [(.int (2 : Int32)), (.int z1)])) (fun t k => XS.iconst X0.here hx rfl (hb hby own_d_method_2_22) k) ?_
      by_cases hb23_6 : z1 = (2 : Int32)
      · refine own_by (V := s₁.setTop (mkF m 26 #[.val (.int p0), .val (.int z1)] [])) (fun t k => XS.icmpNo X0.here hx rfl (hb hby own_d_method_2_23) rfl (teq hb23_6).2 k) ?_
        obtain ⟨T7, X7, e7, st7⟩ := getS2 X0 hx hZ hown (host := "") (Or.inl (hw _ (List.mem_of_getElem? (i := 15) rfl))) Via.refl e0 S2 (g := (mkF m 26 #[.val (.int p0), .val (.int z1)] [])) rfl (hb hby own_d_method_2_26)
        refine own_by (V := T7.setTop (mkF m 29 #[.val (.int p0), .val (.int z1)] [(.ref w2)])) st7 ?_
        refine own_retA X7 hx hlk e7 (w := (.ref w2)) rfl Bd.returns rfl (hb hby own_d_method_2_29) ?_ (by decide) (by decide)
        exact ⟨congrArg (fun z => some (Value.ref z)) (show w2 = (own_pick p0 w0 w1 w2 w3) from by simp [own_pick, ← hz1, hb5_2, hb14_4, hb23_6]), N0, rfl⟩
      · refine own_by (V := s₁.setTop (mkF m 30 #[.val (.int p0), .val (.int z1)] [])) (fun t k => XS.icmpYes X0.here hx rfl (pc0 := 23) (pc' := 30) rfl (hb hby own_d_method_2_23) rfl (feq hb23_6).2 (by decide) (by decide) k) ?_
        obtain ⟨T8, X8, e8, st8⟩ := getS2 X0 hx hZ hown (host := "") (Or.inl (hw _ (List.mem_of_getElem? (i := 7) rfl))) Via.refl e0 S3 (g := (mkF m 30 #[.val (.int p0), .val (.int z1)] [])) rfl (hb hby own_d_method_2_30)
        refine own_by (V := T8.setTop (mkF m 33 #[.val (.int p0), .val (.int z1)] [(.ref w3)])) st8 ?_
        refine own_retA X8 hx hlk e8 (w := (.ref w3)) rfl Bd.returns rfl (hb hby own_d_method_2_33) ?_ (by decide) (by decide)
        exact ⟨congrArg (fun z => some (Value.ref z)) (show w3 = (own_pick p0 w0 w1 w2 w3) from by simp [own_pick, ← hz1, hb5_2, hb14_4, hb23_6]), N0, rfl⟩
def own_Q_own_rm2 (Z : State) (a0' a1 : Addr) (w0 w1 w2 w3 : Addr) (h0 : Heap) (n0 : Nat) : Option Value → Heap → List Loc → Prop := fun v h L => v = some (.ref (own_union a0' a1 w0 w3)) ∧ Fr n0 L ∧ h = h0
theorem own_ef_own_rm2 (m : MethodId) (x0 : Addr) (x1 : Addr) : entryFrame m #[(.ref x0), (.ref x1)] 3 = mkF m 0 #[.val (.ref x0), .val (.ref x1), .unset] [] := by first | (simp [entryFrame, mkF, argsToLocals, Value.category]; done) | rfl
set_option maxRecDepth 65536 in
set_option maxHeartbeats 40000000 in
theorem own_rm2 (l : Launch) (Z : State) (a0 : Array Value) (hw : ∀ d ∈ tables_1, d.before a0 Z = true) (ws : List Jvm.Cond) (a0' a1 : Addr) (w0 w1 w2 w3 : Addr) (h0 : Heap) (n0 : Nat) (S0 : Sta Z h0 "com/example/canox/canox/subset/FromEachNamespace" "SAME_WITHOUT_THEM" "Lcom/example/canox/canox/subset/FromEachNamespace;" (.ref w0)) (S1 : Sta Z h0 "com/example/canox/canox/subset/FromEachNamespace" "SAME" "Lcom/example/canox/canox/subset/FromEachNamespace;" (.ref w1)) (S2 : Sta Z h0 "com/example/canox/canox/subset/FromEachNamespace" "SAME_BUT_ITSELF" "Lcom/example/canox/canox/subset/FromEachNamespace;" (.ref w2)) (S3 : Sta Z h0 "com/example/canox/canox/subset/FromEachNamespace" "APART" "Lcom/example/canox/canox/subset/FromEachNamespace;" (.ref w3)) :
    MetFree l (⟨"com/example/canox/canox/subset/FromEachNamespace", "union", "(Lcom/example/canox/canox/subset/FromEachNamespace;)Lcom/example/canox/canox/subset/FromEachNamespace;"⟩ : MethodName) (head1 (Jvm.Cond.code (⟨"com/example/canox/canox/subset/FromEachNamespace", "union", "(Lcom/example/canox/canox/subset/FromEachNamespace;)Lcom/example/canox/canox/subset/FromEachNamespace;"⟩ : MethodName) prog_127_method_6_code 3 (some (.object "com/example/canox/canox/subset/FromEachNamespace")) :: ws) ({ frames := 0, cells := 0, slots := 0, locals := 0 } : Room)) (fun a U => a = #[(.ref a0'), (.ref a1)] ∧ Z.Warmed39 U.vm ∧ U.heap = h0) (fun _ _ _ _ _ => True) (fun _ U o U' => ∃ v L, o = .returned v ∧ (own_Q_own_rm2 Z a0' a1 w0 w1 w2 w3 h0 n0) v U'.heap L ∧ FrameEnd U o U' L ({ frames := 0, cells := 0, slots := 0, locals := 0 } : Room).cells ({ frames := 0, cells := 0, slots := 0, locals := 0 } : Room).slots) := by
  refine MetFree.of_bodySF (plainFor_of_name own_pn1) hisR ?_
  intro p e s m args below meth c s₁ Bd hml0 hP hK
  obtain ⟨rfl, hZ, hh⟩ := hP
  have hx := Bd.exec
  have hby := Bd.bytes
  have hml : c.maxLocals = 3 := hml0
  have hown : s.vm.findClass "com/example/canox/canox/subset/FromEachNamespace" = some m.cls := findClass_of_methodNamed Bd.named
  have hnm := (name_of_methodNamed Bd.named Bd.method).1
  have hlk : meth.locks = false := BodyLoose.notSynchronized Bd
  have X0 : Stand p l e ({ frames := 0, cells := 0, slots := 0, locals := 0 } : Room) s m #[(.ref a0'), (.ref a1)] below meth c s₁ [] 0 0 := Stand.of_body Bd
  have e0 : s₁.heap = h0 := by rw [← hh, Bd.state]; rfl
  have N0 := Fr.nil n0
  show own_Ends p e below s (own_Q_own_rm2 Z a0' a1 w0 w1 w2 w3 h0 n0) ({ frames := 0, cells := 0, slots := 0, locals := 0 } : Room).cells ({ frames := 0, cells := 0, slots := 0, locals := 0 } : Room).slots _
  refine own_by (V := s₁.setTop (mkF m 0 #[.val (.ref a0'), .val (.ref a1), .unset] [])) (fun t k => castTop (own_ef_own_rm2 m a0' a1) k) ?_
  refine own_by (V := s₁.setTop (mkF m 1 #[.val (.ref a0'), .val (.ref a1), .unset] [(.ref a0')])) (fun t k => XS.aloadN X0.here hx rfl (hb hby own_d_prog_127_6_0) rfl rfl k) ?_
  obtain ⟨T1, X1, e1, st1⟩ := getS2 X0 hx hZ hown (host := "") (Or.inl (hw _ (List.mem_of_getElem? (i := 14) rfl))) Via.refl e0 S0 (g := (mkF m 1 #[.val (.ref a0'), .val (.ref a1), .unset] [(.ref a0')])) rfl (hb hby own_d_prog_127_6_1)
  refine own_by (V := T1.setTop (mkF m 4 #[.val (.ref a0'), .val (.ref a1), .unset] [(.ref w0), (.ref a0')])) st1 ?_
  by_cases ha4_2 : a0' = w0
  · refine own_by (V := T1.setTop (mkF m 12 #[.val (.ref a0'), .val (.ref a1), .unset] [])) (fun t k => Jvm.RoadKit.acmp (g := (mkF m 4 #[.val (.ref a0'), .val (.ref a1), .unset] [(.ref w0), (.ref a0')])) X1 hx rfl rfl rfl (pc0 := 4) (pc' := 12) (same := true) rfl (hb hby own_d_prog_127_6_4) rfl (decide_eq_true (congrArg Value.ref ha4_2)) (by decide) (by decide) k) ?_
    refine own_by (V := T1.setTop (mkF m 13 #[.val (.ref a0'), .val (.ref a1), .unset] [(.ref a1)])) (fun t k => XS.aloadN X1.here hx rfl (hb hby own_d_prog_127_6_12) rfl rfl k) ?_
    refine own_by (V := T1.setTop (mkF m 14 #[.val (.ref a0'), .val (.ref a1), .val (.ref a1)] [])) (fun t k => XS.astoreN X1.here hx rfl (hb hby own_d_prog_127_6_13) rfl rfl (l' := #[.val (.ref a0'), .val (.ref a1), .val (.ref a1)]) rfl k) ?_
    refine own_by (V := T1.setTop (mkF m 33 #[.val (.ref a0'), .val (.ref a1), .val (.ref a1)] [])) (fun t k => XS.goto X1.here hx rfl (pc0 := 14) (pc' := 33) rfl (hb hby own_d_prog_127_6_14) (by decide) (by decide) k) ?_
    refine own_by (V := T1.setTop (mkF m 34 #[.val (.ref a0'), .val (.ref a1), .val (.ref a1)] [(.ref a1)])) (fun t k => XS.aloadN X1.here hx rfl (hb hby own_d_prog_127_6_33) rfl rfl k) ?_
    refine own_retA X1 hx hlk e1 (w := (.ref a1)) rfl Bd.returns rfl (hb hby own_d_prog_127_6_34) ?_ (by decide) (by decide)
    exact ⟨congrArg (fun z => some (Value.ref z)) (show a1 = (own_union a0' a1 w0 w3) from by simp [own_union, ha4_2]), N0, rfl⟩
  · refine own_by (V := T1.setTop (mkF m 7 #[.val (.ref a0'), .val (.ref a1), .unset] [])) (fun t k => Jvm.RoadKit.acmp (g := (mkF m 4 #[.val (.ref a0'), .val (.ref a1), .unset] [(.ref w0), (.ref a0')])) X1 hx rfl rfl rfl (pc0 := 4) (pc' := 7) (same := false) rfl (hb hby own_d_prog_127_6_4) rfl (decide_eq_false fun q => ha4_2 (Value.ref.inj q)) (by decide) (by decide) k) ?_
    refine own_by (V := T1.setTop (mkF m 8 #[.val (.ref a0'), .val (.ref a1), .unset] [(.ref a0')])) (fun t k => XS.aloadN X1.here hx rfl (hb hby own_d_prog_127_6_7) rfl rfl k) ?_
    refine own_by (V := T1.setTop (mkF m 9 #[.val (.ref a0'), .val (.ref a1), .unset] [(.ref a1), (.ref a0')])) (fun t k => XS.aloadN X1.here hx rfl (hb hby own_d_prog_127_6_8) rfl rfl k) ?_
    by_cases ha9_3 : a0' = a1
    · refine own_by (V := T1.setTop (mkF m 12 #[.val (.ref a0'), .val (.ref a1), .unset] [])) (fun t k => Jvm.RoadKit.acmp (g := (mkF m 9 #[.val (.ref a0'), .val (.ref a1), .unset] [(.ref a1), (.ref a0')])) X1 hx rfl rfl rfl (pc0 := 9) (pc' := 12) (same := true) rfl (hb hby own_d_prog_127_6_9) rfl (decide_eq_true (congrArg Value.ref ha9_3)) (by decide) (by decide) k) ?_
      refine own_by (V := T1.setTop (mkF m 13 #[.val (.ref a0'), .val (.ref a1), .unset] [(.ref a1)])) (fun t k => XS.aloadN X1.here hx rfl (hb hby own_d_prog_127_6_12) rfl rfl k) ?_
      refine own_by (V := T1.setTop (mkF m 14 #[.val (.ref a0'), .val (.ref a1), .val (.ref a1)] [])) (fun t k => XS.astoreN X1.here hx rfl (hb hby own_d_prog_127_6_13) rfl rfl (l' := #[.val (.ref a0'), .val (.ref a1), .val (.ref a1)]) rfl k) ?_
      refine own_by (V := T1.setTop (mkF m 33 #[.val (.ref a0'), .val (.ref a1), .val (.ref a1)] [])) (fun t k => XS.goto X1.here hx rfl (pc0 := 14) (pc' := 33) rfl (hb hby own_d_prog_127_6_14) (by decide) (by decide) k) ?_
      refine own_by (V := T1.setTop (mkF m 34 #[.val (.ref a0'), .val (.ref a1), .val (.ref a1)] [(.ref a1)])) (fun t k => XS.aloadN X1.here hx rfl (hb hby own_d_prog_127_6_33) rfl rfl k) ?_
      refine own_retA X1 hx hlk e1 (w := (.ref a1)) rfl Bd.returns rfl (hb hby own_d_prog_127_6_34) ?_ (by decide) (by decide)
      exact ⟨congrArg (fun z => some (Value.ref z)) (show a1 = (own_union a0' a1 w0 w3) from by simp [own_union, ha4_2, ha9_3]), N0, rfl⟩
    · refine own_by (V := T1.setTop (mkF m 17 #[.val (.ref a0'), .val (.ref a1), .unset] [])) (fun t k => Jvm.RoadKit.acmp (g := (mkF m 9 #[.val (.ref a0'), .val (.ref a1), .unset] [(.ref a1), (.ref a0')])) X1 hx rfl rfl rfl (pc0 := 9) (pc' := 17) (same := false) rfl (hb hby own_d_prog_127_6_9) rfl (decide_eq_false fun q => ha9_3 (Value.ref.inj q)) (by decide) (by decide) k) ?_
      refine own_by (V := T1.setTop (mkF m 18 #[.val (.ref a0'), .val (.ref a1), .unset] [(.ref a1)])) (fun t k => XS.aloadN X1.here hx rfl (hb hby own_d_prog_127_6_17) rfl rfl k) ?_
      obtain ⟨T4, X4, e4, st4⟩ := getS2 X1 hx hZ hown (host := "") (Or.inl (hw _ (List.mem_of_getElem? (i := 14) rfl))) Via.refl e1 S0 (g := (mkF m 18 #[.val (.ref a0'), .val (.ref a1), .unset] [(.ref a1)])) rfl (hb hby own_d_prog_127_6_18)
      refine own_by (V := T4.setTop (mkF m 21 #[.val (.ref a0'), .val (.ref a1), .unset] [(.ref w0), (.ref a1)])) st4 ?_
      by_cases ha21_5 : a1 = w0
      · refine own_by (V := T4.setTop (mkF m 24 #[.val (.ref a0'), .val (.ref a1), .unset] [])) (fun t k => Jvm.RoadKit.acmp (g := (mkF m 21 #[.val (.ref a0'), .val (.ref a1), .unset] [(.ref w0), (.ref a1)])) X4 hx rfl rfl rfl (pc0 := 21) (pc' := 24) (same := true) rfl (hb hby own_d_prog_127_6_21) rfl (decide_eq_true (congrArg Value.ref ha21_5)) (by decide) (by decide) k) ?_
        refine own_by (V := T4.setTop (mkF m 25 #[.val (.ref a0'), .val (.ref a1), .unset] [(.ref a0')])) (fun t k => XS.aloadN X4.here hx rfl (hb hby own_d_prog_127_6_24) rfl rfl k) ?_
        refine own_by (V := T4.setTop (mkF m 26 #[.val (.ref a0'), .val (.ref a1), .val (.ref a0')] [])) (fun t k => XS.astoreN X4.here hx rfl (hb hby own_d_prog_127_6_25) rfl rfl (l' := #[.val (.ref a0'), .val (.ref a1), .val (.ref a0')]) rfl k) ?_
        refine own_by (V := T4.setTop (mkF m 33 #[.val (.ref a0'), .val (.ref a1), .val (.ref a0')] [])) (fun t k => XS.goto X4.here hx rfl (pc0 := 26) (pc' := 33) rfl (hb hby own_d_prog_127_6_26) (by decide) (by decide) k) ?_
        refine own_by (V := T4.setTop (mkF m 34 #[.val (.ref a0'), .val (.ref a1), .val (.ref a0')] [(.ref a0')])) (fun t k => XS.aloadN X4.here hx rfl (hb hby own_d_prog_127_6_33) rfl rfl k) ?_
        refine own_retA X4 hx hlk e4 (w := (.ref a0')) rfl Bd.returns rfl (hb hby own_d_prog_127_6_34) ?_ (by decide) (by decide)
        exact ⟨congrArg (fun z => some (Value.ref z)) (show a0' = (own_union a0' a1 w0 w3) from by simp [own_union, ha4_2, ha9_3, ha21_5]), N0, rfl⟩
      · refine own_by (V := T4.setTop (mkF m 29 #[.val (.ref a0'), .val (.ref a1), .unset] [])) (fun t k => Jvm.RoadKit.acmp (g := (mkF m 21 #[.val (.ref a0'), .val (.ref a1), .unset] [(.ref w0), (.ref a1)])) X4 hx rfl rfl rfl (pc0 := 21) (pc' := 29) (same := false) rfl (hb hby own_d_prog_127_6_21) rfl (decide_eq_false fun q => ha21_5 (Value.ref.inj q)) (by decide) (by decide) k) ?_
        obtain ⟨T6, X6, e6, st6⟩ := getS2 X4 hx hZ hown (host := "") (Or.inl (hw _ (List.mem_of_getElem? (i := 19) rfl))) Via.refl e4 S3 (g := (mkF m 29 #[.val (.ref a0'), .val (.ref a1), .unset] [])) rfl (hb hby own_d_prog_127_6_29)
        refine own_by (V := T6.setTop (mkF m 32 #[.val (.ref a0'), .val (.ref a1), .unset] [(.ref w3)])) st6 ?_
        refine own_by (V := T6.setTop (mkF m 33 #[.val (.ref a0'), .val (.ref a1), .val (.ref w3)] [])) (fun t k => XS.astoreN X6.here hx rfl (hb hby own_d_prog_127_6_32) rfl rfl (l' := #[.val (.ref a0'), .val (.ref a1), .val (.ref w3)]) rfl k) ?_
        refine own_by (V := T6.setTop (mkF m 34 #[.val (.ref a0'), .val (.ref a1), .val (.ref w3)] [(.ref w3)])) (fun t k => XS.aloadN X6.here hx rfl (hb hby own_d_prog_127_6_33) rfl rfl k) ?_
        refine own_retA X6 hx hlk e6 (w := (.ref w3)) rfl Bd.returns rfl (hb hby own_d_prog_127_6_34) ?_ (by decide) (by decide)
        exact ⟨congrArg (fun z => some (Value.ref z)) (show w3 = (own_union a0' a1 w0 w3) from by simp [own_union, ha4_2, ha9_3, ha21_5]), N0, rfl⟩
def own_Q_own_rm0 (Z : State) (p0 p1 : Int32) (w0 w1 w2 w3 : Addr) (h0 : Heap) (n0 : Nat) : Option Value → Heap → List Loc → Prop := fun v h L => v = some (.int 1) ∧ Fr n0 L
theorem own_ef_own_rm0 (m : MethodId) (x0 : Int32) (x1 : Int32) : entryFrame m #[(.int x0), (.int x1)] maxLocals = mkF m 0 #[.val (.int x0), .val (.int x1), .unset, .unset, .unset, .unset] [] := by first | (simp [entryFrame, mkF, argsToLocals, Value.category, maxLocals]; done) | rfl
set_option maxRecDepth 65536 in
set_option maxHeartbeats 40000000 in
theorem own_rm0 (l : Launch) (Z : State) (a0 : Array Value) (hw : ∀ d ∈ tables_1, d.before a0 Z = true) (ws : List Jvm.Cond) (p0 p1 : Int32) (w0 w1 w2 w3 : Addr) (h0 : Heap) (n0 : Nat) (S0 : Sta Z h0 "com/example/canox/canox/subset/FromEachNamespace" "SAME_WITHOUT_THEM" "Lcom/example/canox/canox/subset/FromEachNamespace;" (.ref w0)) (S1 : Sta Z h0 "com/example/canox/canox/subset/FromEachNamespace" "SAME" "Lcom/example/canox/canox/subset/FromEachNamespace;" (.ref w1)) (S2 : Sta Z h0 "com/example/canox/canox/subset/FromEachNamespace" "SAME_BUT_ITSELF" "Lcom/example/canox/canox/subset/FromEachNamespace;" (.ref w2)) (S3 : Sta Z h0 "com/example/canox/canox/subset/FromEachNamespace" "APART" "Lcom/example/canox/canox/subset/FromEachNamespace;" (.ref w3)) (E0 : Exa Z h0 w0 "com/example/canox/canox/subset/FromEachNamespace") (E1 : Exa Z h0 w1 "com/example/canox/canox/subset/FromEachNamespace") (E2 : Exa Z h0 w2 "com/example/canox/canox/subset/FromEachNamespace") (E3 : Exa Z h0 w3 "com/example/canox/canox/subset/FromEachNamespace") (h01 : w0 ≠ w1) (h02 : w0 ≠ w2) (h03 : w0 ≠ w3) (h12 : w1 ≠ w2) (h13 : w1 ≠ w3) (h23 : w2 ≠ w3) :
    MetFree l x (head1 (Jvm.Cond.code x code maxLocals ret :: ws) room_1) (fun a U => a = #[(.int p0), (.int p1)] ∧ Z.Warmed39 U.vm ∧ U.heap = h0) (fun _ _ _ _ _ => True) (fun _ U o U' => ∃ v L, o = .returned v ∧ (own_Q_own_rm0 Z p0 p1 w0 w1 w2 w3 h0 n0) v U'.heap L ∧ FrameEnd U o U' L room_1.cells room_1.slots) := by
  refine MetFree.of_bodySF (plainFor_of_name own_pn0) hisR ?_
  intro p e s m args below meth c s₁ Bd hml0 hP hK
  obtain ⟨rfl, hZ, hh⟩ := hP
  have hx := Bd.exec
  have hby := Bd.bytes
  have hml : c.maxLocals = 6 := hml0
  have hown : s.vm.findClass "com/example/canox/canox/subset/FromEachNamespaceUnionPinLaw" = some m.cls := findClass_of_methodNamed Bd.named
  have hnm := (name_of_methodNamed Bd.named Bd.method).1
  have hlk : meth.locks = false := BodyLoose.notSynchronized Bd
  have X0 : Stand p l e room_1 s m #[(.int p0), (.int p1)] below meth c s₁ [] 0 0 := Stand.of_body Bd
  have e0 : s₁.heap = h0 := by rw [← hh, Bd.state]; rfl
  have N0 := Fr.nil n0
  show own_Ends p e below s (own_Q_own_rm0 Z p0 p1 w0 w1 w2 w3 h0 n0) room_1.cells room_1.slots _
  refine own_by (V := s₁.setTop (mkF m 0 #[.val (.int p0), .val (.int p1), .unset, .unset, .unset, .unset] [])) (fun t k => castTop (own_ef_own_rm0 m p0 p1) k) ?_
  have EX : ∀ k, Exa Z h0 (own_pick k w0 w1 w2 w3) "com/example/canox/canox/subset/FromEachNamespace" := fun k => by unfold own_pick; split; exact E0; split; exact E1; split; exact E2; exact E3
  refine own_by (V := s₁.setTop (mkF m 1 #[.val (.int p0), .val (.int p1), .unset, .unset, .unset, .unset] [(.int p0)])) (fun t k => XS.iloadN X0.here hx rfl (hb hby at_0) rfl  k) ?_
  obtain ⟨_, _, ⟨T1, Lq1, kq1, nq1⟩, -, X1, ⟨Lc1, hQ1, lq1, yq1, zq1⟩, st1⟩ := Jvm.LawKit.callS X0 hx (y := (⟨"com/example/canox/canox/subset/FromEachNamespaceUnionPinLaw", "pick", "(I)Lcom/example/canox/canox/subset/FromEachNamespace;"⟩ : MethodName)) hown (mvT hZ (hw _ (List.mem_of_getElem? (i := 0) rfl))) (mvT hZ (hw _ (List.mem_of_getElem? (i := 1) rfl))) (mvT hZ (hw _ (List.mem_of_getElem? (i := 2) rfl))) (mvT hZ (hw _ (List.mem_of_getElem? (i := 3) rfl))) (by decide) (backOf (W := 0) (own_rm1 l Z a0 hw [] p0 w0 w1 w2 w3 h0 n0 S0 S1 S2 S3) hZ (hw _ (List.mem_of_getElem? (i := 3) rfl)) (hw _ (List.mem_of_getElem? (i := 2) rfl)) (by decide) (by decide)) (g := (mkF m 1 #[.val (.int p0), .val (.int p1), .unset, .unset, .unset, .unset] [(.int p0)])) rfl (by rw [hml]; rfl) (argsL := [(.int p0)]) (rest := []) (lenOf own_pd0 rfl) rfl (by show 2 * 0 + _ ≤ _; exact Nat.le_of_eq rfl) (hb hby at_1) (fun _ _ => ⟨rfl, e0, (by decide : 0 + 0 ≤ _), (by decide : 0 + 0 ≤ _)⟩)
  dsimp only [Pt.U, Pt.locs, Pt.cells, Pt.slots] at X1 lq1 yq1 zq1 st1 hQ1
  subst lq1 yq1 zq1
  obtain ⟨rfl, N1q, e1⟩ := hQ1
  have N1 := Fr.app N0 N1q
  refine own_by (V := T1.setTop (mkF m 4 #[.val (.int p0), .val (.int p1), .unset, .unset, .unset, .unset] [(.ref (own_pick p0 w0 w1 w2 w3))])) st1 ?_
  refine own_by (V := T1.setTop (mkF m 5 #[.val (.int p0), .val (.int p1), .val (.ref (own_pick p0 w0 w1 w2 w3)), .unset, .unset, .unset] [])) (fun t k => XS.astoreN X1.here hx rfl (hb hby at_4) rfl rfl (l' := #[.val (.int p0), .val (.int p1), .val (.ref (own_pick p0 w0 w1 w2 w3)), .unset, .unset, .unset]) rfl k) ?_
  refine own_by (V := T1.setTop (mkF m 6 #[.val (.int p0), .val (.int p1), .val (.ref (own_pick p0 w0 w1 w2 w3)), .unset, .unset, .unset] [(.int p1)])) (fun t k => XS.iloadN X1.here hx rfl (hb hby at_5) rfl  k) ?_
  obtain ⟨_, _, ⟨T2, Lq2, kq2, nq2⟩, -, X2, ⟨Lc2, hQ2, lq2, yq2, zq2⟩, st2⟩ := Jvm.LawKit.callS X1 hx (y := (⟨"com/example/canox/canox/subset/FromEachNamespaceUnionPinLaw", "pick", "(I)Lcom/example/canox/canox/subset/FromEachNamespace;"⟩ : MethodName)) hown (mvT hZ (hw _ (List.mem_of_getElem? (i := 0) rfl))) (mvT hZ (hw _ (List.mem_of_getElem? (i := 1) rfl))) (mvT hZ (hw _ (List.mem_of_getElem? (i := 2) rfl))) (mvT hZ (hw _ (List.mem_of_getElem? (i := 3) rfl))) (by decide) (backOf (W := 0) (own_rm1 l Z a0 hw [] p1 w0 w1 w2 w3 h0 n0 S0 S1 S2 S3) hZ (hw _ (List.mem_of_getElem? (i := 3) rfl)) (hw _ (List.mem_of_getElem? (i := 2) rfl)) (by decide) (by decide)) (g := (mkF m 6 #[.val (.int p0), .val (.int p1), .val (.ref (own_pick p0 w0 w1 w2 w3)), .unset, .unset, .unset] [(.int p1)])) rfl (by rw [hml]; rfl) (argsL := [(.int p1)]) (rest := []) (lenOf own_pd0 rfl) rfl (by show 2 * 0 + _ ≤ _; exact Nat.le_of_eq rfl) (hb hby at_6) (fun _ _ => ⟨rfl, e1, (by decide : 0 + 0 ≤ _), (by decide : 0 + 0 ≤ _)⟩)
  dsimp only [Pt.U, Pt.locs, Pt.cells, Pt.slots] at X2 lq2 yq2 zq2 st2 hQ2
  subst lq2 yq2 zq2
  obtain ⟨rfl, N2q, e2⟩ := hQ2
  have N2 := Fr.app N1 N2q
  refine own_by (V := T2.setTop (mkF m 9 #[.val (.int p0), .val (.int p1), .val (.ref (own_pick p0 w0 w1 w2 w3)), .unset, .unset, .unset] [(.ref (own_pick p1 w0 w1 w2 w3))])) st2 ?_
  refine own_by (V := T2.setTop (mkF m 10 #[.val (.int p0), .val (.int p1), .val (.ref (own_pick p0 w0 w1 w2 w3)), .val (.ref (own_pick p1 w0 w1 w2 w3)), .unset, .unset] [])) (fun t k => XS.astoreN X2.here hx rfl (hb hby at_9) rfl rfl (l' := #[.val (.int p0), .val (.int p1), .val (.ref (own_pick p0 w0 w1 w2 w3)), .val (.ref (own_pick p1 w0 w1 w2 w3)), .unset, .unset]) rfl k) ?_
  refine own_by (V := T2.setTop (mkF m 11 #[.val (.int p0), .val (.int p1), .val (.ref (own_pick p0 w0 w1 w2 w3)), .val (.ref (own_pick p1 w0 w1 w2 w3)), .unset, .unset] [(.int p0)])) (fun t k => XS.iloadN X2.here hx rfl (hb hby at_10) rfl  k) ?_
  refine own_by (V := T2.setTop (mkF m 12 #[.val (.int p0), .val (.int p1), .val (.ref (own_pick p0 w0 w1 w2 w3)), .val (.ref (own_pick p1 w0 w1 w2 w3)), .unset, .unset] [(.int (3 : Int32)), (.int p0)])) (fun t k => XS.iconst X2.here hx rfl (hb hby at_11) k) ?_
  refine own_by (V := T2.setTop (mkF m 13 #[.val (.int p0), .val (.int p1), .val (.ref (own_pick p0 w0 w1 w2 w3)), .val (.ref (own_pick p1 w0 w1 w2 w3)), .unset, .unset] [(.int (p0 &&& (3 : Int32)))])) (fun t k => XS.iand X2.here hx rfl (hb hby at_12) rfl k) ?_
  refine own_by (V := T2.setTop (mkF m 14 #[.val (.int p0), .val (.int p1), .val (.ref (own_pick p0 w0 w1 w2 w3)), .val (.ref (own_pick p1 w0 w1 w2 w3)), .unset, .unset] [(.int p1), (.int (p0 &&& (3 : Int32)))])) (fun t k => XS.iloadN X2.here hx rfl (hb hby at_13) rfl  k) ?_
  refine own_by (V := T2.setTop (mkF m 15 #[.val (.int p0), .val (.int p1), .val (.ref (own_pick p0 w0 w1 w2 w3)), .val (.ref (own_pick p1 w0 w1 w2 w3)), .unset, .unset] [(.int (3 : Int32)), (.int p1), (.int (p0 &&& (3 : Int32)))])) (fun t k => XS.iconst X2.here hx rfl (hb hby at_14) k) ?_
  refine own_by (V := T2.setTop (mkF m 16 #[.val (.int p0), .val (.int p1), .val (.ref (own_pick p0 w0 w1 w2 w3)), .val (.ref (own_pick p1 w0 w1 w2 w3)), .unset, .unset] [(.int (p1 &&& (3 : Int32))), (.int (p0 &&& (3 : Int32)))])) (fun t k => XS.iand X2.here hx rfl (hb hby at_15) rfl k) ?_
  refine own_by (V := T2.setTop (mkF m 17 #[.val (.int p0), .val (.int p1), .val (.ref (own_pick p0 w0 w1 w2 w3)), .val (.ref (own_pick p1 w0 w1 w2 w3)), .unset, .unset] [(.int ((p0 &&& (3 : Int32)) ||| (p1 &&& (3 : Int32))))])) (fun t k => XS.ior X2.here hx rfl (hb hby at_16) rfl k) ?_
  obtain ⟨_, _, ⟨T3, Lq3, kq3, nq3⟩, -, X3, ⟨Lc3, hQ3, lq3, yq3, zq3⟩, st3⟩ := Jvm.LawKit.callS X2 hx (y := (⟨"com/example/canox/canox/subset/FromEachNamespaceUnionPinLaw", "pick", "(I)Lcom/example/canox/canox/subset/FromEachNamespace;"⟩ : MethodName)) hown (mvT hZ (hw _ (List.mem_of_getElem? (i := 0) rfl))) (mvT hZ (hw _ (List.mem_of_getElem? (i := 1) rfl))) (mvT hZ (hw _ (List.mem_of_getElem? (i := 2) rfl))) (mvT hZ (hw _ (List.mem_of_getElem? (i := 3) rfl))) (by decide) (backOf (W := 0) (own_rm1 l Z a0 hw [] ((p0 &&& (3 : Int32)) ||| (p1 &&& (3 : Int32))) w0 w1 w2 w3 h0 n0 S0 S1 S2 S3) hZ (hw _ (List.mem_of_getElem? (i := 3) rfl)) (hw _ (List.mem_of_getElem? (i := 2) rfl)) (by decide) (by decide)) (g := (mkF m 17 #[.val (.int p0), .val (.int p1), .val (.ref (own_pick p0 w0 w1 w2 w3)), .val (.ref (own_pick p1 w0 w1 w2 w3)), .unset, .unset] [(.int ((p0 &&& (3 : Int32)) ||| (p1 &&& (3 : Int32))))])) rfl (by rw [hml]; rfl) (argsL := [(.int ((p0 &&& (3 : Int32)) ||| (p1 &&& (3 : Int32))))]) (rest := []) (lenOf own_pd0 rfl) rfl (by show 2 * 0 + _ ≤ _; exact Nat.le_of_eq rfl) (hb hby at_17) (fun _ _ => ⟨rfl, e2, (by decide : 0 + 0 ≤ _), (by decide : 0 + 0 ≤ _)⟩)
  dsimp only [Pt.U, Pt.locs, Pt.cells, Pt.slots] at X3 lq3 yq3 zq3 st3 hQ3
  subst lq3 yq3 zq3
  obtain ⟨rfl, N3q, e3⟩ := hQ3
  have N3 := Fr.app N2 N3q
  refine own_by (V := T3.setTop (mkF m 20 #[.val (.int p0), .val (.int p1), .val (.ref (own_pick p0 w0 w1 w2 w3)), .val (.ref (own_pick p1 w0 w1 w2 w3)), .unset, .unset] [(.ref (own_pick ((p0 &&& (3 : Int32)) ||| (p1 &&& (3 : Int32))) w0 w1 w2 w3))])) st3 ?_
  refine own_by (V := T3.setTop (mkF m 22 #[.val (.int p0), .val (.int p1), .val (.ref (own_pick p0 w0 w1 w2 w3)), .val (.ref (own_pick p1 w0 w1 w2 w3)), .val (.ref (own_pick ((p0 &&& (3 : Int32)) ||| (p1 &&& (3 : Int32))) w0 w1 w2 w3)), .unset] [])) (fun t k => XS.astore X3.here hx rfl (hb hby at_20) rfl rfl (l' := #[.val (.int p0), .val (.int p1), .val (.ref (own_pick p0 w0 w1 w2 w3)), .val (.ref (own_pick p1 w0 w1 w2 w3)), .val (.ref (own_pick ((p0 &&& (3 : Int32)) ||| (p1 &&& (3 : Int32))) w0 w1 w2 w3)), .unset]) rfl k) ?_
  refine own_by (V := T3.setTop (mkF m 23 #[.val (.int p0), .val (.int p1), .val (.ref (own_pick p0 w0 w1 w2 w3)), .val (.ref (own_pick p1 w0 w1 w2 w3)), .val (.ref (own_pick ((p0 &&& (3 : Int32)) ||| (p1 &&& (3 : Int32))) w0 w1 w2 w3)), .unset] [(.ref (own_pick p0 w0 w1 w2 w3))])) (fun t k => XS.aloadN X3.here hx rfl (hb hby at_22) rfl rfl k) ?_
  refine own_by (V := T3.setTop (mkF m 24 #[.val (.int p0), .val (.int p1), .val (.ref (own_pick p0 w0 w1 w2 w3)), .val (.ref (own_pick p1 w0 w1 w2 w3)), .val (.ref (own_pick ((p0 &&& (3 : Int32)) ||| (p1 &&& (3 : Int32))) w0 w1 w2 w3)), .unset] [(.ref (own_pick p1 w0 w1 w2 w3)), (.ref (own_pick p0 w0 w1 w2 w3))])) (fun t k => XS.aloadN X3.here hx rfl (hb hby at_23) rfl rfl k) ?_
  obtain ⟨cq5, kq5, q5a, q5b, q5c⟩ := isOf hZ e3 (EX p0)
  obtain ⟨_, _, ⟨T4, Lq4, kq4, nq4⟩, -, X4, ⟨Lc4, hQ4, lq4, yq4, zq4⟩, st4⟩ := X3.virtualBack hx (y := (⟨"com/example/canox/canox/subset/FromEachNamespace", "union", "(Lcom/example/canox/canox/subset/FromEachNamespace;)Lcom/example/canox/canox/subset/FromEachNamespace;"⟩ : MethodName)) (z := (⟨"com/example/canox/canox/subset/FromEachNamespace", "union", "(Lcom/example/canox/canox/subset/FromEachNamespace;)Lcom/example/canox/canox/subset/FromEachNamespace;"⟩ : MethodName)) hown (mvT hZ (hw _ (List.mem_of_getElem? (i := 9) rfl))) (mvT hZ (hw _ (List.mem_of_getElem? (i := 10) rfl))) (notFace_of_selects (args := #[]) (mvT hZ (hw _ (List.mem_of_getElem? (i := 12) rfl)))) (mvT hZ (hw _ (List.mem_of_getElem? (i := 12) rfl))) (mvT hZ (hw _ (List.mem_of_getElem? (i := 11) rfl))) (by decide) (backOf (W := 0) (own_rm2 l Z a0 hw [] (own_pick p0 w0 w1 w2 w3) (own_pick p1 w0 w1 w2 w3) w0 w1 w2 w3 h0 n0 S0 S1 S2 S3) hZ (hw _ (List.mem_of_getElem? (i := 13) rfl)) (hw _ (List.mem_of_getElem? (i := 5) rfl)) (by decide) (by decide)) q5a q5c (g := (mkF m 24 #[.val (.int p0), .val (.int p1), .val (.ref (own_pick p0 w0 w1 w2 w3)), .val (.ref (own_pick p1 w0 w1 w2 w3)), .val (.ref (own_pick ((p0 &&& (3 : Int32)) ||| (p1 &&& (3 : Int32))) w0 w1 w2 w3)), .unset] [(.ref (own_pick p1 w0 w1 w2 w3)), (.ref (own_pick p0 w0 w1 w2 w3))])) rfl (by rw [hml]; rfl) (Steps.refl _) (argsL := [(.ref (own_pick p1 w0 w1 w2 w3))]) (rest := []) (lenOf own_pd1 rfl) rfl (by show 2 * 0 + _ ≤ _; exact Nat.le_of_eq rfl) (hb hby at_24) (fun _ _ => ⟨rfl, e3, (by decide : 0 + 0 ≤ _), (by decide : 0 + 0 ≤ _)⟩)
  dsimp only [Pt.U, Pt.locs, Pt.cells, Pt.slots] at X4 lq4 yq4 zq4 st4 hQ4
  subst lq4 yq4 zq4
  obtain ⟨rfl, N4q, e4⟩ := hQ4
  have N4 := Fr.app N3 N4q
  refine own_by (V := T4.setTop (mkF m 27 #[.val (.int p0), .val (.int p1), .val (.ref (own_pick p0 w0 w1 w2 w3)), .val (.ref (own_pick p1 w0 w1 w2 w3)), .val (.ref (own_pick ((p0 &&& (3 : Int32)) ||| (p1 &&& (3 : Int32))) w0 w1 w2 w3)), .unset] [(.ref (own_union (own_pick p0 w0 w1 w2 w3) (own_pick p1 w0 w1 w2 w3) w0 w3))])) (fun t k => st4.trans k) ?_
  refine own_by (V := T4.setTop (mkF m 29 #[.val (.int p0), .val (.int p1), .val (.ref (own_pick p0 w0 w1 w2 w3)), .val (.ref (own_pick p1 w0 w1 w2 w3)), .val (.ref (own_pick ((p0 &&& (3 : Int32)) ||| (p1 &&& (3 : Int32))) w0 w1 w2 w3)), .val (.ref (own_union (own_pick p0 w0 w1 w2 w3) (own_pick p1 w0 w1 w2 w3) w0 w3))] [])) (fun t k => XS.astore X4.here hx rfl (hb hby at_27) rfl rfl (l' := #[.val (.int p0), .val (.int p1), .val (.ref (own_pick p0 w0 w1 w2 w3)), .val (.ref (own_pick p1 w0 w1 w2 w3)), .val (.ref (own_pick ((p0 &&& (3 : Int32)) ||| (p1 &&& (3 : Int32))) w0 w1 w2 w3)), .val (.ref (own_union (own_pick p0 w0 w1 w2 w3) (own_pick p1 w0 w1 w2 w3) w0 w3))]) rfl k) ?_
  refine own_by (V := T4.setTop (mkF m 31 #[.val (.int p0), .val (.int p1), .val (.ref (own_pick p0 w0 w1 w2 w3)), .val (.ref (own_pick p1 w0 w1 w2 w3)), .val (.ref (own_pick ((p0 &&& (3 : Int32)) ||| (p1 &&& (3 : Int32))) w0 w1 w2 w3)), .val (.ref (own_union (own_pick p0 w0 w1 w2 w3) (own_pick p1 w0 w1 w2 w3) w0 w3))] [(.ref (own_union (own_pick p0 w0 w1 w2 w3) (own_pick p1 w0 w1 w2 w3) w0 w3))])) (fun t k => XS.aload X4.here hx rfl (hb hby at_29) rfl rfl k) ?_
  refine own_by (V := T4.setTop (mkF m 33 #[.val (.int p0), .val (.int p1), .val (.ref (own_pick p0 w0 w1 w2 w3)), .val (.ref (own_pick p1 w0 w1 w2 w3)), .val (.ref (own_pick ((p0 &&& (3 : Int32)) ||| (p1 &&& (3 : Int32))) w0 w1 w2 w3)), .val (.ref (own_union (own_pick p0 w0 w1 w2 w3) (own_pick p1 w0 w1 w2 w3) w0 w3))] [(.ref (own_pick ((p0 &&& (3 : Int32)) ||| (p1 &&& (3 : Int32))) w0 w1 w2 w3)), (.ref (own_union (own_pick p0 w0 w1 w2 w3) (own_pick p1 w0 w1 w2 w3) w0 w3))])) (fun t k => XS.aload X4.here hx rfl (hb hby at_31) rfl rfl k) ?_
  have ha33_6 : ((own_union (own_pick p0 w0 w1 w2 w3) (own_pick p1 w0 w1 w2 w3) w0 w3) = (own_pick ((p0 &&& (3 : Int32)) ||| (p1 &&& (3 : Int32))) w0 w1 w2 w3)) := own_law p0 p1 w0 w1 w2 w3 h01 h02 h03 h12 h13 h23
  refine own_by (V := T4.setTop (mkF m 36 #[.val (.int p0), .val (.int p1), .val (.ref (own_pick p0 w0 w1 w2 w3)), .val (.ref (own_pick p1 w0 w1 w2 w3)), .val (.ref (own_pick ((p0 &&& (3 : Int32)) ||| (p1 &&& (3 : Int32))) w0 w1 w2 w3)), .val (.ref (own_union (own_pick p0 w0 w1 w2 w3) (own_pick p1 w0 w1 w2 w3) w0 w3))] [])) (fun t k => Jvm.RoadKit.acmp (g := (mkF m 33 #[.val (.int p0), .val (.int p1), .val (.ref (own_pick p0 w0 w1 w2 w3)), .val (.ref (own_pick p1 w0 w1 w2 w3)), .val (.ref (own_pick ((p0 &&& (3 : Int32)) ||| (p1 &&& (3 : Int32))) w0 w1 w2 w3)), .val (.ref (own_union (own_pick p0 w0 w1 w2 w3) (own_pick p1 w0 w1 w2 w3) w0 w3))] [(.ref (own_pick ((p0 &&& (3 : Int32)) ||| (p1 &&& (3 : Int32))) w0 w1 w2 w3)), (.ref (own_union (own_pick p0 w0 w1 w2 w3) (own_pick p1 w0 w1 w2 w3) w0 w3))])) X4 hx rfl rfl rfl (pc0 := 33) (pc' := 36) (same := true) rfl (hb hby at_33) rfl (decide_eq_true (congrArg Value.ref ha33_6)) (by decide) (by decide) k) ?_
  refine own_by (V := T4.setTop (mkF m 37 #[.val (.int p0), .val (.int p1), .val (.ref (own_pick p0 w0 w1 w2 w3)), .val (.ref (own_pick p1 w0 w1 w2 w3)), .val (.ref (own_pick ((p0 &&& (3 : Int32)) ||| (p1 &&& (3 : Int32))) w0 w1 w2 w3)), .val (.ref (own_union (own_pick p0 w0 w1 w2 w3) (own_pick p1 w0 w1 w2 w3) w0 w3))] [(.int (1 : Int32))])) (fun t k => XS.iconst X4.here hx rfl (hb hby at_36) k) ?_
  refine own_by (V := T4.setTop (mkF m 41 #[.val (.int p0), .val (.int p1), .val (.ref (own_pick p0 w0 w1 w2 w3)), .val (.ref (own_pick p1 w0 w1 w2 w3)), .val (.ref (own_pick ((p0 &&& (3 : Int32)) ||| (p1 &&& (3 : Int32))) w0 w1 w2 w3)), .val (.ref (own_union (own_pick p0 w0 w1 w2 w3) (own_pick p1 w0 w1 w2 w3) w0 w3))] [(.int (1 : Int32))])) (fun t k => XS.goto X4.here hx rfl (pc0 := 37) (pc' := 41) rfl (hb hby at_37) (by decide) (by decide) k) ?_
  refine own_retN X4 hx hlk e4 Bd.returns (t := .boolean) (by simp) rfl (hb hby at_41) ?_ (by decide) (by decide)
  exact ⟨rfl, N4⟩
set_option maxRecDepth 65536 in
set_option maxHeartbeats 40000000 in
theorem own_comes {Post : Tables → Env → Array Value → State → Outcome → State → Prop} (hpost : ∀ tb e args s v u, (limb_1_1.after args s (.returned v) u = true ∧ limb_1_2.after args s (.returned v) u = true ∧ True) → FrameEnd s (.returned v) u (Jvm.fieldLocs frame_1_writes args s ++ Jvm.arrayLocs frame_1_arrays args s ++ Jvm.staticLocs frame_1_statics s) 0 0 → Post tb e args s (.returned v) u) :
    ArmFor flags0 classFile x code maxLocals ret World_1 tables_1 room_1 Calls_1 rest_1 Pre_1 Post := by
  intro l hfl _ _ p e ha hc hk s m args below hf hA hF happ hP
  obtain ⟨hcalls, hrest, hpre⟩ := hP
  obtain ⟨-, -, -, hnamed, -, -, -, hat⟩ := (Spec.applies_iff hf).mp happ
  obtain ⟨hg, hn⟩ := and_e (Cond.before_iff.mp (show (Jvm.Cond.and given_1 narrow_1).before args s = true from hpre))
  obtain ⟨hc0, hr0⟩ := and_e hg
  obtain ⟨hv0, hr1⟩ := and_e hr0
  have hv1 := hr1
  obtain ⟨w0, w1, rfl⟩ : ∃ w0 w1 : Value, args = #[w0, w1] := by
    have hs : args.size = 2 := by simpa [Cond.value, given_1] using hc0
    obtain ⟨L⟩ := args
    match L, hs with
    | [w0, w1], _ => exact ⟨w0, w1, rfl⟩
  have hw := fun d (hd : d ∈ tables_1) => atoms_spec (ws := Jvm.Cond.code x code maxLocals ret :: tables_1) hat d (List.mem_cons_of_mem _ hd)
  have hfit : Fit s := fun {y c} hc i hi => by
    obtain ⟨ha, rfl⟩ := Array.getElem?_eq_some_iff.mp hc
    have q := List.all_eq_true.mp ((Array.all_eq_true_iff_forall_mem.mp hF) _ (Array.getElem_mem ha)) i (List.mem_range.mpr hi)
    simpa [Array.getElem?_eq_getElem hi] using q
  obtain ⟨i0, ei0⟩ := is_v hv0
  obtain rfl : w0 = (.int i0) := Option.some.inj ei0
  obtain ⟨i1, ei1⟩ := is_v hv1
  obtain rfl : w1 = (.int i1) := Option.some.inj ei1
  obtain ⟨hx0, hn1⟩ := and_e hn
  obtain ⟨hx3, hn2⟩ := and_e hn1
  obtain ⟨hx2, hn3⟩ := and_e hn2
  obtain ⟨hx1, hn4⟩ := and_e hn3
  obtain ⟨ho2, hn5⟩ := and_e hn4
  obtain ⟨ho0, hn6⟩ := and_e hn5
  obtain ⟨ho1, ho3⟩ := and_e hn6
  obtain ⟨v0, ev0⟩ := exa_v hx0
  have S0 := Sta.start ev0 (Or.inr ⟨(hw _ (List.mem_of_getElem? (i := 5) rfl)), (hw _ (List.mem_of_getElem? (i := 6) rfl))⟩)
  have E0 := Exa.start ev0 hx0
  have O0 := own_fldS ev0 ho0
  obtain ⟨v1, ev1⟩ := exa_v hx1
  have S1 := Sta.start ev1 (Or.inr ⟨(hw _ (List.mem_of_getElem? (i := 5) rfl)), (hw _ (List.mem_of_getElem? (i := 18) rfl))⟩)
  have E1 := Exa.start ev1 hx1
  have O1 := own_fldS ev1 ho1
  obtain ⟨v2, ev2⟩ := exa_v hx2
  have S2 := Sta.start ev2 (Or.inr ⟨(hw _ (List.mem_of_getElem? (i := 5) rfl)), (hw _ (List.mem_of_getElem? (i := 16) rfl))⟩)
  have E2 := Exa.start ev2 hx2
  have O2 := own_fldS ev2 ho2
  obtain ⟨v3, ev3⟩ := exa_v hx3
  have S3 := Sta.start ev3 (Or.inr ⟨(hw _ (List.mem_of_getElem? (i := 5) rfl)), (hw _ (List.mem_of_getElem? (i := 8) rfl))⟩)
  have E3 := Exa.start ev3 hx3
  have O3 := own_fldS ev3 ho3
  obtain ⟨n, o, h1, h2, h3, _, L, rfl, ⟨rfl, N⟩, hq⟩ := own_rm0 l s _ hw tables_1 i0 i1 v0 v1 v2 v3 s.heap s.heap.size S0 S1 S2 S3 E0 E1 E2 E3 (Fld.ne O0 O1 (by decide)) (Fld.ne O0 O2 (by decide)) (Fld.ne O0 O3 (by decide)) (Fld.ne O1 O2 (by decide)) (Fld.ne O1 O3 (by decide)) (Fld.ne O2 O3 (by decide)) p e ha hc hk s m _ below hf ((Spec.applies_iff_loose hf).mp happ).1 ⟨rfl, State.Warmed39.refl s, rfl⟩ trivial
  refine ⟨n, _, h1, h2, h3, hpost _ _ _ _ _ _ ⟨Cond.after_iff.mpr rfl, Cond.after_iff.mpr (eq_i res_at (Term.int_eval (1)) rfl), trivial⟩ ⟨hq.1, hq.2.1, (hq.2.2.sift fun y hy => Or.inr (N y hy)).mono (by decide) (by decide)⟩⟩
theorem main_1_1 : Claimed_1_1 := own_comes fun _ _ _ _ _ _ h hF => ⟨h.1, hF⟩
theorem main_1_2 : Claimed_1_2 := own_comes fun _ _ _ _ _ _ h hF => ⟨h.2.1, hF⟩

end Jvm.Pilot.@@N@@
namespace Jvm.Pilot.@@N@@
open Jvm Jvm.ClassFile Sem Op Lib Jvm.Free Jvm.Stand Jvm.Pilot.@@N@@.Jvm.D
/-! MADE BY PROGRAM (witnessworld.py) out of the Statement's table words and the real class files: 12 classes; the members and pool entries that the words name. The judged class is class 1, her method 2. -/
namespace start1
open Jvm.ClassFile
def u (s : String) : CpInfo := .utf8 (stringToUtf16 s)
/-- a pool by its gaps: so many unusable entries, then the entry; so many at the end -/
def gap : Nat → List CpInfo → List CpInfo
  | 0, r => r
  | n + 1, r => .unusable :: gap n r
def poolList (es : List (Nat × CpInfo)) (last : Nat) : List CpInfo := es.foldr (fun e r => gap e.1 (e.2 :: r)) (gap last [])
def pool (es : List (Nat × CpInfo)) (last : Nat) : Array CpInfo := ⟨poolList es last⟩
def fileOf (pool : Array CpInfo) (this : Nat) (attrs : Array Attribute := #[]) (ms : Array MethodInfo := #[]) (fl : Nat := 33) (sup : Nat := 0) (ifs : Array Nat := #[]) (fds : Array FieldInfo := #[]) : ClassFile where
  minorVersion := 0
  majorVersion := 65
  constantPool := pool
  accessFlags := fl
  thisClass := this
  superClass := sup
  interfaces := ifs
  fields := fds
  methods := ms
  attributes := attrs
def plain (name : String) (sup : Option ClassId) : Class where
  name := name
  kind := .ordinary
  loader := none
  accessFlags := 33
  super := sup
  interfaces := #[]
  cf := none
  fields := #[]
  methods := #[]
  instanceTypes := #[]
  staticTypes := #[]
  resolved := #[]
  callSites := []
  init := .initialized
  statics := none
  mirror := none

def pool0 : Array CpInfo := pool [(5, u "<init>"), (0, u "()V"), (1, .class_ 10), (1, u "java/lang/Object")] 113

def k0m0 : Method := { name := "<init>", desc := "()V", sig := { parameters := [], returnType := none }, accessFlags := 1, code := none }
/-- java/lang/Object -/
def k0 : Class := { plain "java/lang/Object" none with
  accessFlags := 33
  interfaces := #[]
  cf := some (fileOf pool0 8 #[] #[{ accessFlags := 1, nameIndex := 5, descriptorIndex := 6, attributes := #[] }] 33 0 #[] #[])
  fields := #[]
  methods := #[k0m0]
  instanceTypes := #[]
  staticTypes := #[]
  resolved := Array.replicate 124 none
  statics := none }

def pool1 : Array CpInfo := pool [(2, .class_ 4), (1, u "java/lang/Object"), (0, u "<init>"), (0, u "()V"), (0, .fieldref 8 9), (0, .class_ 10), (0, .nameAndType 11 12), (0, u "com/example/canox/canox/subset/FromEachNamespace"), (0, u "SAME_WITHOUT_THEM"), (0, u "Lcom/example/canox/canox/subset/FromEachNamespace;"), (0, .fieldref 8 14), (0, .nameAndType 15 12), (0, u "SAME"), (0, .fieldref 8 17), (0, .nameAndType 18 12), (0, u "SAME_BUT_ITSELF"), (0, .fieldref 8 20), (0, .nameAndType 21 12), (0, u "APART"), (0, .methodref 23 24), (0, .class_ 25), (0, .nameAndType 26 27), (0, u "com/example/canox/canox/subset/FromEachNamespaceUnionPinLaw"), (0, u "pick"), (0, u "(I)Lcom/example/canox/canox/subset/FromEachNamespace;"), (0, .methodref 8 29), (0, .nameAndType 30 31), (0, u "union"), (0, u "(Lcom/example/canox/canox/subset/FromEachNamespace;)Lcom/example/canox/canox/subset/FromEachNamespace;"), (3, u "law"), (0, u "(II)Z")] 2

def k1m0 : Method := { name := "<init>", desc := "()V", sig := { parameters := [], returnType := none }, accessFlags := 2, code := none }
def k1c1 : Code := { maxStack := 2, maxLocals := 2, code := method_2_code, exceptionTable := #[], attributes := #[] }
def k1m1 : Method := { name := "pick", desc := "(I)Lcom/example/canox/canox/subset/FromEachNamespace;", sig := { parameters := [.int], returnType := some (.object "com/example/canox/canox/subset/FromEachNamespace") }, accessFlags := 10, code := some k1c1 }
def k1c2 : Code := { maxStack := 3, maxLocals := 6, code := code, exceptionTable := #[], attributes := #[] }
def k1m2 : Method := { name := "law", desc := "(II)Z", sig := { parameters := [.int, .int], returnType := some .boolean }, accessFlags := 9, code := some k1c2 }
/-- com/example/canox/canox/subset/FromEachNamespaceUnionPinLaw -/
def k1 : Class := { plain "com/example/canox/canox/subset/FromEachNamespaceUnionPinLaw" (some 0) with
  accessFlags := 49
  interfaces := #[]
  cf := some (fileOf pool1 23 #[] #[{ accessFlags := 2, nameIndex := 5, descriptorIndex := 6, attributes := #[] }, { accessFlags := 10, nameIndex := 26, descriptorIndex := 27, attributes := #[] }, { accessFlags := 9, nameIndex := 35, descriptorIndex := 36, attributes := #[] }] 49 2 #[] #[])
  fields := #[]
  methods := #[k1m0, k1m1, k1m2]
  instanceTypes := #[]
  staticTypes := #[]
  resolved := Array.replicate 39 none
  statics := none }

def pool2 : Array CpInfo := pool [(1, .class_ 2), (0, u "java/lang/constant/Constable"), (0, .class_ 4), (0, u "java/lang/Object")] 6

/-- java/lang/constant/Constable -/
def k2 : Class := { plain "java/lang/constant/Constable" (some 0) with
  accessFlags := 1537
  interfaces := #[]
  cf := some (fileOf pool2 1 #[] #[] 1537 3 #[] #[])
  fields := #[]
  methods := #[]
  instanceTypes := #[]
  staticTypes := #[]
  resolved := Array.replicate 11 none
  statics := none }

def pool3 : Array CpInfo := pool [(1, .class_ 2), (0, u "java/lang/Comparable"), (0, .class_ 4), (0, u "java/lang/Object")] 7

/-- java/lang/Comparable -/
def k3 : Class := { plain "java/lang/Comparable" (some 0) with
  accessFlags := 1537
  interfaces := #[]
  cf := some (fileOf pool3 1 #[] #[] 1537 3 #[] #[])
  fields := #[]
  methods := #[]
  instanceTypes := #[]
  staticTypes := #[]
  resolved := Array.replicate 12 none
  statics := none }

def pool4 : Array CpInfo := pool [(1, .class_ 2), (0, u "java/io/Serializable"), (0, .class_ 4), (0, u "java/lang/Object")] 2

/-- java/io/Serializable -/
def k4 : Class := { plain "java/io/Serializable" (some 0) with
  accessFlags := 1537
  interfaces := #[]
  cf := some (fileOf pool4 1 #[] #[] 1537 3 #[] #[])
  fields := #[]
  methods := #[]
  instanceTypes := #[]
  staticTypes := #[]
  resolved := Array.replicate 7 none
  statics := none }

def pool5 : Array CpInfo := pool [(2, .class_ 4), (1, u "java/lang/Enum"), (0, u "name"), (0, u "Ljava/lang/String;"), (2, u "ordinal"), (0, u "I"), (1, .class_ 14), (1, u "java/lang/Object"), (4, u "hash"), (86, .class_ 108), (1, u "java/lang/Enum$EnumDesc"), (2, .class_ 112), (0, u "java/lang/constant/Constable"), (0, .class_ 114), (0, u "java/lang/Comparable"), (0, .class_ 116), (0, u "java/io/Serializable")] 87

/-- java/lang/Enum -/
def k5 : Class := { plain "java/lang/Enum" (some 0) with
  accessFlags := 1057
  interfaces := #[2, 3, 4]
  cf := some (fileOf pool5 2 #[.nestMembers #[106]] #[] 1057 12 #[111, 113, 115] #[{ accessFlags := 18, nameIndex := 5, descriptorIndex := 6, attributes := #[] }, { accessFlags := 18, nameIndex := 9, descriptorIndex := 10, attributes := #[] }, { accessFlags := 2, nameIndex := 19, descriptorIndex := 10, attributes := #[] }])
  fields := #[{ name := "name", type := (.object "java/lang/String"), accessFlags := 18, slot := 0, constantValue := 0 }, { name := "ordinal", type := .int, accessFlags := 18, slot := 1, constantValue := 0 }, { name := "hash", type := .int, accessFlags := 2, slot := 2, constantValue := 0 }]
  methods := #[]
  instanceTypes := #[(.object "java/lang/String"), .int, .int]
  staticTypes := #[]
  resolved := Array.replicate 204 none
  statics := none }

def pool6 : Array CpInfo := pool [(1, .class_ 2), (0, u "com/example/canox/canox/subset/FromEachNamespace"), (0, .fieldref 1 4), (0, .nameAndType 5 6), (0, u "SAME_WITHOUT_THEM"), (0, u "Lcom/example/canox/canox/subset/FromEachNamespace;"), (2, u "SAME"), (2, u "SAME_BUT_ITSELF"), (0, .fieldref 1 14), (0, .nameAndType 15 6), (0, u "APART"), (2, u "$VALUES"), (0, u "[Lcom/example/canox/canox/subset/FromEachNamespace;"), (6, .class_ 28), (1, u "java/lang/Enum"), (26, u "union"), (0, u "(Lcom/example/canox/canox/subset/FromEachNamespace;)Lcom/example/canox/canox/subset/FromEachNamespace;")] 4

def k6c0 : Code := { maxStack := 2, maxLocals := 3, code := prog_127_method_6_code, exceptionTable := #[], attributes := #[] }
def k6m0 : Method := { name := "union", desc := "(Lcom/example/canox/canox/subset/FromEachNamespace;)Lcom/example/canox/canox/subset/FromEachNamespace;", sig := { parameters := [(.object "com/example/canox/canox/subset/FromEachNamespace")], returnType := some (.object "com/example/canox/canox/subset/FromEachNamespace") }, accessFlags := 0, code := some k6c0 }
/-- com/example/canox/canox/subset/FromEachNamespace -/
def k6 : Class := { plain "com/example/canox/canox/subset/FromEachNamespace" (some 5) with
  accessFlags := 16432
  interfaces := #[]
  cf := some (fileOf pool6 1 #[] #[{ accessFlags := 0, nameIndex := 55, descriptorIndex := 56, attributes := #[] }] 16432 26 #[] #[{ accessFlags := 16409, nameIndex := 5, descriptorIndex := 6, attributes := #[] }, { accessFlags := 16409, nameIndex := 9, descriptorIndex := 6, attributes := #[] }, { accessFlags := 16409, nameIndex := 12, descriptorIndex := 6, attributes := #[] }, { accessFlags := 16409, nameIndex := 15, descriptorIndex := 6, attributes := #[] }, { accessFlags := 4122, nameIndex := 18, descriptorIndex := 19, attributes := #[] }])
  fields := #[{ name := "SAME_WITHOUT_THEM", type := (.object "com/example/canox/canox/subset/FromEachNamespace"), accessFlags := 16409, slot := 0, constantValue := 0 }, { name := "SAME", type := (.object "com/example/canox/canox/subset/FromEachNamespace"), accessFlags := 16409, slot := 1, constantValue := 0 }, { name := "SAME_BUT_ITSELF", type := (.object "com/example/canox/canox/subset/FromEachNamespace"), accessFlags := 16409, slot := 2, constantValue := 0 }, { name := "APART", type := (.object "com/example/canox/canox/subset/FromEachNamespace"), accessFlags := 16409, slot := 3, constantValue := 0 }, { name := "$VALUES", type := (.array (.object "com/example/canox/canox/subset/FromEachNamespace")), accessFlags := 4122, slot := 4, constantValue := 0 }]
  methods := #[k6m0]
  instanceTypes := #[(.object "java/lang/String"), .int, .int]
  staticTypes := #[(.object "com/example/canox/canox/subset/FromEachNamespace"), (.object "com/example/canox/canox/subset/FromEachNamespace"), (.object "com/example/canox/canox/subset/FromEachNamespace"), (.object "com/example/canox/canox/subset/FromEachNamespace"), (.array (.object "com/example/canox/canox/subset/FromEachNamespace"))]
  resolved := Array.replicate 61 none
  statics := some 0 }

def pool7 : Array CpInfo := pool [(1, u "java/lang/Cloneable"), (0, .class_ 1), (0, u "java/lang/Object"), (0, .class_ 3)] 3

/-- java/lang/Cloneable -/
def k7 : Class := { plain "java/lang/Cloneable" (some 0) with
  accessFlags := 1537
  interfaces := #[]
  cf := some (fileOf pool7 2 #[] #[] 1537 4 #[] #[])
  fields := #[]
  methods := #[]
  instanceTypes := #[]
  staticTypes := #[]
  resolved := Array.replicate 8 none
  statics := none }

/-- the primitive byte -/
def k8 : Class := { plain "byte" none with kind := .primitive 'B', accessFlags := 0x411 }
/-- [B -/
def k9 : Class := { plain "[B" (some 0) with kind := .array 8 .byte, interfaces := #[7, 4], accessFlags := 1041 }

/-- the primitive int -/
def k10 : Class := { plain "int" none with kind := .primitive 'I', accessFlags := 0x411 }
/-- [I -/
def k11 : Class := { plain "[I" (some 0) with kind := .array 10 .int, interfaces := #[7, 4], accessFlags := 1041 }

def heap : Heap := #[{ cls := 6, slots := #[.ref 1, .ref 2, .ref 3, .ref 4, .null], vm := .statics 6 },
  { cls := 6, slots := #[.null, .int 0, .int 0], vm := .none },
  { cls := 6, slots := #[.null, .int 1, .int 0], vm := .none },
  { cls := 6, slots := #[.null, .int 2, .int 0], vm := .none },
  { cls := 6, slots := #[.null, .int 3, .int 0], vm := .none }]
def classes : Array Class := #[k0, k1, k2, k3, k4, k5, k6, k7, k8, k9, k10, k11]
def interned : List (Array UInt16 × Addr) := []
def slotsUsed : Nat := 17
def theMethod : MethodId := ⟨1, 2⟩
def args0 : Array Value := #[.int 5, .int 7]
def aboutOver (below : List Frame) : State where
  vm := { classes := classes, interned := interned.toArray }
  heap := heap
  slotsUsed := slotsUsed
  threads := #[{ frames := .invoking theMethod args0 :: below }]
def below0 : List Frame := [.native { method := ⟨0, 0⟩, args := #[] }]
def about1 : State := aboutOver below0
def p0 : Program := .bare "" "" ""
def e0 : Env := launch0.env 0 0 0
theorem w_frames : about1.frames = Frame.invoking theMethod args0 :: below0 := rfl
set_option maxRecDepth 65536 in
theorem w_args : argsFit about1.vm theMethod args0 = true := by decide +kernel
set_option maxRecDepth 65536 in
theorem w_heap : heapFits about1 = true := by decide +kernel
set_option maxRecDepth 65536 in
theorem w_runnable : about1.curStatus? = some .runnable := by decide +kernel
set_option maxRecDepth 65536 in
theorem w_alone : about1.alone = true := by decide +kernel
set_option maxRecDepth 65536 in
theorem w_named : about1.methodNamed? x = some theMethod := by decide +kernel
set_option maxRecDepth 65536 in
theorem w_hears : about1.hears theMethod below0 = true := by decide +kernel
set_option maxRecDepth 65536 in
theorem w_ripe : about1.ripe theMethod args0 below0 = true := by decide +kernel
theorem w_running : about1.status = .running := rfl
set_option maxRecDepth 65536 in
theorem w_room : about1.hasRoom e0.platform room_1 = true :=
  launch0.hasRoom_least _ room_1 (by decide +kernel) (by decide +kernel) (by decide +kernel) (by decide +kernel) (by decide +kernel) (by decide +kernel)
theorem allAtoms_all (ts : List Jvm.Cond) (a : Array Jvm.Value) (st : Jvm.State) : (allAtoms ts).before a st = ts.all (fun c => c.before a st) := by
  induction ts with
  | nil => rfl
  | cons c t ih =>
    show (Jvm.Cond.and c (allAtoms t)).before a st = _
    rw [Jvm.Cond.before_and, ih, List.all_cons]
def words1 : List Jvm.Cond := Jvm.Cond.code x code maxLocals ret :: tables_1
/-- a 'code' word, met by the world's own term for the bytes: nothing is compared byte by byte -/
theorem code_word {y : MethodName} {bytes : ByteArray} {mx : Nat} {rt : Option FieldType} {a : Array Value} {s : State} {m : MethodId} {meth : Method} {c : Code} (h1 : s.methodNamed? y = some m) (h2 : s.vm.method? m = some meth) (h3 : meth.code = some c) (h4 : c.code = bytes)
    (h5 : (c.maxLocals == mx && c.exceptionTable.isEmpty && decide (c.maxStack ≤ mostOperands) && decide (meth.sig.returnType = rt) && !meth.locks && decide (parseMethodDescriptor y.desc = some meth.sig)) = true) : (Jvm.Cond.code y bytes mx rt).before a s = true := by
  simp only [Bool.and_eq_true, beq_iff_eq, Bool.not_eq_true', decide_eq_true_eq] at h5
  obtain ⟨⟨⟨⟨⟨g1, g2⟩, g3⟩, g4⟩, g5⟩, g6⟩ := h5
  simp [Cond.before, Cond.holds, Cond.value, h1, h2, h3, h4, g1, g2, g3, g4, g5, g6]
def isCode : Jvm.Cond → Bool
  | .code _ _ _ _ => true
  | _ => false
theorem all_split {L : List Jvm.Cond} {P : Jvm.Cond → Bool} (h1 : L.all (fun c => isCode c || P c) = true) (h2 : ∀ c ∈ L.filter isCode, P c = true) : L.all P = true := by
  refine List.all_eq_true.mpr fun c hc => ?_
  have h := List.all_eq_true.mp h1 c hc
  rcases Bool.eq_false_or_eq_true (isCode c) with hi | hi
  · exact h2 c (List.mem_filter.mpr ⟨hc, hi⟩)
  · simpa [hi] using h
set_option maxRecDepth 65536 in
theorem w_c0 : (Jvm.Cond.code x code maxLocals ret).before args0 about1 = true := code_word (m := ⟨1, 2⟩) (meth := k1m2) (c := k1c2) (by decide +kernel) rfl rfl rfl (by decide +kernel)
set_option maxRecDepth 65536 in
theorem w_c1 : (Jvm.Cond.code ({ cls := "com/example/canox/canox/subset/FromEachNamespaceUnionPinLaw", name := "pick", desc := "(I)Lcom/example/canox/canox/subset/FromEachNamespace;" } : Jvm.MethodName) method_2_code (2 : Nat) (Option.some (Jvm.ClassFile.FieldType.object "com/example/canox/canox/subset/FromEachNamespace"))).before args0 about1 = true := code_word (m := ⟨1, 1⟩) (meth := k1m1) (c := k1c1) (by decide +kernel) rfl rfl rfl (by decide +kernel)
set_option maxRecDepth 65536 in
theorem w_c2 : (Jvm.Cond.code ({ cls := "com/example/canox/canox/subset/FromEachNamespace", name := "union", desc := "(Lcom/example/canox/canox/subset/FromEachNamespace;)Lcom/example/canox/canox/subset/FromEachNamespace;" } : Jvm.MethodName) prog_127_method_6_code (3 : Nat) (Option.some (Jvm.ClassFile.FieldType.object "com/example/canox/canox/subset/FromEachNamespace"))).before args0 about1 = true := code_word (m := ⟨6, 0⟩) (meth := k6m0) (c := k6c0) (by decide +kernel) rfl rfl rfl (by decide +kernel)
def codes1 : List Jvm.Cond := [Jvm.Cond.code x code maxLocals ret, Jvm.Cond.code ({ cls := "com/example/canox/canox/subset/FromEachNamespaceUnionPinLaw", name := "pick", desc := "(I)Lcom/example/canox/canox/subset/FromEachNamespace;" } : Jvm.MethodName) method_2_code (2 : Nat) (Option.some (Jvm.ClassFile.FieldType.object "com/example/canox/canox/subset/FromEachNamespace")), Jvm.Cond.code ({ cls := "com/example/canox/canox/subset/FromEachNamespace", name := "union", desc := "(Lcom/example/canox/canox/subset/FromEachNamespace;)Lcom/example/canox/canox/subset/FromEachNamespace;" } : Jvm.MethodName) prog_127_method_6_code (3 : Nat) (Option.some (Jvm.ClassFile.FieldType.object "com/example/canox/canox/subset/FromEachNamespace"))]
set_option maxRecDepth 65536 in
theorem codes_eq : words1.filter isCode = codes1 := rfl
theorem w_codes : ∀ c ∈ words1.filter isCode, c.before args0 about1 = true := by
  rw [codes_eq]
  intro c hc
  simp only [codes1, List.mem_cons, List.not_mem_nil, or_false] at hc
  rcases hc with rfl | rfl | rfl
  · exact w_c0
  · exact w_c1
  · exact w_c2
set_option maxRecDepth 65536 in
theorem w_t1 : words1.all (fun c => isCode c || c.before args0 about1) = true := by decide +kernel
theorem w_tables : (allAtoms (Jvm.Cond.code x code maxLocals ret :: tables_1)).before args0 about1 = true := by
  rw [allAtoms_all]
  show words1.all (fun c => c.before args0 about1) = true
  refine all_split ?_ w_codes
  rw [w_t1]
set_option maxRecDepth 65536 in
theorem w_case : (Jvm.Cond.and given_1 narrow_1).before args0 about1 = true := by decide +kernel
theorem w_applies : (headSpec (Jvm.Cond.code x code maxLocals ret :: tables_1) room_1).applies x e0.platform about1 = true :=
  (Spec.applies_iff w_frames).mpr ⟨w_running, w_runnable, w_alone, w_named, w_hears, w_ripe, w_room, w_tables⟩
theorem atStart : AtStart classFile x code maxLocals ret World_1 tables_1 room_1 Calls_1 rest_1 Pre_1 launch0 p0 e0 about1 theMethod args0 below0 :=
  ⟨lists_1, trivial, launch0.admits_env _ _ _, launch0.least_env, fairChoices_fair.cas, fairChoices_fair.clock, w_frames, w_args, w_heap, w_applies, trivial, trivial, w_case⟩
end start1
theorem witness_1 : WitnessClaimed_1 := ⟨start1.p0, start1.e0, start1.about1, start1.theMethod, start1.args0, start1.below0, start1.atStart⟩
end Jvm.Pilot.@@N@@
