import JvmDerived
import JvmDerived.Pilot.@@N@@Statement
import JvmDerived.Pilot.@@N@@Code
set_option linter.unusedVariables false
set_option linter.unusedSimpArgs false
namespace Jvm.Pilot.@@N@@
open Jvm Jvm.ClassFile Sem Op Lib Jvm.Free Jvm.Stand Jvm.LawKit Jvm.RoadKit Bundle Jvm.Pilot.@@N@@.Jvm.D
section OwnKit
variable {p : Program} {l : Launch} {e : Env} {R : Room} {s : State} {m : MethodId} {args : Array Value} {below : List Frame} {meth : Method} {c : Code} {T U W : State} {locs : List Loc} {cells slots : Nat} {Q : Option Value → Heap → List Loc → Prop} {K N : Nat}
/-- from U the body comes to its end, and Q holds there -/
def own_Ends (p : Program) (e : Env) (below : List Frame) (s : State) (Q : Option Value → Heap → List Loc → Prop) (K N : Nat) (U : State) : Prop :=
  ∃ s₂ o, Steps p.tables e below U s₂ ∧ s₂.status = .running ∧ Ended s₂ below o ∧ ∃ v L, o = .returned v ∧ Q v s₂.heap L ∧ FrameEnd s o s₂ L K N
theorem own_by {V : State} (h : ∀ t, Steps p.tables e below V t → Steps p.tables e below U t) (k : own_Ends p e below s Q K N V) : own_Ends p e below s Q K N U := by
  obtain ⟨s2, o, h1, h2⟩ := k; exact ⟨s2, o, h _ h1, h2⟩
theorem own_ret0 (X : Stand p l e R s m args below meth c T locs cells slots) (hx : p.tables.exec = Jvm.exec) (hlk : meth.locks = false) {h : Heap} (eT : T.heap = h) {pc : Nat} {Ls : Array Slot} (hret : meth.sig.returnType = none)
    (hd : decode c.code pc = .ok (.return_, 1)) (hQ : Q none h locs) (hK : cells ≤ K) (hN : slots ≤ N) : own_Ends p e below s Q K N (T.setTop (mkF m pc Ls [])) := by
  obtain ⟨fs, hr, hrun, hended, hW, hsame⟩ := X.leave (v := none) (fun _ => rfl) hlk
  exact ⟨_, _, X.returnOut hx hret hd hr, hrun, hended, _, _, rfl, (by subst eT; exact hQ), ⟨_, rfl⟩, hW, hsame.mono hK hN⟩
theorem own_retI (X : Stand p l e R s m args below meth c T locs cells slots) (hx : p.tables.exec = Jvm.exec) (hlk : meth.locks = false) {h : Heap} (eT : T.heap = h) {pc : Nat} {Ls : Array Slot} {z : Int32} {rest : List Value} (hret : meth.sig.returnType = some .int)
    (hd : decode c.code pc = .ok (.ireturn, 1)) (hQ : Q (some (.int z)) h locs) (hK : cells ≤ K) (hN : slots ≤ N) : own_Ends p e below s Q K N (T.setTop (mkF m pc Ls (.int z :: rest))) := by
  obtain ⟨fs, hr, hrun, hended, hW, hsame⟩ := X.leave (v := some (.int z)) (fun h => by rw [hret] at h; cases h) hlk
  exact ⟨_, _, retOut X hx hret rfl (Or.inl ⟨rfl, Or.inl rfl, z, rfl⟩) hd hr, hrun, hended, _, _, rfl, (by subst eT; exact hQ), ⟨_, rfl⟩, hW, hsame.mono hK hN⟩
theorem own_retN (X : Stand p l e R s m args below meth c T locs cells slots) (hx : p.tables.exec = Jvm.exec) (hlk : meth.locks = false) {h : Heap} (eT : T.heap = h) {pc : Nat} {Ls : Array Slot} {z : Int32} {t : FieldType} {rest : List Value} (hret : meth.sig.returnType = some t) (ht : t = .boolean ∨ t = .byte ∨ t = .char ∨ t = .short) (hz : nar t z = z)
    (hd : decode c.code pc = .ok (.ireturn, 1)) (hQ : Q (some (.int z)) h locs) (hK : cells ≤ K) (hN : slots ≤ N) : own_Ends p e below s Q K N (T.setTop (mkF m pc Ls (.int z :: rest))) := by
  obtain ⟨fs, hr, hrun, hended, hW, hsame⟩ := X.leave (v := some (.int z)) (fun h => by rw [hret] at h; cases h) hlk
  exact ⟨_, _, retN X hx hret ht hd (by rw [hz]; exact hr), hrun, hended, _, _, rfl, (by subst eT; exact hQ), ⟨_, rfl⟩, hW, hsame.mono hK hN⟩
theorem own_retL (X : Stand p l e R s m args below meth c T locs cells slots) (hx : p.tables.exec = Jvm.exec) (hlk : meth.locks = false) {h : Heap} (eT : T.heap = h) {pc : Nat} {Ls : Array Slot} {z : Int64} {rest : List Value} (hret : meth.sig.returnType = some .long)
    (hd : decode c.code pc = .ok (.lreturn, 1)) (hQ : Q (some (.long z)) h locs) (hK : cells ≤ K) (hN : slots ≤ N) : own_Ends p e below s Q K N (T.setTop (mkF m pc Ls (.long z :: rest))) := by
  obtain ⟨fs, hr, hrun, hended, hW, hsame⟩ := X.leave (v := some (.long z)) (fun h => by rw [hret] at h; cases h) hlk
  exact ⟨_, _, retOut X hx hret rfl (Or.inr (Or.inl ⟨rfl, rfl, z, rfl⟩)) hd hr, hrun, hended, _, _, rfl, (by subst eT; exact hQ), ⟨_, rfl⟩, hW, hsame.mono hK hN⟩
theorem own_retA (X : Stand p l e R s m args below meth c T locs cells slots) (hx : p.tables.exec = Jvm.exec) (hlk : meth.locks = false) {h : Heap} (eT : T.heap = h) {pc : Nat} {Ls : Array Slot} {w : Value} {t : FieldType} {rest : List Value} (hw : w.isRef = true) (hret : meth.sig.returnType = some t) (ht : t.isReference = true)
    (hd : decode c.code pc = .ok (.areturn, 1)) (hQ : Q (some w) h locs) (hK : cells ≤ K) (hN : slots ≤ N) : own_Ends p e below s Q K N (T.setTop (mkF m pc Ls (w :: rest))) := by
  obtain ⟨fs, hr, hrun, hended, hW, hsame⟩ := X.leave (v := some w) (fun h => by rw [hret] at h; cases h) hlk
  exact ⟨_, _, retOut X hx hret (by cases t <;> cases w <;> first | rfl | (simp [FieldType.isReference] at ht) | (simp [Value.isRef] at hw)) (Or.inr (Or.inr (Or.inr (Or.inr ⟨rfl, ht, hw⟩)))) hd hr, hrun, hended, _, _, rfl, (by subst eT; exact hQ), ⟨_, rfl⟩, hW, hsame.mono hK hN⟩

theorem own_neg1 : (-1 : Int32).toInt = -1 := rfl
end OwnKit
theorem own_selPriv {s : State} {args args' : Array Value} {y : MethodName} {n : Nat} (wi : (Cond.instantiable y.cls n).before args s = true) (wp : (Cond.privateMethod y).before args' s = true) (wm : (Cond.instanceMethod y).before args s = true) (hy : y.cls ≠ "java/lang/invoke/MethodHandle" ∧ y.cls ≠ "java/lang/invoke/VarHandle") : (Cond.selects y.cls y y).before args s = true := by
  obtain ⟨c, k, h1, h2, h3, h4, -⟩ := Cond.instantiable_spec wi
  exact selects_self_of_private h1 h2 (Bool.or_eq_false_iff.mp h4).1 (Cond.privateMethod_at wp) wm hy
section OwnWords
variable {args : Array Value} {s : State} {t : Term} {x : Addr} {C n d : String} {cl : Cell} {ty : FieldType}
theorem own_evI {k : Int32} (h : (Cond.eq t (.int k)).value args s none s [] = some true) : t.eval args s none [] s = some (.int k) := by
  obtain ⟨y, z, h1, h2, h3, -⟩ := cmp_v (Or.inl h)
  have h2' : z = .int k := (Option.some.inj h2).symm
  subst h2'
  cases y with
  | int v =>
    have q : v = k := by simpa [Cond.value, h1, Term.eval] using h
    rw [h1, q]
  | _ => simp [Kin, Value.isRef] at h3
theorem own_fldS {k : Int32} (ht : t.eval args s none [] s = some (.ref x)) (h : (Cond.eq (.field t C n d) (.int k)).value args s none s [] = some true) : Fld s s.heap x C n d (.int k) :=
  Fld.start ((fld_at ht).symm.trans (own_evI h))
theorem own_lenEv {k : Int32} (ev : t.eval args s none [] s = some (.ref x)) (A : Arr s s.heap x cl ty) (h : (Cond.eq (.length t) (.int k)).value args s none s [] = some true) : cl.slots.size.toInt32 = k ∧ cl.slots.size < 2 ^ 31 := by
  have e := own_evI h
  have hat := A.fin (Vm.Alike.refl _)
  simp only [Term.eval, ev, hat, Option.bind_eq_bind, Option.bind_some] at e
  split at e
  · rename_i hlt
    exact ⟨Value.int.inj (Option.some.inj e), hlt⟩
  · cases e
theorem own_len256 (ev : t.eval args s none [] s = some (.ref x)) (A : Arr s s.heap x cl ty) (h : (Cond.eq (.length t) (.int 256)).value args s none s [] = some true) : cl.slots.size = 256 := by
  obtain ⟨h1, h2⟩ := own_lenEv ev A h
  have q := len_toInt h2
  rw [h1] at q
  have q' : (256 : Int32).toInt = 256 := rfl
  omega
theorem own_cacheEl {K : String} {E : Jvm.Cond} (ev : (Term.static K n d).eval args s none [] s = some (.ref x)) (A : Arr s s.heap x cl ty) (hsz : cl.slots.size = 256) (h : (Cond.all (.static K n d) (.and (.exactly (.elem (.static K n d) (.index 0)) C) E)).value args s none s [] = some true) : ∀ j, j < 256 → ∃ b, cl.slots[j]? = some (.ref b) ∧ Exa s s.heap b C := by
  intro j hj
  have hat := A.fin (Vm.Alike.refl _)
  obtain ⟨h1, -⟩ := and_e (Cond.all_elim ev hat h j (by rw [hsz]; exact hj))
  obtain ⟨b, eb⟩ := exa_v h1
  have evj : (Term.static K n d).eval args s none [j] s = some (.ref x) := ev
  have q := (elem_in eb evj (Term.index_eval j) A.1).2
  rw [show j.toInt32 = Int32.ofNat j from rfl, Int32.toNatClampNeg_ofNat_of_lt (by omega)] at q
  exact ⟨b, q, exa_at eb h1⟩
theorem own_elemI {i k : Int32} (ev : t.eval args s none [] s = some (.ref x)) (A : Arr s s.heap x cl ty) (h : (Cond.eq (.elem t (.int i)) (.int k)).value args s none s [] = some true) : ¬ (i < 0 ∨ cl.slots.size ≤ i.toNatClampNeg) ∧ cl.slots[i.toNatClampNeg]? = some (.int k) :=
  elem_in (own_evI h) ev (Term.int_eval i) A.1
end OwnWords

theorem own_d_prog_20_2_0 : decode prog_20_method_2_code 0 = .ok (.iload_n 0, 1) := by decide +kernel
theorem own_d_prog_20_2_1 : decode prog_20_method_2_code 1 = .ok (.iload_n 1, 1) := by decide +kernel
theorem own_d_prog_20_2_2 : decode prog_20_method_2_code 2 = .ok (.isub, 1) := by decide +kernel
theorem own_d_prog_20_2_3 : decode prog_20_method_2_code 3 = .ok (.istore_n 2, 1) := by decide +kernel
theorem own_d_prog_20_2_4 : decode prog_20_method_2_code 4 = .ok (.iload_n 2, 1) := by decide +kernel
theorem own_d_prog_20_2_5 : decode prog_20_method_2_code 5 = .ok (.ldc 9, 2) := by decide +kernel
theorem own_d_prog_20_2_7 : decode prog_20_method_2_code 7 = .ok (.if_icmp .ne 9, 3) := by decide +kernel
theorem own_d_prog_20_2_10 : decode prog_20_method_2_code 10 = .ok (.ldc2_w 10, 3) := by decide +kernel
theorem own_d_prog_20_2_13 : decode prog_20_method_2_code 13 = .ok (.goto 5, 3) := by decide +kernel
theorem own_d_prog_20_2_16 : decode prog_20_method_2_code 16 = .ok (.iload_n 2, 1) := by decide +kernel
theorem own_d_prog_20_2_17 : decode prog_20_method_2_code 17 = .ok (.i2l, 1) := by decide +kernel
theorem own_d_prog_20_2_18 : decode prog_20_method_2_code 18 = .ok (.lreturn, 1) := by decide +kernel
theorem own_pd0 : parseMethodDescriptor "(II)J" = some ⟨[.int, .int], some .long⟩ := by decide +kernel
theorem own_pn0 : plainName "com/example/balcon/balcon/model/SequenceNumber" = true := by first | (simp [plainName, overriddenIn]; done) | decide +kernel
theorem own_pn1 : plainName "com/example/balcon/balcon/model/SequenceNumberBehindPinLaw" = true := by first | (simp [plainName, overriddenIn]; done) | decide +kernel
def own_beh (p n : Int32) : Int64 := if p - n = (-2147483648 : Int32) then (2147483648 : Int64) else (p - n).toInt64
theorem own_facts (p n : Int32) (r m d : Int64) (hr : r = p.toInt64 &&& (4294967295 : Int64)) (hm : m = n.toInt64 &&& (4294967295 : Int64)) (hd : d = r - m) :
    d.toInt = p.toInt % 4294967296 - n.toInt % 4294967296 ∧ -2147483648 ≤ p.toInt ∧ p.toInt < 2147483648 ∧ -2147483648 ≤ n.toInt ∧ n.toInt < 2147483648 := by
  have e1 : r.toInt = p.toInt % 4294967296 := by rw [hr, c_maskL p.toInt64 4294967295 32 (by decide) (by decide), c_i2l]; rfl
  have e2 : m.toInt = n.toInt % 4294967296 := by rw [hm, c_maskL n.toInt64 4294967295 32 (by decide) (by decide), c_i2l]; rfl
  have e3 := c_lsub r m
  have e4 := rng64 (r - m)
  have e5 := rng32 p
  have e6 := rng32 n
  rw [hd]
  refine ⟨?_, e5.1, e5.2, e6.1, e6.2⟩
  omega
theorem own_beh_toInt (p n : Int32) : (own_beh p n).toInt = if (p.toInt - n.toInt + 2147483648) % 4294967296 = 0 then 2147483648 else (p.toInt - n.toInt + 2147483648) % 4294967296 - 2147483648 := by
  have e1 := c_isub p n
  have e2 := rng32 (p - n)
  have e3 := rng32 p
  have e4 := rng32 n
  unfold own_beh
  by_cases h : p - n = (-2147483648 : Int32)
  · rw [if_pos h]
    have h' : (p - n).toInt = -2147483648 := by rw [h]; rfl
    rw [if_pos (by omega)]; rfl
  · rw [if_neg h]
    have h' : ¬ (p - n).toInt = -2147483648 := fun q => h (Int32.toInt_inj.mp (by rw [q]; rfl))
    rw [if_neg (by omega), c_i2l]; omega
theorem own_add (d : Int64) (h : d.toInt < 0) : (d + (4294967296 : Int64)).toInt = d.toInt + 4294967296 := by
  have e1 := c_ladd d 4294967296
  have e2 := rng64 (d + (4294967296 : Int64))
  have e3 := rng64 d
  have e4 : (4294967296 : Int64).toInt = 4294967296 := rfl
  rw [e4] at e1; omega
theorem own_sub (d : Int64) (h : 0 ≤ d.toInt) : (d - (4294967296 : Int64)).toInt = d.toInt - 4294967296 := by
  have e1 := c_lsub d 4294967296
  have e2 := rng64 (d - (4294967296 : Int64))
  have e3 := rng64 d
  have e4 : (4294967296 : Int64).toInt = 4294967296 := rfl
  rw [e4] at e1; omega
theorem own_lt {x y : Int64} : lcmpW x y < 0 ↔ x.toInt < y.toInt := (lw_lt x y).trans Int64.lt_iff_toInt_lt
theorem own_gt {x y : Int64} : 0 < lcmpW x y ↔ y.toInt < x.toInt := (lw_gt x y).trans Int64.lt_iff_toInt_lt
theorem own_k0 : (0 : Int64).toInt = 0 := rfl
theorem own_k31 : (2147483648 : Int64).toInt = 2147483648 := rfl
theorem own_k32 : (4294967296 : Int64).toInt = 4294967296 := rfl

def own_Q_own_rm1 (Z : State) (p0 : Int32) (p1 : Int32) (h0 : Heap) (n0 : Nat) : Option Value → Heap → List Loc → Prop := fun v h L => v = some (.long (own_beh p0 p1)) ∧ Fr n0 L ∧ h = h0
theorem own_ef_own_rm1 (m : MethodId) (x0 : Int32) (x1 : Int32) : entryFrame m #[(.int x0), (.int x1)] 3 = mkF m 0 #[.val (.int x0), .val (.int x1), .unset] [] := by first | (simp [entryFrame, mkF, argsToLocals, Value.category]; done) | rfl
set_option maxRecDepth 65536 in
set_option maxHeartbeats 40000000 in
theorem own_rm1 (l : Launch) (Z : State) (a0 : Array Value) (hw : ∀ d ∈ tables_1, d.before a0 Z = true) (ws : List Jvm.Cond) (p0 : Int32) (p1 : Int32) (h0 : Heap) (n0 : Nat) :
    MetFree l (⟨"com/example/balcon/balcon/model/SequenceNumber", "behind", "(II)J"⟩ : MethodName) (head1 (Jvm.Cond.code (⟨"com/example/balcon/balcon/model/SequenceNumber", "behind", "(II)J"⟩ : MethodName) prog_20_method_2_code 3 (some .long) :: ws) ({ frames := 0, cells := 0, slots := 0, locals := 0 } : Room)) (fun a U => a = #[(.int p0), (.int p1)] ∧ Z.Warmed39 U.vm ∧ U.heap = h0) (fun _ _ _ _ _ => True) (fun _ U o U' => ∃ v L, o = .returned v ∧ (own_Q_own_rm1 Z p0 p1 h0 n0) v U'.heap L ∧ FrameEnd U o U' L ({ frames := 0, cells := 0, slots := 0, locals := 0 } : Room).cells ({ frames := 0, cells := 0, slots := 0, locals := 0 } : Room).slots) := by
  refine MetFree.of_bodySF (plainFor_of_name own_pn0) hisR ?_
  intro p e s m args below meth c s₁ Bd hml0 hP hK
  obtain ⟨rfl, hZ, hh⟩ := hP
  have hx := Bd.exec
  have hby := Bd.bytes
  have hml : c.maxLocals = 3 := hml0
  have hown : s.vm.findClass "com/example/balcon/balcon/model/SequenceNumber" = some m.cls := findClass_of_methodNamed Bd.named
  have hnm := (name_of_methodNamed Bd.named Bd.method).1
  have hlk : meth.locks = false := BodyLoose.notSynchronized Bd
  have X0 : Stand p l e ({ frames := 0, cells := 0, slots := 0, locals := 0 } : Room) s m #[(.int p0), (.int p1)] below meth c s₁ [] 0 0 := Stand.of_body Bd
  have e0 : s₁.heap = h0 := by rw [← hh, Bd.state]; rfl
  have N0 := Fr.nil n0
  show own_Ends p e below s (own_Q_own_rm1 Z p0 p1 h0 n0) ({ frames := 0, cells := 0, slots := 0, locals := 0 } : Room).cells ({ frames := 0, cells := 0, slots := 0, locals := 0 } : Room).slots _
  refine own_by (V := s₁.setTop (mkF m 0 #[.val (.int p0), .val (.int p1), .unset] [])) (fun t k => castTop (own_ef_own_rm1 m p0 p1) k) ?_
  refine own_by (V := s₁.setTop (mkF m 1 #[.val (.int p0), .val (.int p1), .unset] [(.int p0)])) (fun t k => XS.iloadN X0.here hx rfl (hb hby own_d_prog_20_2_0) rfl  k) ?_
  refine own_by (V := s₁.setTop (mkF m 2 #[.val (.int p0), .val (.int p1), .unset] [(.int p1), (.int p0)])) (fun t k => XS.iloadN X0.here hx rfl (hb hby own_d_prog_20_2_1) rfl  k) ?_
  refine own_by (V := s₁.setTop (mkF m 3 #[.val (.int p0), .val (.int p1), .unset] [(.int (p0 - p1))])) (fun t k => XS.isub X0.here hx rfl (hb hby own_d_prog_20_2_2) rfl k) ?_
  refine own_by (V := s₁.setTop (mkF m 4 #[.val (.int p0), .val (.int p1), .val (.int (p0 - p1))] [])) (fun t k => XS.istoreN X0.here hx rfl (hb hby own_d_prog_20_2_3) rfl (l' := #[.val (.int p0), .val (.int p1), .val (.int (p0 - p1))]) rfl k) ?_
  refine own_by (V := s₁.setTop (mkF m 5 #[.val (.int p0), .val (.int p1), .val (.int (p0 - p1))] [(.int (p0 - p1))])) (fun t k => XS.iloadN X0.here hx rfl (hb hby own_d_prog_20_2_4) rfl  k) ?_
  refine own_by (V := s₁.setTop (mkF m 7 #[.val (.int p0), .val (.int p1), .val (.int (p0 - p1))] [(.int (-2147483648 : Int32)), (.int (p0 - p1))])) (Jvm.Stand.ldcInt X0 hx hown (mvT hZ (hw _ (List.mem_of_getElem? (i := 4) rfl))) (g := (mkF m 5 #[.val (.int p0), .val (.int p1), .val (.int (p0 - p1))] [(.int (p0 - p1))])) rfl (hb hby own_d_prog_20_2_5)) ?_
  by_cases hb7_1 : (p0 - p1) = (-2147483648 : Int32)
  · refine own_by (V := s₁.setTop (mkF m 10 #[.val (.int p0), .val (.int p1), .val (.int (p0 - p1))] [])) (fun t k => XS.icmpNo X0.here hx rfl (hb hby own_d_prog_20_2_7) rfl (teq hb7_1).2 k) ?_
    refine own_by (V := s₁.setTop (mkF m 13 #[.val (.int p0), .val (.int p1), .val (.int (p0 - p1))] [(.long (2147483648 : Int64))])) (Jvm.Stand.ldc2Long X0 hx hown (mvT hZ (hw _ (List.mem_of_getElem? (i := 9) rfl))) (g := (mkF m 10 #[.val (.int p0), .val (.int p1), .val (.int (p0 - p1))] [])) rfl (hb hby own_d_prog_20_2_10)) ?_
    refine own_by (V := s₁.setTop (mkF m 18 #[.val (.int p0), .val (.int p1), .val (.int (p0 - p1))] [(.long (2147483648 : Int64))])) (fun t k => XS.goto X0.here hx rfl (pc0 := 13) (pc' := 18) rfl (hb hby own_d_prog_20_2_13) (by decide) (by decide) k) ?_
    refine own_retL X0 hx hlk e0 Bd.returns (hb hby own_d_prog_20_2_18) ?_ (by decide) (by decide)
    exact ⟨congrArg (fun z => some (Value.long z)) (show (2147483648 : Int64) = (own_beh p0 p1) from by exact (if_pos hb7_1).symm), N0, rfl⟩
  · refine own_by (V := s₁.setTop (mkF m 16 #[.val (.int p0), .val (.int p1), .val (.int (p0 - p1))] [])) (fun t k => XS.icmpYes X0.here hx rfl (pc0 := 7) (pc' := 16) rfl (hb hby own_d_prog_20_2_7) rfl (feq hb7_1).2 (by decide) (by decide) k) ?_
    refine own_by (V := s₁.setTop (mkF m 17 #[.val (.int p0), .val (.int p1), .val (.int (p0 - p1))] [(.int (p0 - p1))])) (fun t k => XS.iloadN X0.here hx rfl (hb hby own_d_prog_20_2_16) rfl  k) ?_
    refine own_by (V := s₁.setTop (mkF m 18 #[.val (.int p0), .val (.int p1), .val (.int (p0 - p1))] [(.long ((p0 - p1).toInt64))])) (fun t k => XS.i2l X0.here hx rfl (hb hby own_d_prog_20_2_17) rfl k) ?_
    refine own_retL X0 hx hlk e0 Bd.returns (hb hby own_d_prog_20_2_18) ?_ (by decide) (by decide)
    exact ⟨congrArg (fun z => some (Value.long z)) (show ((p0 - p1).toInt64) = (own_beh p0 p1) from by exact (if_neg hb7_1).symm), N0, rfl⟩
def own_Q_own_rm0 (Z : State) (p0 : Int32) (p1 : Int32) (p2 : Int32) (h0 : Heap) (n0 : Nat) : Option Value → Heap → List Loc → Prop := fun v h L => v = some (.int 1) ∧ Fr n0 L
theorem own_ef_own_rm0 (m : MethodId) (x0 : Int32) (x1 : Int32) (x2 : Int32) : entryFrame m #[(.int x0), (.int x1), (.int x2)] maxLocals = mkF m 0 #[.val (.int x0), .val (.int x1), .val (.int x2), .unset, .unset, .unset, .unset, .unset, .unset, .unset, .unset, .unset, .unset, .unset, .unset] [] := by first | (simp [entryFrame, mkF, argsToLocals, Value.category, maxLocals]; done) | rfl
set_option maxRecDepth 65536 in
set_option maxHeartbeats 40000000 in
theorem own_rm0 (l : Launch) (Z : State) (a0 : Array Value) (hw : ∀ d ∈ tables_1, d.before a0 Z = true) (ws : List Jvm.Cond) (p0 : Int32) (p1 : Int32) (p2 : Int32) (h0 : Heap) (n0 : Nat) :
    MetFree l x (head1 (Jvm.Cond.code x code maxLocals ret :: ws) room_1) (fun a U => a = #[(.int p0), (.int p1), (.int p2)] ∧ Z.Warmed39 U.vm ∧ U.heap = h0) (fun _ _ _ _ _ => True) (fun _ U o U' => ∃ v L, o = .returned v ∧ (own_Q_own_rm0 Z p0 p1 p2 h0 n0) v U'.heap L ∧ FrameEnd U o U' L room_1.cells room_1.slots) := by
  refine MetFree.of_bodySF (plainFor_of_name own_pn1) hisR ?_
  intro p e s m args below meth c s₁ Bd hml0 hP hK
  obtain ⟨rfl, hZ, hh⟩ := hP
  have hx := Bd.exec
  have hby := Bd.bytes
  have hml : c.maxLocals = 15 := hml0
  have hown : s.vm.findClass "com/example/balcon/balcon/model/SequenceNumberBehindPinLaw" = some m.cls := findClass_of_methodNamed Bd.named
  have hnm := (name_of_methodNamed Bd.named Bd.method).1
  have hlk : meth.locks = false := BodyLoose.notSynchronized Bd
  have X0 : Stand p l e room_1 s m #[(.int p0), (.int p1), (.int p2)] below meth c s₁ [] 0 0 := Stand.of_body Bd
  have e0 : s₁.heap = h0 := by rw [← hh, Bd.state]; rfl
  have N0 := Fr.nil n0
  show own_Ends p e below s (own_Q_own_rm0 Z p0 p1 p2 h0 n0) room_1.cells room_1.slots _
  refine own_by (V := s₁.setTop (mkF m 0 #[.val (.int p0), .val (.int p1), .val (.int p2), .unset, .unset, .unset, .unset, .unset, .unset, .unset, .unset, .unset, .unset, .unset, .unset] [])) (fun t k => castTop (own_ef_own_rm0 m p0 p1 p2) k) ?_
  refine own_by (V := s₁.setTop (mkF m 1 #[.val (.int p0), .val (.int p1), .val (.int p2), .unset, .unset, .unset, .unset, .unset, .unset, .unset, .unset, .unset, .unset, .unset, .unset] [(.int p1)])) (fun t k => XS.iloadN X0.here hx rfl (hb hby at_0) rfl  k) ?_
  refine own_by (V := s₁.setTop (mkF m 2 #[.val (.int p0), .val (.int p1), .val (.int p2), .val (.int p1), .unset, .unset, .unset, .unset, .unset, .unset, .unset, .unset, .unset, .unset, .unset] [])) (fun t k => XS.istoreN X0.here hx rfl (hb hby at_1) rfl (l' := #[.val (.int p0), .val (.int p1), .val (.int p2), .val (.int p1), .unset, .unset, .unset, .unset, .unset, .unset, .unset, .unset, .unset, .unset, .unset]) rfl k) ?_
  refine own_by (V := s₁.setTop (mkF m 3 #[.val (.int p0), .val (.int p1), .val (.int p2), .val (.int p1), .unset, .unset, .unset, .unset, .unset, .unset, .unset, .unset, .unset, .unset, .unset] [(.int p2)])) (fun t k => XS.iloadN X0.here hx rfl (hb hby at_2) rfl  k) ?_
  refine own_by (V := s₁.setTop (mkF m 4 #[.val (.int p0), .val (.int p1), .val (.int p2), .val (.int p1), .unset, .unset, .unset, .unset, .unset, .unset, .unset, .unset, .unset, .unset, .unset] [(.int (3 : Int32)), (.int p2)])) (fun t k => XS.iconst X0.here hx rfl (hb hby at_3) k) ?_
  refine own_by (V := s₁.setTop (mkF m 5 #[.val (.int p0), .val (.int p1), .val (.int p2), .val (.int p1), .unset, .unset, .unset, .unset, .unset, .unset, .unset, .unset, .unset, .unset, .unset] [(.int (p2 &&& (3 : Int32)))])) (fun t k => XS.iand X0.here hx rfl (hb hby at_4) rfl k) ?_
  obtain ⟨z1, hz1⟩ : ∃ z : Int32, z = (p2 &&& (3 : Int32)) := ⟨_, rfl⟩
  rw [← hz1]
  refine own_by (V := s₁.setTop (mkF m 7 #[.val (.int p0), .val (.int p1), .val (.int p2), .val (.int p1), .val (.int z1), .unset, .unset, .unset, .unset, .unset, .unset, .unset, .unset, .unset, .unset] [])) (fun t k => XS.istore X0.here hx rfl (hb hby at_5) rfl (l' := #[.val (.int p0), .val (.int p1), .val (.int p2), .val (.int p1), .val (.int z1), .unset, .unset, .unset, .unset, .unset, .unset, .unset, .unset, .unset, .unset]) rfl k) ?_
  refine own_by (V := s₁.setTop (mkF m 9 #[.val (.int p0), .val (.int p1), .val (.int p2), .val (.int p1), .val (.int z1), .unset, .unset, .unset, .unset, .unset, .unset, .unset, .unset, .unset, .unset] [(.int z1)])) (fun t k => XS.iload X0.here hx rfl (hb hby at_7) rfl  k) ?_
  refine own_by (V := s₁.setTop (mkF m 10 #[.val (.int p0), .val (.int p1), .val (.int p2), .val (.int p1), .val (.int z1), .unset, .unset, .unset, .unset, .unset, .unset, .unset, .unset, .unset, .unset] [(.int (1 : Int32)), (.int z1)])) (fun t k => XS.iconst X0.here hx rfl (hb hby at_9) k) ?_
  have J2 : ∀ (T2 : State) (l2 : List Loc) (n3 : Int32) (X2 : Stand p l e room_1 s m #[(.int p0), (.int p1), (.int p2)] below meth c T2 l2 0 0) (e2 : T2.heap = h0) (N2 : Fr n0 l2), own_Ends p e below s (own_Q_own_rm0 Z p0 p1 p2 h0 n0) room_1.cells room_1.slots (T2.setTop (mkF m 37 #[.val (.int p0), .val (.int p1), .val (.int p2), .val (.int n3), .val (.int z1), .unset, .unset, .unset, .unset, .unset, .unset, .unset, .unset, .unset, .unset] [])) := by
    intro T2 l2 n3 X2 e2 N2 
    refine own_by (V := T2.setTop (mkF m 38 #[.val (.int p0), .val (.int p1), .val (.int p2), .val (.int n3), .val (.int z1), .unset, .unset, .unset, .unset, .unset, .unset, .unset, .unset, .unset, .unset] [(.int p0)])) (fun t k => XS.iloadN X2.here hx rfl (hb hby at_37) rfl  k) ?_
    refine own_by (V := T2.setTop (mkF m 39 #[.val (.int p0), .val (.int p1), .val (.int p2), .val (.int n3), .val (.int z1), .unset, .unset, .unset, .unset, .unset, .unset, .unset, .unset, .unset, .unset] [(.int n3), (.int p0)])) (fun t k => XS.iloadN X2.here hx rfl (hb hby at_38) rfl  k) ?_
    obtain ⟨_, _, ⟨T3, Lq3, kq3, nq3⟩, -, X3, ⟨Lc3, hQ3, lq3, yq3, zq3⟩, st3⟩ := Jvm.LawKit.callS X2 hx (y := (⟨"com/example/balcon/balcon/model/SequenceNumber", "behind", "(II)J"⟩ : MethodName)) hown (mvT hZ (hw _ (List.mem_of_getElem? (i := 0) rfl))) (mvT hZ (hw _ (List.mem_of_getElem? (i := 1) rfl))) (mvT hZ (hw _ (List.mem_of_getElem? (i := 2) rfl))) (mvT hZ (hw _ (List.mem_of_getElem? (i := 3) rfl))) (by decide) (backOf (W := 0) (own_rm1 l Z a0 hw [] p0 n3 h0 n0) hZ (hw _ (List.mem_of_getElem? (i := 3) rfl)) (hw _ (List.mem_of_getElem? (i := 2) rfl)) (by decide) (by decide)) (g := (mkF m 39 #[.val (.int p0), .val (.int p1), .val (.int p2), .val (.int n3), .val (.int z1), .unset, .unset, .unset, .unset, .unset, .unset, .unset, .unset, .unset, .unset] [(.int n3), (.int p0)])) rfl (by rw [hml]; rfl) (argsL := [(.int p0), (.int n3)]) (rest := []) (lenOf own_pd0 rfl) rfl (by show 2 * 0 + _ ≤ _; exact Nat.le_of_eq rfl) (hb hby at_39) (fun _ _ => ⟨rfl, e2, (by decide : 0 + 0 ≤ _), (by decide : 0 + 0 ≤ _)⟩)
    dsimp only [Pt.U, Pt.locs, Pt.cells, Pt.slots] at X3 lq3 yq3 zq3 st3 hQ3
    subst lq3 yq3 zq3
    obtain ⟨rfl, N3q, e3⟩ := hQ3
    have N3 := Fr.app N2 N3q
    refine own_by (V := T3.setTop (mkF m 42 #[.val (.int p0), .val (.int p1), .val (.int p2), .val (.int n3), .val (.int z1), .unset, .unset, .unset, .unset, .unset, .unset, .unset, .unset, .unset, .unset] [(.long (own_beh p0 n3))])) st3 ?_
    refine own_by (V := T3.setTop (mkF m 44 #[.val (.int p0), .val (.int p1), .val (.int p2), .val (.int n3), .val (.int z1), .val (.long (own_beh p0 n3)), .second, .unset, .unset, .unset, .unset, .unset, .unset, .unset, .unset] [])) (fun t k => XS.lstore X3.here hx rfl (hb hby at_42) rfl (l' := #[.val (.int p0), .val (.int p1), .val (.int p2), .val (.int n3), .val (.int z1), .val (.long (own_beh p0 n3)), .second, .unset, .unset, .unset, .unset, .unset, .unset, .unset, .unset]) rfl k) ?_
    refine own_by (V := T3.setTop (mkF m 45 #[.val (.int p0), .val (.int p1), .val (.int p2), .val (.int n3), .val (.int z1), .val (.long (own_beh p0 n3)), .second, .unset, .unset, .unset, .unset, .unset, .unset, .unset, .unset] [(.int p0)])) (fun t k => XS.iloadN X3.here hx rfl (hb hby at_44) rfl  k) ?_
    refine own_by (V := T3.setTop (mkF m 46 #[.val (.int p0), .val (.int p1), .val (.int p2), .val (.int n3), .val (.int z1), .val (.long (own_beh p0 n3)), .second, .unset, .unset, .unset, .unset, .unset, .unset, .unset, .unset] [(.long (p0.toInt64))])) (fun t k => XS.i2l X3.here hx rfl (hb hby at_45) rfl k) ?_
    refine own_by (V := T3.setTop (mkF m 49 #[.val (.int p0), .val (.int p1), .val (.int p2), .val (.int n3), .val (.int z1), .val (.long (own_beh p0 n3)), .second, .unset, .unset, .unset, .unset, .unset, .unset, .unset, .unset] [(.long (4294967295 : Int64)), (.long (p0.toInt64))])) (Jvm.Stand.ldc2Long X3 hx hown (mvT hZ (hw _ (List.mem_of_getElem? (i := 5) rfl))) (g := (mkF m 46 #[.val (.int p0), .val (.int p1), .val (.int p2), .val (.int n3), .val (.int z1), .val (.long (own_beh p0 n3)), .second, .unset, .unset, .unset, .unset, .unset, .unset, .unset, .unset] [(.long (p0.toInt64))])) rfl (hb hby at_46)) ?_
    refine own_by (V := T3.setTop (mkF m 50 #[.val (.int p0), .val (.int p1), .val (.int p2), .val (.int n3), .val (.int z1), .val (.long (own_beh p0 n3)), .second, .unset, .unset, .unset, .unset, .unset, .unset, .unset, .unset] [(.long ((p0.toInt64) &&& (4294967295 : Int64)))])) (fun t k => XS.land X3.here hx rfl (hb hby at_49) rfl k) ?_
    obtain ⟨z4, hz4⟩ : ∃ z : Int64, z = ((p0.toInt64) &&& (4294967295 : Int64)) := ⟨_, rfl⟩
    rw [← hz4]
    refine own_by (V := T3.setTop (mkF m 52 #[.val (.int p0), .val (.int p1), .val (.int p2), .val (.int n3), .val (.int z1), .val (.long (own_beh p0 n3)), .second, .val (.long z4), .second, .unset, .unset, .unset, .unset, .unset, .unset] [])) (fun t k => XS.lstore X3.here hx rfl (hb hby at_50) rfl (l' := #[.val (.int p0), .val (.int p1), .val (.int p2), .val (.int n3), .val (.int z1), .val (.long (own_beh p0 n3)), .second, .val (.long z4), .second, .unset, .unset, .unset, .unset, .unset, .unset]) rfl k) ?_
    refine own_by (V := T3.setTop (mkF m 53 #[.val (.int p0), .val (.int p1), .val (.int p2), .val (.int n3), .val (.int z1), .val (.long (own_beh p0 n3)), .second, .val (.long z4), .second, .unset, .unset, .unset, .unset, .unset, .unset] [(.int n3)])) (fun t k => XS.iloadN X3.here hx rfl (hb hby at_52) rfl  k) ?_
    refine own_by (V := T3.setTop (mkF m 54 #[.val (.int p0), .val (.int p1), .val (.int p2), .val (.int n3), .val (.int z1), .val (.long (own_beh p0 n3)), .second, .val (.long z4), .second, .unset, .unset, .unset, .unset, .unset, .unset] [(.long (n3.toInt64))])) (fun t k => XS.i2l X3.here hx rfl (hb hby at_53) rfl k) ?_
    refine own_by (V := T3.setTop (mkF m 57 #[.val (.int p0), .val (.int p1), .val (.int p2), .val (.int n3), .val (.int z1), .val (.long (own_beh p0 n3)), .second, .val (.long z4), .second, .unset, .unset, .unset, .unset, .unset, .unset] [(.long (4294967295 : Int64)), (.long (n3.toInt64))])) (Jvm.Stand.ldc2Long X3 hx hown (mvT hZ (hw _ (List.mem_of_getElem? (i := 5) rfl))) (g := (mkF m 54 #[.val (.int p0), .val (.int p1), .val (.int p2), .val (.int n3), .val (.int z1), .val (.long (own_beh p0 n3)), .second, .val (.long z4), .second, .unset, .unset, .unset, .unset, .unset, .unset] [(.long (n3.toInt64))])) rfl (hb hby at_54)) ?_
    refine own_by (V := T3.setTop (mkF m 58 #[.val (.int p0), .val (.int p1), .val (.int p2), .val (.int n3), .val (.int z1), .val (.long (own_beh p0 n3)), .second, .val (.long z4), .second, .unset, .unset, .unset, .unset, .unset, .unset] [(.long ((n3.toInt64) &&& (4294967295 : Int64)))])) (fun t k => XS.land X3.here hx rfl (hb hby at_57) rfl k) ?_
    obtain ⟨z5, hz5⟩ : ∃ z : Int64, z = ((n3.toInt64) &&& (4294967295 : Int64)) := ⟨_, rfl⟩
    rw [← hz5]
    refine own_by (V := T3.setTop (mkF m 60 #[.val (.int p0), .val (.int p1), .val (.int p2), .val (.int n3), .val (.int z1), .val (.long (own_beh p0 n3)), .second, .val (.long z4), .second, .val (.long z5), .second, .unset, .unset, .unset, .unset] [])) (fun t k => XS.lstore X3.here hx rfl (hb hby at_58) rfl (l' := #[.val (.int p0), .val (.int p1), .val (.int p2), .val (.int n3), .val (.int z1), .val (.long (own_beh p0 n3)), .second, .val (.long z4), .second, .val (.long z5), .second, .unset, .unset, .unset, .unset]) rfl k) ?_
    refine own_by (V := T3.setTop (mkF m 62 #[.val (.int p0), .val (.int p1), .val (.int p2), .val (.int n3), .val (.int z1), .val (.long (own_beh p0 n3)), .second, .val (.long z4), .second, .val (.long z5), .second, .unset, .unset, .unset, .unset] [(.long z4)])) (fun t k => XS.lload X3.here hx rfl (hb hby at_60) rfl  k) ?_
    refine own_by (V := T3.setTop (mkF m 64 #[.val (.int p0), .val (.int p1), .val (.int p2), .val (.int n3), .val (.int z1), .val (.long (own_beh p0 n3)), .second, .val (.long z4), .second, .val (.long z5), .second, .unset, .unset, .unset, .unset] [(.long z5), (.long z4)])) (fun t k => XS.lload X3.here hx rfl (hb hby at_62) rfl  k) ?_
    refine own_by (V := T3.setTop (mkF m 65 #[.val (.int p0), .val (.int p1), .val (.int p2), .val (.int n3), .val (.int z1), .val (.long (own_beh p0 n3)), .second, .val (.long z4), .second, .val (.long z5), .second, .unset, .unset, .unset, .unset] [(.long (z4 - z5))])) (fun t k => XS.lsub X3.here hx rfl (hb hby at_64) rfl k) ?_
    obtain ⟨z6, hz6⟩ : ∃ z : Int64, z = (z4 - z5) := ⟨_, rfl⟩
    rw [← hz6]
    refine own_by (V := T3.setTop (mkF m 67 #[.val (.int p0), .val (.int p1), .val (.int p2), .val (.int n3), .val (.int z1), .val (.long (own_beh p0 n3)), .second, .val (.long z4), .second, .val (.long z5), .second, .val (.long z6), .second, .unset, .unset] [])) (fun t k => XS.lstore X3.here hx rfl (hb hby at_65) rfl (l' := #[.val (.int p0), .val (.int p1), .val (.int p2), .val (.int n3), .val (.int z1), .val (.long (own_beh p0 n3)), .second, .val (.long z4), .second, .val (.long z5), .second, .val (.long z6), .second, .unset, .unset]) rfl k) ?_
    refine own_by (V := T3.setTop (mkF m 69 #[.val (.int p0), .val (.int p1), .val (.int p2), .val (.int n3), .val (.int z1), .val (.long (own_beh p0 n3)), .second, .val (.long z4), .second, .val (.long z5), .second, .val (.long z6), .second, .unset, .unset] [(.long z6)])) (fun t k => XS.lload X3.here hx rfl (hb hby at_67) rfl  k) ?_
    refine own_by (V := T3.setTop (mkF m 70 #[.val (.int p0), .val (.int p1), .val (.int p2), .val (.int n3), .val (.int z1), .val (.long (own_beh p0 n3)), .second, .val (.long z4), .second, .val (.long z5), .second, .val (.long z6), .second, .unset, .unset] [(.long (0 : Int64)), (.long z6)])) (fun t k => XS.lconst X3.here hx rfl (hb hby at_69) k) ?_
    refine own_by (V := T3.setTop (mkF m 71 #[.val (.int p0), .val (.int p1), .val (.int p2), .val (.int n3), .val (.int z1), .val (.long (own_beh p0 n3)), .second, .val (.long z4), .second, .val (.long z5), .second, .val (.long z6), .second, .unset, .unset] [(.int (lcmpW z6 (0 : Int64)))])) (fun t k => XS.lcmp X3.here hx rfl (hb hby at_70) rfl k) ?_
    by_cases hb71_7 : (lcmpW z6 (0 : Int64)) < (0 : Int32)
    · refine own_by (V := T3.setTop (mkF m 74 #[.val (.int p0), .val (.int p1), .val (.int p2), .val (.int n3), .val (.int z1), .val (.long (own_beh p0 n3)), .second, .val (.long z4), .second, .val (.long z5), .second, .val (.long z6), .second, .unset, .unset] [])) (fun t k => XS.ifNo X3.here hx rfl (hb hby at_71) rfl ((if0 _ _).trans (tlt hb71_7).2.1) k) ?_
      refine own_by (V := T3.setTop (mkF m 76 #[.val (.int p0), .val (.int p1), .val (.int p2), .val (.int n3), .val (.int z1), .val (.long (own_beh p0 n3)), .second, .val (.long z4), .second, .val (.long z5), .second, .val (.long z6), .second, .unset, .unset] [(.long z6)])) (fun t k => XS.lload X3.here hx rfl (hb hby at_74) rfl  k) ?_
      refine own_by (V := T3.setTop (mkF m 79 #[.val (.int p0), .val (.int p1), .val (.int p2), .val (.int n3), .val (.int z1), .val (.long (own_beh p0 n3)), .second, .val (.long z4), .second, .val (.long z5), .second, .val (.long z6), .second, .unset, .unset] [(.long (4294967296 : Int64)), (.long z6)])) (Jvm.Stand.ldc2Long X3 hx hown (mvT hZ (hw _ (List.mem_of_getElem? (i := 7) rfl))) (g := (mkF m 76 #[.val (.int p0), .val (.int p1), .val (.int p2), .val (.int n3), .val (.int z1), .val (.long (own_beh p0 n3)), .second, .val (.long z4), .second, .val (.long z5), .second, .val (.long z6), .second, .unset, .unset] [(.long z6)])) rfl (hb hby at_76)) ?_
      refine own_by (V := T3.setTop (mkF m 80 #[.val (.int p0), .val (.int p1), .val (.int p2), .val (.int n3), .val (.int z1), .val (.long (own_beh p0 n3)), .second, .val (.long z4), .second, .val (.long z5), .second, .val (.long z6), .second, .unset, .unset] [(.long (z6 + (4294967296 : Int64)))])) (fun t k => XS.ladd X3.here hx rfl (hb hby at_79) rfl k) ?_
      obtain ⟨z8, hz8⟩ : ∃ z : Int64, z = (z6 + (4294967296 : Int64)) := ⟨_, rfl⟩
      rw [← hz8]
      refine own_by (V := T3.setTop (mkF m 82 #[.val (.int p0), .val (.int p1), .val (.int p2), .val (.int n3), .val (.int z1), .val (.long (own_beh p0 n3)), .second, .val (.long z4), .second, .val (.long z5), .second, .val (.long z8), .second, .unset, .unset] [])) (fun t k => XS.lstore X3.here hx rfl (hb hby at_80) rfl (l' := #[.val (.int p0), .val (.int p1), .val (.int p2), .val (.int n3), .val (.int z1), .val (.long (own_beh p0 n3)), .second, .val (.long z4), .second, .val (.long z5), .second, .val (.long z8), .second, .unset, .unset]) rfl k) ?_
      refine own_by (V := T3.setTop (mkF m 84 #[.val (.int p0), .val (.int p1), .val (.int p2), .val (.int n3), .val (.int z1), .val (.long (own_beh p0 n3)), .second, .val (.long z4), .second, .val (.long z5), .second, .val (.long z8), .second, .unset, .unset] [(.long z8)])) (fun t k => XS.lload X3.here hx rfl (hb hby at_82) rfl  k) ?_
      refine own_by (V := T3.setTop (mkF m 87 #[.val (.int p0), .val (.int p1), .val (.int p2), .val (.int n3), .val (.int z1), .val (.long (own_beh p0 n3)), .second, .val (.long z4), .second, .val (.long z5), .second, .val (.long z8), .second, .unset, .unset] [(.long (2147483648 : Int64)), (.long z8)])) (Jvm.Stand.ldc2Long X3 hx hown (mvT hZ (hw _ (List.mem_of_getElem? (i := 6) rfl))) (g := (mkF m 84 #[.val (.int p0), .val (.int p1), .val (.int p2), .val (.int n3), .val (.int z1), .val (.long (own_beh p0 n3)), .second, .val (.long z4), .second, .val (.long z5), .second, .val (.long z8), .second, .unset, .unset] [(.long z8)])) rfl (hb hby at_84)) ?_
      refine own_by (V := T3.setTop (mkF m 88 #[.val (.int p0), .val (.int p1), .val (.int p2), .val (.int n3), .val (.int z1), .val (.long (own_beh p0 n3)), .second, .val (.long z4), .second, .val (.long z5), .second, .val (.long z8), .second, .unset, .unset] [(.int (lcmpW z8 (2147483648 : Int64)))])) (fun t k => XS.lcmp X3.here hx rfl (hb hby at_87) rfl k) ?_
      by_cases hb88_9 : (0 : Int32) < (lcmpW z8 (2147483648 : Int64))
      · refine own_by (V := T3.setTop (mkF m 96 #[.val (.int p0), .val (.int p1), .val (.int p2), .val (.int n3), .val (.int z1), .val (.long (own_beh p0 n3)), .second, .val (.long z4), .second, .val (.long z5), .second, .val (.long z8), .second, .unset, .unset] [])) (fun t k => XS.ifYes X3.here hx rfl (pc0 := 88) (pc' := 96) rfl (hb hby at_88) rfl ((if0 _ _).trans (tlt hb88_9).2.2.1) (by decide) (by decide) k) ?_
        refine own_by (V := T3.setTop (mkF m 98 #[.val (.int p0), .val (.int p1), .val (.int p2), .val (.int n3), .val (.int z1), .val (.long (own_beh p0 n3)), .second, .val (.long z4), .second, .val (.long z5), .second, .val (.long z8), .second, .unset, .unset] [(.long z8)])) (fun t k => XS.lload X3.here hx rfl (hb hby at_96) rfl  k) ?_
        refine own_by (V := T3.setTop (mkF m 101 #[.val (.int p0), .val (.int p1), .val (.int p2), .val (.int n3), .val (.int z1), .val (.long (own_beh p0 n3)), .second, .val (.long z4), .second, .val (.long z5), .second, .val (.long z8), .second, .unset, .unset] [(.long (4294967296 : Int64)), (.long z8)])) (Jvm.Stand.ldc2Long X3 hx hown (mvT hZ (hw _ (List.mem_of_getElem? (i := 7) rfl))) (g := (mkF m 98 #[.val (.int p0), .val (.int p1), .val (.int p2), .val (.int n3), .val (.int z1), .val (.long (own_beh p0 n3)), .second, .val (.long z4), .second, .val (.long z5), .second, .val (.long z8), .second, .unset, .unset] [(.long z8)])) rfl (hb hby at_98)) ?_
        refine own_by (V := T3.setTop (mkF m 102 #[.val (.int p0), .val (.int p1), .val (.int p2), .val (.int n3), .val (.int z1), .val (.long (own_beh p0 n3)), .second, .val (.long z4), .second, .val (.long z5), .second, .val (.long z8), .second, .unset, .unset] [(.long (z8 - (4294967296 : Int64)))])) (fun t k => XS.lsub X3.here hx rfl (hb hby at_101) rfl k) ?_
        obtain ⟨z10, hz10⟩ : ∃ z : Int64, z = (z8 - (4294967296 : Int64)) := ⟨_, rfl⟩
        rw [← hz10]
        refine own_by (V := T3.setTop (mkF m 104 #[.val (.int p0), .val (.int p1), .val (.int p2), .val (.int n3), .val (.int z1), .val (.long (own_beh p0 n3)), .second, .val (.long z4), .second, .val (.long z5), .second, .val (.long z8), .second, .val (.long z10), .second] [])) (fun t k => XS.lstore X3.here hx rfl (hb hby at_102) rfl (l' := #[.val (.int p0), .val (.int p1), .val (.int p2), .val (.int n3), .val (.int z1), .val (.long (own_beh p0 n3)), .second, .val (.long z4), .second, .val (.long z5), .second, .val (.long z8), .second, .val (.long z10), .second]) rfl k) ?_
        refine own_by (V := T3.setTop (mkF m 106 #[.val (.int p0), .val (.int p1), .val (.int p2), .val (.int n3), .val (.int z1), .val (.long (own_beh p0 n3)), .second, .val (.long z4), .second, .val (.long z5), .second, .val (.long z8), .second, .val (.long z10), .second] [(.long (own_beh p0 n3))])) (fun t k => XS.lload X3.here hx rfl (hb hby at_104) rfl  k) ?_
        refine own_by (V := T3.setTop (mkF m 108 #[.val (.int p0), .val (.int p1), .val (.int p2), .val (.int n3), .val (.int z1), .val (.long (own_beh p0 n3)), .second, .val (.long z4), .second, .val (.long z5), .second, .val (.long z8), .second, .val (.long z10), .second] [(.long z10), (.long (own_beh p0 n3))])) (fun t k => XS.lload X3.here hx rfl (hb hby at_106) rfl  k) ?_
        refine own_by (V := T3.setTop (mkF m 109 #[.val (.int p0), .val (.int p1), .val (.int p2), .val (.int n3), .val (.int z1), .val (.long (own_beh p0 n3)), .second, .val (.long z4), .second, .val (.long z5), .second, .val (.long z8), .second, .val (.long z10), .second] [(.int (lcmpW (own_beh p0 n3) z10))])) (fun t k => XS.lcmp X3.here hx rfl (hb hby at_108) rfl k) ?_
        have hb109_11 : ((lcmpW (own_beh p0 n3) z10) = (0 : Int32)) := by
          obtain ⟨q1, q2, q3, q4, q5⟩ := own_facts p0 n3 _ _ _ hz4 hz5 hz6
          have q6 := own_beh_toInt p0 n3
          rw [own_lt, own_k0] at hb71_7
          rw [own_gt, own_k31] at hb88_9
          have q7 := own_add z6 hb71_7
          rw [← hz8] at q7
          have q8 := own_sub z8 (by omega)
          rw [← hz10] at q8
          rw [lw_eq, ← Int64.toInt_inj, q6]
          split <;> omega
        refine own_by (V := T3.setTop (mkF m 112 #[.val (.int p0), .val (.int p1), .val (.int p2), .val (.int n3), .val (.int z1), .val (.long (own_beh p0 n3)), .second, .val (.long z4), .second, .val (.long z5), .second, .val (.long z8), .second, .val (.long z10), .second] [])) (fun t k => XS.ifNo X3.here hx rfl (hb hby at_109) rfl ((if0 _ _).trans (teq hb109_11).2) k) ?_
        refine own_by (V := T3.setTop (mkF m 113 #[.val (.int p0), .val (.int p1), .val (.int p2), .val (.int n3), .val (.int z1), .val (.long (own_beh p0 n3)), .second, .val (.long z4), .second, .val (.long z5), .second, .val (.long z8), .second, .val (.long z10), .second] [(.int (1 : Int32))])) (fun t k => XS.iconst X3.here hx rfl (hb hby at_112) k) ?_
        refine own_by (V := T3.setTop (mkF m 117 #[.val (.int p0), .val (.int p1), .val (.int p2), .val (.int n3), .val (.int z1), .val (.long (own_beh p0 n3)), .second, .val (.long z4), .second, .val (.long z5), .second, .val (.long z8), .second, .val (.long z10), .second] [(.int (1 : Int32))])) (fun t k => XS.goto X3.here hx rfl (pc0 := 113) (pc' := 117) rfl (hb hby at_113) (by decide) (by decide) k) ?_
        refine own_retN X3 hx hlk e3 Bd.returns (t := .boolean) (by simp) rfl (hb hby at_117) ?_ (by decide) (by decide)
        exact ⟨rfl, N3⟩
      · refine own_by (V := T3.setTop (mkF m 91 #[.val (.int p0), .val (.int p1), .val (.int p2), .val (.int n3), .val (.int z1), .val (.long (own_beh p0 n3)), .second, .val (.long z4), .second, .val (.long z5), .second, .val (.long z8), .second, .unset, .unset] [])) (fun t k => XS.ifNo X3.here hx rfl (hb hby at_88) rfl ((if0 _ _).trans (flt hb88_9).2.2.1) k) ?_
        refine own_by (V := T3.setTop (mkF m 93 #[.val (.int p0), .val (.int p1), .val (.int p2), .val (.int n3), .val (.int z1), .val (.long (own_beh p0 n3)), .second, .val (.long z4), .second, .val (.long z5), .second, .val (.long z8), .second, .unset, .unset] [(.long z8)])) (fun t k => XS.lload X3.here hx rfl (hb hby at_91) rfl  k) ?_
        refine own_by (V := T3.setTop (mkF m 102 #[.val (.int p0), .val (.int p1), .val (.int p2), .val (.int n3), .val (.int z1), .val (.long (own_beh p0 n3)), .second, .val (.long z4), .second, .val (.long z5), .second, .val (.long z8), .second, .unset, .unset] [(.long z8)])) (fun t k => XS.goto X3.here hx rfl (pc0 := 93) (pc' := 102) rfl (hb hby at_93) (by decide) (by decide) k) ?_
        refine own_by (V := T3.setTop (mkF m 104 #[.val (.int p0), .val (.int p1), .val (.int p2), .val (.int n3), .val (.int z1), .val (.long (own_beh p0 n3)), .second, .val (.long z4), .second, .val (.long z5), .second, .val (.long z8), .second, .val (.long z8), .second] [])) (fun t k => XS.lstore X3.here hx rfl (hb hby at_102) rfl (l' := #[.val (.int p0), .val (.int p1), .val (.int p2), .val (.int n3), .val (.int z1), .val (.long (own_beh p0 n3)), .second, .val (.long z4), .second, .val (.long z5), .second, .val (.long z8), .second, .val (.long z8), .second]) rfl k) ?_
        refine own_by (V := T3.setTop (mkF m 106 #[.val (.int p0), .val (.int p1), .val (.int p2), .val (.int n3), .val (.int z1), .val (.long (own_beh p0 n3)), .second, .val (.long z4), .second, .val (.long z5), .second, .val (.long z8), .second, .val (.long z8), .second] [(.long (own_beh p0 n3))])) (fun t k => XS.lload X3.here hx rfl (hb hby at_104) rfl  k) ?_
        refine own_by (V := T3.setTop (mkF m 108 #[.val (.int p0), .val (.int p1), .val (.int p2), .val (.int n3), .val (.int z1), .val (.long (own_beh p0 n3)), .second, .val (.long z4), .second, .val (.long z5), .second, .val (.long z8), .second, .val (.long z8), .second] [(.long z8), (.long (own_beh p0 n3))])) (fun t k => XS.lload X3.here hx rfl (hb hby at_106) rfl  k) ?_
        refine own_by (V := T3.setTop (mkF m 109 #[.val (.int p0), .val (.int p1), .val (.int p2), .val (.int n3), .val (.int z1), .val (.long (own_beh p0 n3)), .second, .val (.long z4), .second, .val (.long z5), .second, .val (.long z8), .second, .val (.long z8), .second] [(.int (lcmpW (own_beh p0 n3) z8))])) (fun t k => XS.lcmp X3.here hx rfl (hb hby at_108) rfl k) ?_
        have hb109_12 : ((lcmpW (own_beh p0 n3) z8) = (0 : Int32)) := by
          obtain ⟨q1, q2, q3, q4, q5⟩ := own_facts p0 n3 _ _ _ hz4 hz5 hz6
          have q6 := own_beh_toInt p0 n3
          rw [own_lt, own_k0] at hb71_7
          rw [own_gt, own_k31] at hb88_9
          have q7 := own_add z6 hb71_7
          rw [← hz8] at q7
          rw [lw_eq, ← Int64.toInt_inj, q6]
          split <;> omega
        refine own_by (V := T3.setTop (mkF m 112 #[.val (.int p0), .val (.int p1), .val (.int p2), .val (.int n3), .val (.int z1), .val (.long (own_beh p0 n3)), .second, .val (.long z4), .second, .val (.long z5), .second, .val (.long z8), .second, .val (.long z8), .second] [])) (fun t k => XS.ifNo X3.here hx rfl (hb hby at_109) rfl ((if0 _ _).trans (teq hb109_12).2) k) ?_
        refine own_by (V := T3.setTop (mkF m 113 #[.val (.int p0), .val (.int p1), .val (.int p2), .val (.int n3), .val (.int z1), .val (.long (own_beh p0 n3)), .second, .val (.long z4), .second, .val (.long z5), .second, .val (.long z8), .second, .val (.long z8), .second] [(.int (1 : Int32))])) (fun t k => XS.iconst X3.here hx rfl (hb hby at_112) k) ?_
        refine own_by (V := T3.setTop (mkF m 117 #[.val (.int p0), .val (.int p1), .val (.int p2), .val (.int n3), .val (.int z1), .val (.long (own_beh p0 n3)), .second, .val (.long z4), .second, .val (.long z5), .second, .val (.long z8), .second, .val (.long z8), .second] [(.int (1 : Int32))])) (fun t k => XS.goto X3.here hx rfl (pc0 := 113) (pc' := 117) rfl (hb hby at_113) (by decide) (by decide) k) ?_
        refine own_retN X3 hx hlk e3 Bd.returns (t := .boolean) (by simp) rfl (hb hby at_117) ?_ (by decide) (by decide)
        exact ⟨rfl, N3⟩
    · refine own_by (V := T3.setTop (mkF m 82 #[.val (.int p0), .val (.int p1), .val (.int p2), .val (.int n3), .val (.int z1), .val (.long (own_beh p0 n3)), .second, .val (.long z4), .second, .val (.long z5), .second, .val (.long z6), .second, .unset, .unset] [])) (fun t k => XS.ifYes X3.here hx rfl (pc0 := 71) (pc' := 82) rfl (hb hby at_71) rfl ((if0 _ _).trans (flt hb71_7).2.1) (by decide) (by decide) k) ?_
      refine own_by (V := T3.setTop (mkF m 84 #[.val (.int p0), .val (.int p1), .val (.int p2), .val (.int n3), .val (.int z1), .val (.long (own_beh p0 n3)), .second, .val (.long z4), .second, .val (.long z5), .second, .val (.long z6), .second, .unset, .unset] [(.long z6)])) (fun t k => XS.lload X3.here hx rfl (hb hby at_82) rfl  k) ?_
      refine own_by (V := T3.setTop (mkF m 87 #[.val (.int p0), .val (.int p1), .val (.int p2), .val (.int n3), .val (.int z1), .val (.long (own_beh p0 n3)), .second, .val (.long z4), .second, .val (.long z5), .second, .val (.long z6), .second, .unset, .unset] [(.long (2147483648 : Int64)), (.long z6)])) (Jvm.Stand.ldc2Long X3 hx hown (mvT hZ (hw _ (List.mem_of_getElem? (i := 6) rfl))) (g := (mkF m 84 #[.val (.int p0), .val (.int p1), .val (.int p2), .val (.int n3), .val (.int z1), .val (.long (own_beh p0 n3)), .second, .val (.long z4), .second, .val (.long z5), .second, .val (.long z6), .second, .unset, .unset] [(.long z6)])) rfl (hb hby at_84)) ?_
      refine own_by (V := T3.setTop (mkF m 88 #[.val (.int p0), .val (.int p1), .val (.int p2), .val (.int n3), .val (.int z1), .val (.long (own_beh p0 n3)), .second, .val (.long z4), .second, .val (.long z5), .second, .val (.long z6), .second, .unset, .unset] [(.int (lcmpW z6 (2147483648 : Int64)))])) (fun t k => XS.lcmp X3.here hx rfl (hb hby at_87) rfl k) ?_
      by_cases hb88_13 : (0 : Int32) < (lcmpW z6 (2147483648 : Int64))
      · refine own_by (V := T3.setTop (mkF m 96 #[.val (.int p0), .val (.int p1), .val (.int p2), .val (.int n3), .val (.int z1), .val (.long (own_beh p0 n3)), .second, .val (.long z4), .second, .val (.long z5), .second, .val (.long z6), .second, .unset, .unset] [])) (fun t k => XS.ifYes X3.here hx rfl (pc0 := 88) (pc' := 96) rfl (hb hby at_88) rfl ((if0 _ _).trans (tlt hb88_13).2.2.1) (by decide) (by decide) k) ?_
        refine own_by (V := T3.setTop (mkF m 98 #[.val (.int p0), .val (.int p1), .val (.int p2), .val (.int n3), .val (.int z1), .val (.long (own_beh p0 n3)), .second, .val (.long z4), .second, .val (.long z5), .second, .val (.long z6), .second, .unset, .unset] [(.long z6)])) (fun t k => XS.lload X3.here hx rfl (hb hby at_96) rfl  k) ?_
        refine own_by (V := T3.setTop (mkF m 101 #[.val (.int p0), .val (.int p1), .val (.int p2), .val (.int n3), .val (.int z1), .val (.long (own_beh p0 n3)), .second, .val (.long z4), .second, .val (.long z5), .second, .val (.long z6), .second, .unset, .unset] [(.long (4294967296 : Int64)), (.long z6)])) (Jvm.Stand.ldc2Long X3 hx hown (mvT hZ (hw _ (List.mem_of_getElem? (i := 7) rfl))) (g := (mkF m 98 #[.val (.int p0), .val (.int p1), .val (.int p2), .val (.int n3), .val (.int z1), .val (.long (own_beh p0 n3)), .second, .val (.long z4), .second, .val (.long z5), .second, .val (.long z6), .second, .unset, .unset] [(.long z6)])) rfl (hb hby at_98)) ?_
        refine own_by (V := T3.setTop (mkF m 102 #[.val (.int p0), .val (.int p1), .val (.int p2), .val (.int n3), .val (.int z1), .val (.long (own_beh p0 n3)), .second, .val (.long z4), .second, .val (.long z5), .second, .val (.long z6), .second, .unset, .unset] [(.long (z6 - (4294967296 : Int64)))])) (fun t k => XS.lsub X3.here hx rfl (hb hby at_101) rfl k) ?_
        obtain ⟨z14, hz14⟩ : ∃ z : Int64, z = (z6 - (4294967296 : Int64)) := ⟨_, rfl⟩
        rw [← hz14]
        refine own_by (V := T3.setTop (mkF m 104 #[.val (.int p0), .val (.int p1), .val (.int p2), .val (.int n3), .val (.int z1), .val (.long (own_beh p0 n3)), .second, .val (.long z4), .second, .val (.long z5), .second, .val (.long z6), .second, .val (.long z14), .second] [])) (fun t k => XS.lstore X3.here hx rfl (hb hby at_102) rfl (l' := #[.val (.int p0), .val (.int p1), .val (.int p2), .val (.int n3), .val (.int z1), .val (.long (own_beh p0 n3)), .second, .val (.long z4), .second, .val (.long z5), .second, .val (.long z6), .second, .val (.long z14), .second]) rfl k) ?_
        refine own_by (V := T3.setTop (mkF m 106 #[.val (.int p0), .val (.int p1), .val (.int p2), .val (.int n3), .val (.int z1), .val (.long (own_beh p0 n3)), .second, .val (.long z4), .second, .val (.long z5), .second, .val (.long z6), .second, .val (.long z14), .second] [(.long (own_beh p0 n3))])) (fun t k => XS.lload X3.here hx rfl (hb hby at_104) rfl  k) ?_
        refine own_by (V := T3.setTop (mkF m 108 #[.val (.int p0), .val (.int p1), .val (.int p2), .val (.int n3), .val (.int z1), .val (.long (own_beh p0 n3)), .second, .val (.long z4), .second, .val (.long z5), .second, .val (.long z6), .second, .val (.long z14), .second] [(.long z14), (.long (own_beh p0 n3))])) (fun t k => XS.lload X3.here hx rfl (hb hby at_106) rfl  k) ?_
        refine own_by (V := T3.setTop (mkF m 109 #[.val (.int p0), .val (.int p1), .val (.int p2), .val (.int n3), .val (.int z1), .val (.long (own_beh p0 n3)), .second, .val (.long z4), .second, .val (.long z5), .second, .val (.long z6), .second, .val (.long z14), .second] [(.int (lcmpW (own_beh p0 n3) z14))])) (fun t k => XS.lcmp X3.here hx rfl (hb hby at_108) rfl k) ?_
        have hb109_15 : ((lcmpW (own_beh p0 n3) z14) = (0 : Int32)) := by
          obtain ⟨q1, q2, q3, q4, q5⟩ := own_facts p0 n3 _ _ _ hz4 hz5 hz6
          have q6 := own_beh_toInt p0 n3
          rw [own_lt, own_k0] at hb71_7
          rw [own_gt, own_k31] at hb88_13
          have q8 := own_sub z6 (by omega)
          rw [← hz14] at q8
          rw [lw_eq, ← Int64.toInt_inj, q6]
          split <;> omega
        refine own_by (V := T3.setTop (mkF m 112 #[.val (.int p0), .val (.int p1), .val (.int p2), .val (.int n3), .val (.int z1), .val (.long (own_beh p0 n3)), .second, .val (.long z4), .second, .val (.long z5), .second, .val (.long z6), .second, .val (.long z14), .second] [])) (fun t k => XS.ifNo X3.here hx rfl (hb hby at_109) rfl ((if0 _ _).trans (teq hb109_15).2) k) ?_
        refine own_by (V := T3.setTop (mkF m 113 #[.val (.int p0), .val (.int p1), .val (.int p2), .val (.int n3), .val (.int z1), .val (.long (own_beh p0 n3)), .second, .val (.long z4), .second, .val (.long z5), .second, .val (.long z6), .second, .val (.long z14), .second] [(.int (1 : Int32))])) (fun t k => XS.iconst X3.here hx rfl (hb hby at_112) k) ?_
        refine own_by (V := T3.setTop (mkF m 117 #[.val (.int p0), .val (.int p1), .val (.int p2), .val (.int n3), .val (.int z1), .val (.long (own_beh p0 n3)), .second, .val (.long z4), .second, .val (.long z5), .second, .val (.long z6), .second, .val (.long z14), .second] [(.int (1 : Int32))])) (fun t k => XS.goto X3.here hx rfl (pc0 := 113) (pc' := 117) rfl (hb hby at_113) (by decide) (by decide) k) ?_
        refine own_retN X3 hx hlk e3 Bd.returns (t := .boolean) (by simp) rfl (hb hby at_117) ?_ (by decide) (by decide)
        exact ⟨rfl, N3⟩
      · refine own_by (V := T3.setTop (mkF m 91 #[.val (.int p0), .val (.int p1), .val (.int p2), .val (.int n3), .val (.int z1), .val (.long (own_beh p0 n3)), .second, .val (.long z4), .second, .val (.long z5), .second, .val (.long z6), .second, .unset, .unset] [])) (fun t k => XS.ifNo X3.here hx rfl (hb hby at_88) rfl ((if0 _ _).trans (flt hb88_13).2.2.1) k) ?_
        refine own_by (V := T3.setTop (mkF m 93 #[.val (.int p0), .val (.int p1), .val (.int p2), .val (.int n3), .val (.int z1), .val (.long (own_beh p0 n3)), .second, .val (.long z4), .second, .val (.long z5), .second, .val (.long z6), .second, .unset, .unset] [(.long z6)])) (fun t k => XS.lload X3.here hx rfl (hb hby at_91) rfl  k) ?_
        refine own_by (V := T3.setTop (mkF m 102 #[.val (.int p0), .val (.int p1), .val (.int p2), .val (.int n3), .val (.int z1), .val (.long (own_beh p0 n3)), .second, .val (.long z4), .second, .val (.long z5), .second, .val (.long z6), .second, .unset, .unset] [(.long z6)])) (fun t k => XS.goto X3.here hx rfl (pc0 := 93) (pc' := 102) rfl (hb hby at_93) (by decide) (by decide) k) ?_
        refine own_by (V := T3.setTop (mkF m 104 #[.val (.int p0), .val (.int p1), .val (.int p2), .val (.int n3), .val (.int z1), .val (.long (own_beh p0 n3)), .second, .val (.long z4), .second, .val (.long z5), .second, .val (.long z6), .second, .val (.long z6), .second] [])) (fun t k => XS.lstore X3.here hx rfl (hb hby at_102) rfl (l' := #[.val (.int p0), .val (.int p1), .val (.int p2), .val (.int n3), .val (.int z1), .val (.long (own_beh p0 n3)), .second, .val (.long z4), .second, .val (.long z5), .second, .val (.long z6), .second, .val (.long z6), .second]) rfl k) ?_
        refine own_by (V := T3.setTop (mkF m 106 #[.val (.int p0), .val (.int p1), .val (.int p2), .val (.int n3), .val (.int z1), .val (.long (own_beh p0 n3)), .second, .val (.long z4), .second, .val (.long z5), .second, .val (.long z6), .second, .val (.long z6), .second] [(.long (own_beh p0 n3))])) (fun t k => XS.lload X3.here hx rfl (hb hby at_104) rfl  k) ?_
        refine own_by (V := T3.setTop (mkF m 108 #[.val (.int p0), .val (.int p1), .val (.int p2), .val (.int n3), .val (.int z1), .val (.long (own_beh p0 n3)), .second, .val (.long z4), .second, .val (.long z5), .second, .val (.long z6), .second, .val (.long z6), .second] [(.long z6), (.long (own_beh p0 n3))])) (fun t k => XS.lload X3.here hx rfl (hb hby at_106) rfl  k) ?_
        refine own_by (V := T3.setTop (mkF m 109 #[.val (.int p0), .val (.int p1), .val (.int p2), .val (.int n3), .val (.int z1), .val (.long (own_beh p0 n3)), .second, .val (.long z4), .second, .val (.long z5), .second, .val (.long z6), .second, .val (.long z6), .second] [(.int (lcmpW (own_beh p0 n3) z6))])) (fun t k => XS.lcmp X3.here hx rfl (hb hby at_108) rfl k) ?_
        have hb109_16 : ((lcmpW (own_beh p0 n3) z6) = (0 : Int32)) := by
          obtain ⟨q1, q2, q3, q4, q5⟩ := own_facts p0 n3 _ _ _ hz4 hz5 hz6
          have q6 := own_beh_toInt p0 n3
          rw [own_lt, own_k0] at hb71_7
          rw [own_gt, own_k31] at hb88_13
          rw [lw_eq, ← Int64.toInt_inj, q6]
          split <;> omega
        refine own_by (V := T3.setTop (mkF m 112 #[.val (.int p0), .val (.int p1), .val (.int p2), .val (.int n3), .val (.int z1), .val (.long (own_beh p0 n3)), .second, .val (.long z4), .second, .val (.long z5), .second, .val (.long z6), .second, .val (.long z6), .second] [])) (fun t k => XS.ifNo X3.here hx rfl (hb hby at_109) rfl ((if0 _ _).trans (teq hb109_16).2) k) ?_
        refine own_by (V := T3.setTop (mkF m 113 #[.val (.int p0), .val (.int p1), .val (.int p2), .val (.int n3), .val (.int z1), .val (.long (own_beh p0 n3)), .second, .val (.long z4), .second, .val (.long z5), .second, .val (.long z6), .second, .val (.long z6), .second] [(.int (1 : Int32))])) (fun t k => XS.iconst X3.here hx rfl (hb hby at_112) k) ?_
        refine own_by (V := T3.setTop (mkF m 117 #[.val (.int p0), .val (.int p1), .val (.int p2), .val (.int n3), .val (.int z1), .val (.long (own_beh p0 n3)), .second, .val (.long z4), .second, .val (.long z5), .second, .val (.long z6), .second, .val (.long z6), .second] [(.int (1 : Int32))])) (fun t k => XS.goto X3.here hx rfl (pc0 := 113) (pc' := 117) rfl (hb hby at_113) (by decide) (by decide) k) ?_
        refine own_retN X3 hx hlk e3 Bd.returns (t := .boolean) (by simp) rfl (hb hby at_117) ?_ (by decide) (by decide)
        exact ⟨rfl, N3⟩
  by_cases hb10_17 : z1 = (1 : Int32)
  · refine own_by (V := s₁.setTop (mkF m 13 #[.val (.int p0), .val (.int p1), .val (.int p2), .val (.int p1), .val (.int z1), .unset, .unset, .unset, .unset, .unset, .unset, .unset, .unset, .unset, .unset] [])) (fun t k => XS.icmpNo X0.here hx rfl (hb hby at_10) rfl (teq hb10_17).2 k) ?_
    refine own_by (V := s₁.setTop (mkF m 14 #[.val (.int p0), .val (.int p1), .val (.int p2), .val (.int p1), .val (.int z1), .unset, .unset, .unset, .unset, .unset, .unset, .unset, .unset, .unset, .unset] [(.int p0)])) (fun t k => XS.iloadN X0.here hx rfl (hb hby at_13) rfl  k) ?_
    refine own_by (V := s₁.setTop (mkF m 16 #[.val (.int p0), .val (.int p1), .val (.int p2), .val (.int p1), .val (.int z1), .unset, .unset, .unset, .unset, .unset, .unset, .unset, .unset, .unset, .unset] [(.int (-2147483648 : Int32)), (.int p0)])) (Jvm.Stand.ldcInt X0 hx hown (mvT hZ (hw _ (List.mem_of_getElem? (i := 8) rfl))) (g := (mkF m 14 #[.val (.int p0), .val (.int p1), .val (.int p2), .val (.int p1), .val (.int z1), .unset, .unset, .unset, .unset, .unset, .unset, .unset, .unset, .unset, .unset] [(.int p0)])) rfl (hb hby at_14)) ?_
    refine own_by (V := s₁.setTop (mkF m 17 #[.val (.int p0), .val (.int p1), .val (.int p2), .val (.int p1), .val (.int z1), .unset, .unset, .unset, .unset, .unset, .unset, .unset, .unset, .unset, .unset] [(.int (p0 + (-2147483648 : Int32)))])) (fun t k => XS.iadd X0.here hx rfl (hb hby at_16) rfl k) ?_
    refine own_by (V := s₁.setTop (mkF m 18 #[.val (.int p0), .val (.int p1), .val (.int p2), .val (.int p1), .val (.int z1), .unset, .unset, .unset, .unset, .unset, .unset, .unset, .unset, .unset, .unset] [(.int p2), (.int (p0 + (-2147483648 : Int32)))])) (fun t k => XS.iloadN X0.here hx rfl (hb hby at_17) rfl  k) ?_
    refine own_by (V := s₁.setTop (mkF m 19 #[.val (.int p0), .val (.int p1), .val (.int p2), .val (.int p1), .val (.int z1), .unset, .unset, .unset, .unset, .unset, .unset, .unset, .unset, .unset, .unset] [(.int (2 : Int32)), (.int p2), (.int (p0 + (-2147483648 : Int32)))])) (fun t k => XS.iconst X0.here hx rfl (hb hby at_18) k) ?_
    refine own_by (V := s₁.setTop (mkF m 20 #[.val (.int p0), .val (.int p1), .val (.int p2), .val (.int p1), .val (.int z1), .unset, .unset, .unset, .unset, .unset, .unset, .unset, .unset, .unset, .unset] [(.int (p2 >>> ((2 : Int32) &&& 31))), (.int (p0 + (-2147483648 : Int32)))])) (fun t k => XS.ishr X0.here hx rfl (hb hby at_19) rfl k) ?_
    refine own_by (V := s₁.setTop (mkF m 21 #[.val (.int p0), .val (.int p1), .val (.int p2), .val (.int p1), .val (.int z1), .unset, .unset, .unset, .unset, .unset, .unset, .unset, .unset, .unset, .unset] [(.int (3 : Int32)), (.int (p2 >>> ((2 : Int32) &&& 31))), (.int (p0 + (-2147483648 : Int32)))])) (fun t k => XS.iconst X0.here hx rfl (hb hby at_20) k) ?_
    refine own_by (V := s₁.setTop (mkF m 22 #[.val (.int p0), .val (.int p1), .val (.int p2), .val (.int p1), .val (.int z1), .unset, .unset, .unset, .unset, .unset, .unset, .unset, .unset, .unset, .unset] [(.int ((p2 >>> ((2 : Int32) &&& 31)) &&& (3 : Int32))), (.int (p0 + (-2147483648 : Int32)))])) (fun t k => XS.iand X0.here hx rfl (hb hby at_21) rfl k) ?_
    refine own_by (V := s₁.setTop (mkF m 23 #[.val (.int p0), .val (.int p1), .val (.int p2), .val (.int p1), .val (.int z1), .unset, .unset, .unset, .unset, .unset, .unset, .unset, .unset, .unset, .unset] [(.int ((p0 + (-2147483648 : Int32)) + ((p2 >>> ((2 : Int32) &&& 31)) &&& (3 : Int32))))])) (fun t k => XS.iadd X0.here hx rfl (hb hby at_22) rfl k) ?_
    refine own_by (V := s₁.setTop (mkF m 24 #[.val (.int p0), .val (.int p1), .val (.int p2), .val (.int p1), .val (.int z1), .unset, .unset, .unset, .unset, .unset, .unset, .unset, .unset, .unset, .unset] [(.int (1 : Int32)), (.int ((p0 + (-2147483648 : Int32)) + ((p2 >>> ((2 : Int32) &&& 31)) &&& (3 : Int32))))])) (fun t k => XS.iconst X0.here hx rfl (hb hby at_23) k) ?_
    refine own_by (V := s₁.setTop (mkF m 25 #[.val (.int p0), .val (.int p1), .val (.int p2), .val (.int p1), .val (.int z1), .unset, .unset, .unset, .unset, .unset, .unset, .unset, .unset, .unset, .unset] [(.int (((p0 + (-2147483648 : Int32)) + ((p2 >>> ((2 : Int32) &&& 31)) &&& (3 : Int32))) - (1 : Int32)))])) (fun t k => XS.isub X0.here hx rfl (hb hby at_24) rfl k) ?_
    obtain ⟨z18, hz18⟩ : ∃ z : Int32, z = (((p0 + (-2147483648 : Int32)) + ((p2 >>> ((2 : Int32) &&& 31)) &&& (3 : Int32))) - (1 : Int32)) := ⟨_, rfl⟩
    rw [← hz18]
    refine own_by (V := s₁.setTop (mkF m 26 #[.val (.int p0), .val (.int p1), .val (.int p2), .val (.int z18), .val (.int z1), .unset, .unset, .unset, .unset, .unset, .unset, .unset, .unset, .unset, .unset] [])) (fun t k => XS.istoreN X0.here hx rfl (hb hby at_25) rfl (l' := #[.val (.int p0), .val (.int p1), .val (.int p2), .val (.int z18), .val (.int z1), .unset, .unset, .unset, .unset, .unset, .unset, .unset, .unset, .unset, .unset]) rfl k) ?_
    refine own_by (V := s₁.setTop (mkF m 37 #[.val (.int p0), .val (.int p1), .val (.int p2), .val (.int z18), .val (.int z1), .unset, .unset, .unset, .unset, .unset, .unset, .unset, .unset, .unset, .unset] [])) (fun t k => XS.goto X0.here hx rfl (pc0 := 26) (pc' := 37) rfl (hb hby at_26) (by decide) (by decide) k) ?_
    exact J2 s₁ _ z18 (X0.more (by decide) (by decide)) e0 N0 
  · refine own_by (V := s₁.setTop (mkF m 29 #[.val (.int p0), .val (.int p1), .val (.int p2), .val (.int p1), .val (.int z1), .unset, .unset, .unset, .unset, .unset, .unset, .unset, .unset, .unset, .unset] [])) (fun t k => XS.icmpYes X0.here hx rfl (pc0 := 10) (pc' := 29) rfl (hb hby at_10) rfl (feq hb10_17).2 (by decide) (by decide) k) ?_
    refine own_by (V := s₁.setTop (mkF m 31 #[.val (.int p0), .val (.int p1), .val (.int p2), .val (.int p1), .val (.int z1), .unset, .unset, .unset, .unset, .unset, .unset, .unset, .unset, .unset, .unset] [(.int z1)])) (fun t k => XS.iload X0.here hx rfl (hb hby at_29) rfl  k) ?_
    refine own_by (V := s₁.setTop (mkF m 32 #[.val (.int p0), .val (.int p1), .val (.int p2), .val (.int p1), .val (.int z1), .unset, .unset, .unset, .unset, .unset, .unset, .unset, .unset, .unset, .unset] [(.int (2 : Int32)), (.int z1)])) (fun t k => XS.iconst X0.here hx rfl (hb hby at_31) k) ?_
    by_cases hb32_19 : z1 = (2 : Int32)
    · refine own_by (V := s₁.setTop (mkF m 35 #[.val (.int p0), .val (.int p1), .val (.int p2), .val (.int p1), .val (.int z1), .unset, .unset, .unset, .unset, .unset, .unset, .unset, .unset, .unset, .unset] [])) (fun t k => XS.icmpNo X0.here hx rfl (hb hby at_32) rfl (teq hb32_19).2 k) ?_
      refine own_by (V := s₁.setTop (mkF m 36 #[.val (.int p0), .val (.int p1), .val (.int p2), .val (.int p1), .val (.int z1), .unset, .unset, .unset, .unset, .unset, .unset, .unset, .unset, .unset, .unset] [(.int p0)])) (fun t k => XS.iloadN X0.here hx rfl (hb hby at_35) rfl  k) ?_
      refine own_by (V := s₁.setTop (mkF m 37 #[.val (.int p0), .val (.int p1), .val (.int p2), .val (.int p0), .val (.int z1), .unset, .unset, .unset, .unset, .unset, .unset, .unset, .unset, .unset, .unset] [])) (fun t k => XS.istoreN X0.here hx rfl (hb hby at_36) rfl (l' := #[.val (.int p0), .val (.int p1), .val (.int p2), .val (.int p0), .val (.int z1), .unset, .unset, .unset, .unset, .unset, .unset, .unset, .unset, .unset, .unset]) rfl k) ?_
      exact J2 s₁ _ p0 (X0.more (by decide) (by decide)) e0 N0 
    · refine own_by (V := s₁.setTop (mkF m 37 #[.val (.int p0), .val (.int p1), .val (.int p2), .val (.int p1), .val (.int z1), .unset, .unset, .unset, .unset, .unset, .unset, .unset, .unset, .unset, .unset] [])) (fun t k => XS.icmpYes X0.here hx rfl (pc0 := 32) (pc' := 37) rfl (hb hby at_32) rfl (feq hb32_19).2 (by decide) (by decide) k) ?_
      exact J2 s₁ _ p1 (X0.more (by decide) (by decide)) e0 N0 
set_option maxRecDepth 65536 in
set_option maxHeartbeats 40000000 in
theorem own_comes {Post : Tables → Env → Array Value → State → Outcome → State → Prop} (hpost : ∀ tb e args s v u, (limb_1_1.after args s (.returned v) u = true ∧ limb_1_2.after args s (.returned v) u = true ∧ True) → FrameEnd s (.returned v) u (Jvm.fieldLocs frame_1_writes args s ++ Jvm.arrayLocs frame_1_arrays args s ++ Jvm.staticLocs frame_1_statics s) 0 0 → Post tb e args s (.returned v) u) :
    ArmFor flags0 classFile x code maxLocals ret World_1 tables_1 room_1 Calls_1 rest_1 Pre_1 Post := by
  intro l hfl _ _ p e ha hc hk s m args below hf hA hF happ hP
  obtain ⟨hcalls, hrest, hpre⟩ := hP
  obtain ⟨-, -, -, hnamed, -, -, -, hat⟩ := (Spec.applies_iff hf).mp happ
  obtain ⟨hg, hn⟩ := and_e (Cond.before_iff.mp (show (Jvm.Cond.and given_1 narrow_1).before args s = true from hpre))
  obtain ⟨hc0, hr0⟩ := and_e hg
  obtain ⟨hv0, hr1⟩ := and_e hr0
  obtain ⟨hv1, hr2⟩ := and_e hr1
  have hv2 := hr2
  obtain ⟨w0, w1, w2, rfl⟩ : ∃ w0 w1 w2 : Value, args = #[w0, w1, w2] := by
    have hs : args.size = 3 := by simpa [Cond.value, given_1] using hc0
    obtain ⟨L⟩ := args
    match L, hs with
    | [w0, w1, w2], _ => exact ⟨w0, w1, w2, rfl⟩
  have hw := fun d (hd : d ∈ tables_1) => atoms_spec (ws := Jvm.Cond.code x code maxLocals ret :: tables_1) hat d (List.mem_cons_of_mem _ hd)
  have hfit : Fit s := fun {y c} hc i hi => by
    obtain ⟨ha, rfl⟩ := Array.getElem?_eq_some_iff.mp hc
    have q := List.all_eq_true.mp ((Array.all_eq_true_iff_forall_mem.mp hF) _ (Array.getElem_mem ha)) i (List.mem_range.mpr hi)
    simpa [Array.getElem?_eq_getElem hi] using q
  obtain ⟨i0, ei0⟩ := is_v hv0
  obtain rfl : w0 = (.int i0) := Option.some.inj ei0
  obtain ⟨i1, ei1⟩ := is_v hv1
  obtain rfl : w1 = (.int i1) := Option.some.inj ei1
  obtain ⟨i2, ei2⟩ := is_v hv2
  obtain rfl : w2 = (.int i2) := Option.some.inj ei2
  obtain ⟨n, o, h1, h2, h3, _, L, rfl, ⟨rfl, N⟩, hq⟩ := own_rm0 l s _ hw tables_1 i0 i1 i2  s.heap s.heap.size  p e ha hc hk s m _ below hf ((Spec.applies_iff_loose hf).mp happ).1 ⟨rfl, State.Warmed39.refl s, rfl⟩ trivial
  refine ⟨n, _, h1, h2, h3, hpost _ _ _ _ _ _ ⟨Cond.after_iff.mpr rfl, Cond.after_iff.mpr (eq_i res_at (Term.int_eval (1)) rfl), trivial⟩ ⟨hq.1, hq.2.1, (hq.2.2.sift fun y hy => Or.inr (N y hy)).mono (by decide) (by decide)⟩⟩
theorem main_1_1 : Claimed_1_1 := own_comes fun _ _ _ _ _ _ h hF => ⟨h.1, hF⟩
theorem main_1_2 : Claimed_1_2 := own_comes fun _ _ _ _ _ _ h hF => ⟨h.2.1, hF⟩

end Jvm.Pilot.@@N@@
namespace Jvm.Pilot.@@N@@
open Jvm Jvm.ClassFile Sem Op Lib Jvm.Free Jvm.Stand Jvm.Pilot.@@N@@.Jvm.D
/-! MADE BY PROGRAM (witnessworld.py) out of the Statement's table words and the real class files: 9 classes; the members and pool entries that the words name. The judged class is class 1, her method 1. -/
namespace start1
open Jvm.ClassFile
def u (s : String) : CpInfo := .utf8 (stringToUtf16 s)
/-- a pool by its gaps: so many unusable entries, then the entry; so many at the end -/
def gap : Nat → List CpInfo → List CpInfo
  | 0, r => r
  | n + 1, r => .unusable :: gap n r
def poolList (es : List (Nat × CpInfo)) (last : Nat) : List CpInfo := es.foldr (fun e r => gap e.1 (e.2 :: r)) (gap last [])
def pool (es : List (Nat × CpInfo)) (last : Nat) : Array CpInfo := ⟨poolList es last⟩
def fileOf (pool : Array CpInfo) (this : Nat) (attrs : Array Attribute := #[]) (ms : Array MethodInfo := #[]) (fl : Nat := 33) (sup : Nat := 0) (ifs : Array Nat := #[]) (fds : Array FieldInfo := #[]) : ClassFile where
  minorVersion := 0
  majorVersion := 65
  constantPool := pool
  accessFlags := fl
  thisClass := this
  superClass := sup
  interfaces := ifs
  fields := fds
  methods := ms
  attributes := attrs
def plain (name : String) (sup : Option ClassId) : Class where
  name := name
  kind := .ordinary
  loader := none
  accessFlags := 33
  super := sup
  interfaces := #[]
  cf := none
  fields := #[]
  methods := #[]
  instanceTypes := #[]
  staticTypes := #[]
  resolved := #[]
  callSites := []
  init := .initialized
  statics := none
  mirror := none

def pool0 : Array CpInfo := pool [(5, u "<init>"), (0, u "()V"), (1, .class_ 10), (1, u "java/lang/Object")] 113

def k0m0 : Method := { name := "<init>", desc := "()V", sig := { parameters := [], returnType := none }, accessFlags := 1, code := none }
/-- java/lang/Object -/
def k0 : Class := { plain "java/lang/Object" none with
  accessFlags := 33
  interfaces := #[]
  cf := some (fileOf pool0 8 #[] #[{ accessFlags := 1, nameIndex := 5, descriptorIndex := 6, attributes := #[] }] 33 0 #[] #[])
  fields := #[]
  methods := #[k0m0]
  instanceTypes := #[]
  staticTypes := #[]
  resolved := Array.replicate 124 none
  statics := none }

def pool1 : Array CpInfo := pool [(2, .class_ 4), (1, u "java/lang/Object"), (0, u "<init>"), (0, u "()V"), (2, .integer 2147483648), (0, .methodref 11 12), (0, .class_ 13), (0, .nameAndType 14 15), (0, u "com/example/balcon/balcon/model/SequenceNumber"), (0, u "behind"), (0, u "(II)J"), (0, .long 4294967295), (1, .long 4294967296), (1, .long 2147483648), (1, .class_ 23), (0, u "com/example/balcon/balcon/model/SequenceNumberBehindPinLaw"), (2, u "law"), (0, u "(III)Z")] 3

def k1m0 : Method := { name := "<init>", desc := "()V", sig := { parameters := [], returnType := none }, accessFlags := 1, code := none }
def k1c1 : Code := { maxStack := 4, maxLocals := 15, code := code, exceptionTable := #[], attributes := #[] }
def k1m1 : Method := { name := "law", desc := "(III)Z", sig := { parameters := [.int, .int, .int], returnType := some .boolean }, accessFlags := 9, code := some k1c1 }
/-- com/example/balcon/balcon/model/SequenceNumberBehindPinLaw -/
def k1 : Class := { plain "com/example/balcon/balcon/model/SequenceNumberBehindPinLaw" (some 0) with
  accessFlags := 49
  interfaces := #[]
  cf := some (fileOf pool1 22 #[] #[{ accessFlags := 1, nameIndex := 5, descriptorIndex := 6, attributes := #[] }, { accessFlags := 9, nameIndex := 26, descriptorIndex := 27, attributes := #[] }] 49 2 #[] #[])
  fields := #[]
  methods := #[k1m0, k1m1]
  instanceTypes := #[]
  staticTypes := #[]
  resolved := Array.replicate 31 none
  statics := none }

def pool2 : Array CpInfo := pool [(2, .class_ 4), (1, u "java/lang/Object"), (0, u "<init>"), (0, u "()V"), (2, .integer 2147483648), (0, .long 2147483648), (5, .class_ 17), (0, u "com/example/balcon/balcon/model/SequenceNumber"), (0, u "FIRST"), (0, u "I"), (4, u "behind"), (0, u "(II)J")] 4

def k2m0 : Method := { name := "<init>", desc := "()V", sig := { parameters := [], returnType := none }, accessFlags := 2, code := none }
def k2c1 : Code := { maxStack := 2, maxLocals := 3, code := prog_20_method_2_code, exceptionTable := #[], attributes := #[] }
def k2m1 : Method := { name := "behind", desc := "(II)J", sig := { parameters := [.int, .int], returnType := some .long }, accessFlags := 9, code := some k2c1 }
/-- com/example/balcon/balcon/model/SequenceNumber -/
def k2 : Class := { plain "com/example/balcon/balcon/model/SequenceNumber" (some 0) with
  accessFlags := 49
  interfaces := #[]
  cf := some (fileOf pool2 16 #[] #[{ accessFlags := 2, nameIndex := 5, descriptorIndex := 6, attributes := #[] }, { accessFlags := 9, nameIndex := 24, descriptorIndex := 25, attributes := #[] }] 49 2 #[] #[{ accessFlags := 25, nameIndex := 18, descriptorIndex := 19, attributes := #[] }])
  fields := #[{ name := "FIRST", type := .int, accessFlags := 25, slot := 0, constantValue := 0 }]
  methods := #[k2m0, k2m1]
  instanceTypes := #[]
  staticTypes := #[.int]
  resolved := Array.replicate 30 none
  statics := none }

def pool3 : Array CpInfo := pool [(1, u "java/lang/Cloneable"), (0, .class_ 1), (0, u "java/lang/Object"), (0, .class_ 3)] 3

/-- java/lang/Cloneable -/
def k3 : Class := { plain "java/lang/Cloneable" (some 0) with
  accessFlags := 1537
  interfaces := #[]
  cf := some (fileOf pool3 2 #[] #[] 1537 4 #[] #[])
  fields := #[]
  methods := #[]
  instanceTypes := #[]
  staticTypes := #[]
  resolved := Array.replicate 8 none
  statics := none }

def pool4 : Array CpInfo := pool [(1, u "java/io/Serializable"), (0, .class_ 1), (0, u "java/lang/Object"), (0, .class_ 3)] 3

/-- java/io/Serializable -/
def k4 : Class := { plain "java/io/Serializable" (some 0) with
  accessFlags := 1537
  interfaces := #[]
  cf := some (fileOf pool4 2 #[] #[] 1537 4 #[] #[])
  fields := #[]
  methods := #[]
  instanceTypes := #[]
  staticTypes := #[]
  resolved := Array.replicate 8 none
  statics := none }

/-- the primitive byte -/
def k5 : Class := { plain "byte" none with kind := .primitive 'B', accessFlags := 0x411 }
/-- [B -/
def k6 : Class := { plain "[B" (some 0) with kind := .array 5 .byte, interfaces := #[3, 4], accessFlags := 1041 }

/-- the primitive int -/
def k7 : Class := { plain "int" none with kind := .primitive 'I', accessFlags := 0x411 }
/-- [I -/
def k8 : Class := { plain "[I" (some 0) with kind := .array 7 .int, interfaces := #[3, 4], accessFlags := 1041 }

def heap : Heap := #[]
def classes : Array Class := #[k0, k1, k2, k3, k4, k5, k6, k7, k8]
def interned : List (Array UInt16 × Addr) := []
def slotsUsed : Nat := 0
def theMethod : MethodId := ⟨1, 1⟩
def args0 : Array Value := #[.int 5, .int 7, .int 3]
def aboutOver (below : List Frame) : State where
  vm := { classes := classes, interned := interned.toArray }
  heap := heap
  slotsUsed := slotsUsed
  threads := #[{ frames := .invoking theMethod args0 :: below }]
def below0 : List Frame := [.native { method := ⟨0, 0⟩, args := #[] }]
def about1 : State := aboutOver below0
def p0 : Program := .bare "" "" ""
def e0 : Env := launch0.env 0 0 0
theorem w_frames : about1.frames = Frame.invoking theMethod args0 :: below0 := rfl
set_option maxRecDepth 65536 in
theorem w_args : argsFit about1.vm theMethod args0 = true := by decide +kernel
set_option maxRecDepth 65536 in
theorem w_heap : heapFits about1 = true := by decide +kernel
set_option maxRecDepth 65536 in
theorem w_runnable : about1.curStatus? = some .runnable := by decide +kernel
set_option maxRecDepth 65536 in
theorem w_alone : about1.alone = true := by decide +kernel
set_option maxRecDepth 65536 in
theorem w_named : about1.methodNamed? x = some theMethod := by decide +kernel
set_option maxRecDepth 65536 in
theorem w_hears : about1.hears theMethod below0 = true := by decide +kernel
set_option maxRecDepth 65536 in
theorem w_ripe : about1.ripe theMethod args0 below0 = true := by decide +kernel
theorem w_running : about1.status = .running := rfl
set_option maxRecDepth 65536 in
theorem w_room : about1.hasRoom e0.platform room_1 = true :=
  launch0.hasRoom_least _ room_1 (by decide +kernel) (by decide +kernel) (by decide +kernel) (by decide +kernel) (by decide +kernel) (by decide +kernel)
theorem allAtoms_all (ts : List Jvm.Cond) (a : Array Jvm.Value) (st : Jvm.State) : (allAtoms ts).before a st = ts.all (fun c => c.before a st) := by
  induction ts with
  | nil => rfl
  | cons c t ih =>
    show (Jvm.Cond.and c (allAtoms t)).before a st = _
    rw [Jvm.Cond.before_and, ih, List.all_cons]
def words1 : List Jvm.Cond := Jvm.Cond.code x code maxLocals ret :: tables_1
/-- a 'code' word, met by the world's own term for the bytes: nothing is compared byte by byte -/
theorem code_word {y : MethodName} {bytes : ByteArray} {mx : Nat} {rt : Option FieldType} {a : Array Value} {s : State} {m : MethodId} {meth : Method} {c : Code} (h1 : s.methodNamed? y = some m) (h2 : s.vm.method? m = some meth) (h3 : meth.code = some c) (h4 : c.code = bytes)
    (h5 : (c.maxLocals == mx && c.exceptionTable.isEmpty && decide (c.maxStack ≤ mostOperands) && decide (meth.sig.returnType = rt) && !meth.locks && decide (parseMethodDescriptor y.desc = some meth.sig)) = true) : (Jvm.Cond.code y bytes mx rt).before a s = true := by
  simp only [Bool.and_eq_true, beq_iff_eq, Bool.not_eq_true', decide_eq_true_eq] at h5
  obtain ⟨⟨⟨⟨⟨g1, g2⟩, g3⟩, g4⟩, g5⟩, g6⟩ := h5
  simp [Cond.before, Cond.holds, Cond.value, h1, h2, h3, h4, g1, g2, g3, g4, g5, g6]
def isCode : Jvm.Cond → Bool
  | .code _ _ _ _ => true
  | _ => false
theorem all_split {L : List Jvm.Cond} {P : Jvm.Cond → Bool} (h1 : L.all (fun c => isCode c || P c) = true) (h2 : ∀ c ∈ L.filter isCode, P c = true) : L.all P = true := by
  refine List.all_eq_true.mpr fun c hc => ?_
  have h := List.all_eq_true.mp h1 c hc
  rcases Bool.eq_false_or_eq_true (isCode c) with hi | hi
  · exact h2 c (List.mem_filter.mpr ⟨hc, hi⟩)
  · simpa [hi] using h
set_option maxRecDepth 65536 in
theorem w_c0 : (Jvm.Cond.code x code maxLocals ret).before args0 about1 = true := code_word (m := ⟨1, 1⟩) (meth := k1m1) (c := k1c1) (by decide +kernel) rfl rfl rfl (by decide +kernel)
set_option maxRecDepth 65536 in
theorem w_c1 : (Jvm.Cond.code ({ cls := "com/example/balcon/balcon/model/SequenceNumber", name := "behind", desc := "(II)J" } : Jvm.MethodName) prog_20_method_2_code (3 : Nat) (Option.some Jvm.ClassFile.FieldType.long)).before args0 about1 = true := code_word (m := ⟨2, 1⟩) (meth := k2m1) (c := k2c1) (by decide +kernel) rfl rfl rfl (by decide +kernel)
def codes1 : List Jvm.Cond := [Jvm.Cond.code x code maxLocals ret, Jvm.Cond.code ({ cls := "com/example/balcon/balcon/model/SequenceNumber", name := "behind", desc := "(II)J" } : Jvm.MethodName) prog_20_method_2_code (3 : Nat) (Option.some Jvm.ClassFile.FieldType.long)]
set_option maxRecDepth 65536 in
theorem codes_eq : words1.filter isCode = codes1 := rfl
theorem w_codes : ∀ c ∈ words1.filter isCode, c.before args0 about1 = true := by
  rw [codes_eq]
  intro c hc
  simp only [codes1, List.mem_cons, List.not_mem_nil, or_false] at hc
  rcases hc with rfl | rfl
  · exact w_c0
  · exact w_c1
set_option maxRecDepth 65536 in
theorem w_t1 : words1.all (fun c => isCode c || c.before args0 about1) = true := by decide +kernel
theorem w_tables : (allAtoms (Jvm.Cond.code x code maxLocals ret :: tables_1)).before args0 about1 = true := by
  rw [allAtoms_all]
  show words1.all (fun c => c.before args0 about1) = true
  refine all_split ?_ w_codes
  rw [w_t1]
set_option maxRecDepth 65536 in
theorem w_case : (Jvm.Cond.and given_1 narrow_1).before args0 about1 = true := by decide +kernel
theorem w_applies : (headSpec (Jvm.Cond.code x code maxLocals ret :: tables_1) room_1).applies x e0.platform about1 = true :=
  (Spec.applies_iff w_frames).mpr ⟨w_running, w_runnable, w_alone, w_named, w_hears, w_ripe, w_room, w_tables⟩
theorem atStart : AtStart classFile x code maxLocals ret World_1 tables_1 room_1 Calls_1 rest_1 Pre_1 launch0 p0 e0 about1 theMethod args0 below0 :=
  ⟨lists_1, trivial, launch0.admits_env _ _ _, launch0.least_env, fairChoices_fair.cas, fairChoices_fair.clock, w_frames, w_args, w_heap, w_applies, trivial, trivial, w_case⟩
end start1
theorem witness_1 : WitnessClaimed_1 := ⟨start1.p0, start1.e0, start1.about1, start1.theMethod, start1.args0, start1.below0, start1.atStart⟩
end Jvm.Pilot.@@N@@
