import JvmDerived
import JvmDerived.Pilot.@@N@@Statement
import JvmDerived.Pilot.@@N@@Code
set_option linter.unusedVariables false
set_option linter.unusedSimpArgs false
namespace Jvm.Pilot.@@N@@
open Jvm Jvm.ClassFile Sem Op Lib Jvm.Free Jvm.Stand Jvm.LawKit Jvm.RoadKit Bundle Jvm.Pilot.@@N@@.Jvm.D
section OwnKit
variable {p : Program} {l : Launch} {e : Env} {R : Room} {s : State} {m : MethodId} {args : Array Value} {below : List Frame} {meth : Method} {c : Code} {T U W : State} {locs : List Loc} {cells slots : Nat} {Q : Option Value → Heap → List Loc → Prop} {K N : Nat}
/-- from U the body comes to its end, and Q holds there -/
def own_Ends (p : Program) (e : Env) (below : List Frame) (s : State) (Q : Option Value → Heap → List Loc → Prop) (K N : Nat) (U : State) : Prop :=
  ∃ s₂ o, Steps p.tables e below U s₂ ∧ s₂.status = .running ∧ Ended s₂ below o ∧ ∃ v L, o = .returned v ∧ Q v s₂.heap L ∧ FrameEnd s o s₂ L K N
theorem own_by {V : State} (h : ∀ t, Steps p.tables e below V t → Steps p.tables e below U t) (k : own_Ends p e below s Q K N V) : own_Ends p e below s Q K N U := by
  obtain ⟨s2, o, h1, h2⟩ := k; exact ⟨s2, o, h _ h1, h2⟩
theorem own_ret0 (X : Stand p l e R s m args below meth c T locs cells slots) (hx : p.tables.exec = Jvm.exec) (hlk : meth.locks = false) {h : Heap} (eT : T.heap = h) {pc : Nat} {Ls : Array Slot} (hret : meth.sig.returnType = none)
    (hd : decode c.code pc = .ok (.return_, 1)) (hQ : Q none h locs) (hK : cells ≤ K) (hN : slots ≤ N) : own_Ends p e below s Q K N (T.setTop (mkF m pc Ls [])) := by
  obtain ⟨fs, hr, hrun, hended, hW, hsame⟩ := X.leave (v := none) (fun _ => rfl) hlk
  exact ⟨_, _, X.returnOut hx hret hd hr, hrun, hended, _, _, rfl, (by subst eT; exact hQ), ⟨_, rfl⟩, hW, hsame.mono hK hN⟩
theorem own_retI (X : Stand p l e R s m args below meth c T locs cells slots) (hx : p.tables.exec = Jvm.exec) (hlk : meth.locks = false) {h : Heap} (eT : T.heap = h) {pc : Nat} {Ls : Array Slot} {z : Int32} {rest : List Value} (hret : meth.sig.returnType = some .int)
    (hd : decode c.code pc = .ok (.ireturn, 1)) (hQ : Q (some (.int z)) h locs) (hK : cells ≤ K) (hN : slots ≤ N) : own_Ends p e below s Q K N (T.setTop (mkF m pc Ls (.int z :: rest))) := by
  obtain ⟨fs, hr, hrun, hended, hW, hsame⟩ := X.leave (v := some (.int z)) (fun h => by rw [hret] at h; cases h) hlk
  exact ⟨_, _, retOut X hx hret rfl (Or.inl ⟨rfl, Or.inl rfl, z, rfl⟩) hd hr, hrun, hended, _, _, rfl, (by subst eT; exact hQ), ⟨_, rfl⟩, hW, hsame.mono hK hN⟩
theorem own_retN (X : Stand p l e R s m args below meth c T locs cells slots) (hx : p.tables.exec = Jvm.exec) (hlk : meth.locks = false) {h : Heap} (eT : T.heap = h) {pc : Nat} {Ls : Array Slot} {z : Int32} {t : FieldType} {rest : List Value} (hret : meth.sig.returnType = some t) (ht : t = .boolean ∨ t = .byte ∨ t = .char ∨ t = .short) (hz : nar t z = z)
    (hd : decode c.code pc = .ok (.ireturn, 1)) (hQ : Q (some (.int z)) h locs) (hK : cells ≤ K) (hN : slots ≤ N) : own_Ends p e below s Q K N (T.setTop (mkF m pc Ls (.int z :: rest))) := by
  obtain ⟨fs, hr, hrun, hended, hW, hsame⟩ := X.leave (v := some (.int z)) (fun h => by rw [hret] at h; cases h) hlk
  exact ⟨_, _, retN X hx hret ht hd (by rw [hz]; exact hr), hrun, hended, _, _, rfl, (by subst eT; exact hQ), ⟨_, rfl⟩, hW, hsame.mono hK hN⟩
theorem own_retL (X : Stand p l e R s m args below meth c T locs cells slots) (hx : p.tables.exec = Jvm.exec) (hlk : meth.locks = false) {h : Heap} (eT : T.heap = h) {pc : Nat} {Ls : Array Slot} {z : Int64} {rest : List Value} (hret : meth.sig.returnType = some .long)
    (hd : decode c.code pc = .ok (.lreturn, 1)) (hQ : Q (some (.long z)) h locs) (hK : cells ≤ K) (hN : slots ≤ N) : own_Ends p e below s Q K N (T.setTop (mkF m pc Ls (.long z :: rest))) := by
  obtain ⟨fs, hr, hrun, hended, hW, hsame⟩ := X.leave (v := some (.long z)) (fun h => by rw [hret] at h; cases h) hlk
  exact ⟨_, _, retOut X hx hret rfl (Or.inr (Or.inl ⟨rfl, rfl, z, rfl⟩)) hd hr, hrun, hended, _, _, rfl, (by subst eT; exact hQ), ⟨_, rfl⟩, hW, hsame.mono hK hN⟩
theorem own_retA (X : Stand p l e R s m args below meth c T locs cells slots) (hx : p.tables.exec = Jvm.exec) (hlk : meth.locks = false) {h : Heap} (eT : T.heap = h) {pc : Nat} {Ls : Array Slot} {w : Value} {t : FieldType} {rest : List Value} (hw : w.isRef = true) (hret : meth.sig.returnType = some t) (ht : t.isReference = true)
    (hd : decode c.code pc = .ok (.areturn, 1)) (hQ : Q (some w) h locs) (hK : cells ≤ K) (hN : slots ≤ N) : own_Ends p e below s Q K N (T.setTop (mkF m pc Ls (w :: rest))) := by
  obtain ⟨fs, hr, hrun, hended, hW, hsame⟩ := X.leave (v := some w) (fun h => by rw [hret] at h; cases h) hlk
  exact ⟨_, _, retOut X hx hret (by cases t <;> cases w <;> first | rfl | (simp [FieldType.isReference] at ht) | (simp [Value.isRef] at hw)) (Or.inr (Or.inr (Or.inr (Or.inr ⟨rfl, ht, hw⟩)))) hd hr, hrun, hended, _, _, rfl, (by subst eT; exact hQ), ⟨_, rfl⟩, hW, hsame.mono hK hN⟩

theorem own_neg1 : (-1 : Int32).toInt = -1 := rfl
end OwnKit
theorem own_selPriv {s : State} {args args' : Array Value} {y : MethodName} {n : Nat} (wi : (Cond.instantiable y.cls n).before args s = true) (wp : (Cond.privateMethod y).before args' s = true) (wm : (Cond.instanceMethod y).before args s = true) (hy : y.cls ≠ "java/lang/invoke/MethodHandle" ∧ y.cls ≠ "java/lang/invoke/VarHandle") : (Cond.selects y.cls y y).before args s = true := by
  obtain ⟨c, k, h1, h2, h3, h4, -⟩ := Cond.instantiable_spec wi
  exact selects_self_of_private h1 h2 (Bool.or_eq_false_iff.mp h4).1 (Cond.privateMethod_at wp) wm hy
section OwnWords
variable {args : Array Value} {s : State} {t : Term} {x : Addr} {C n d : String} {cl : Cell} {ty : FieldType}
theorem own_evI {k : Int32} (h : (Cond.eq t (.int k)).value args s none s [] = some true) : t.eval args s none [] s = some (.int k) := by
  obtain ⟨y, z, h1, h2, h3, -⟩ := cmp_v (Or.inl h)
  have h2' : z = .int k := (Option.some.inj h2).symm
  subst h2'
  cases y with
  | int v =>
    have q : v = k := by simpa [Cond.value, h1, Term.eval] using h
    rw [h1, q]
  | _ => simp [Kin, Value.isRef] at h3
theorem own_fldS {k : Int32} (ht : t.eval args s none [] s = some (.ref x)) (h : (Cond.eq (.field t C n d) (.int k)).value args s none s [] = some true) : Fld s s.heap x C n d (.int k) :=
  Fld.start ((fld_at ht).symm.trans (own_evI h))
theorem own_lenEv {k : Int32} (ev : t.eval args s none [] s = some (.ref x)) (A : Arr s s.heap x cl ty) (h : (Cond.eq (.length t) (.int k)).value args s none s [] = some true) : cl.slots.size.toInt32 = k ∧ cl.slots.size < 2 ^ 31 := by
  have e := own_evI h
  have hat := A.fin (Vm.Alike.refl _)
  simp only [Term.eval, ev, hat, Option.bind_eq_bind, Option.bind_some] at e
  split at e
  · rename_i hlt
    exact ⟨Value.int.inj (Option.some.inj e), hlt⟩
  · cases e
theorem own_len256 (ev : t.eval args s none [] s = some (.ref x)) (A : Arr s s.heap x cl ty) (h : (Cond.eq (.length t) (.int 256)).value args s none s [] = some true) : cl.slots.size = 256 := by
  obtain ⟨h1, h2⟩ := own_lenEv ev A h
  have q := len_toInt h2
  rw [h1] at q
  have q' : (256 : Int32).toInt = 256 := rfl
  omega
theorem own_cacheEl {K : String} {E : Jvm.Cond} (ev : (Term.static K n d).eval args s none [] s = some (.ref x)) (A : Arr s s.heap x cl ty) (hsz : cl.slots.size = 256) (h : (Cond.all (.static K n d) (.and (.exactly (.elem (.static K n d) (.index 0)) C) E)).value args s none s [] = some true) : ∀ j, j < 256 → ∃ b, cl.slots[j]? = some (.ref b) ∧ Exa s s.heap b C := by
  intro j hj
  have hat := A.fin (Vm.Alike.refl _)
  obtain ⟨h1, -⟩ := and_e (Cond.all_elim ev hat h j (by rw [hsz]; exact hj))
  obtain ⟨b, eb⟩ := exa_v h1
  have evj : (Term.static K n d).eval args s none [j] s = some (.ref x) := ev
  have q := (elem_in eb evj (Term.index_eval j) A.1).2
  rw [show j.toInt32 = Int32.ofNat j from rfl, Int32.toNatClampNeg_ofNat_of_lt (by omega)] at q
  exact ⟨b, q, exa_at eb h1⟩
theorem own_elemI {i k : Int32} (ev : t.eval args s none [] s = some (.ref x)) (A : Arr s s.heap x cl ty) (h : (Cond.eq (.elem t (.int i)) (.int k)).value args s none s [] = some true) : ¬ (i < 0 ∨ cl.slots.size ≤ i.toNatClampNeg) ∧ cl.slots[i.toNatClampNeg]? = some (.int k) :=
  elem_in (own_evI h) ev (Term.int_eval i) A.1
end OwnWords

theorem own_d_prog_74_4_0 : decode prog_74_method_4_code 0 = .ok (.iload_n 0, 1) := by decide +kernel
theorem own_d_prog_74_4_1 : decode prog_74_method_4_code 1 = .ok (.ldc 35, 2) := by decide +kernel
theorem own_d_prog_74_4_3 : decode prog_74_method_4_code 3 = .ok (.imul, 1) := by decide +kernel
theorem own_d_prog_74_4_4 : decode prog_74_method_4_code 4 = .ok (.istore_n 1, 1) := by decide +kernel
theorem own_d_prog_74_4_5 : decode prog_74_method_4_code 5 = .ok (.iload_n 1, 1) := by decide +kernel
theorem own_d_prog_74_4_6 : decode prog_74_method_4_code 6 = .ok (.iload_n 1, 1) := by decide +kernel
theorem own_d_prog_74_4_7 : decode prog_74_method_4_code 7 = .ok (.bipush 16, 2) := by decide +kernel
theorem own_d_prog_74_4_9 : decode prog_74_method_4_code 9 = .ok (.iushr, 1) := by decide +kernel
theorem own_d_prog_74_4_10 : decode prog_74_method_4_code 10 = .ok (.ixor, 1) := by decide +kernel
theorem own_d_prog_74_4_11 : decode prog_74_method_4_code 11 = .ok (.ireturn, 1) := by decide +kernel
theorem own_pd0 : parseMethodDescriptor "(I)I" = some ⟨[.int], some .int⟩ := by decide +kernel
theorem own_pn0 : plainName "com/example/forec/forec/Hashes" = true := by first | (simp [plainName, overriddenIn]; done) | decide +kernel
theorem own_pn1 : plainName "com/example/forec/forec/HashesScrambledPinLaw" = true := by first | (simp [plainName, overriddenIn]; done) | decide +kernel
def own_fold (y : Int32) : Int32 := y ^^^ ((y.toUInt32 >>> ((16 : Int32) &&& 31).toUInt32).toInt32)
def own_scr (x : Int32) : Int32 := own_fold (x * (-1640531527 : Int32))
theorem own_fold2 (y : Int32) : own_fold (own_fold y) = y := by
  have hs : (y : Int32) → (own_fold y).toBitVec = y.toBitVec ^^^ (y.toBitVec >>> 16) := fun y => by
    simp [own_fold, show (((16 : Int32) &&& 31).toUInt32) = 16 from by decide]
  apply Int32.toBitVec_inj.mp
  rw [hs, hs, BitVec.ushiftRight_xor_distrib, ← BitVec.shiftRight_add]
  have h0 : y.toBitVec >>> (16 + 16) = 0 := BitVec.ushiftRight_eq_zero (by decide)
  rw [h0]
  simp [BitVec.xor_assoc]
theorem own_law (x : Int32) : own_fold (own_scr x) * (340573321 : Int32) = x := by
  rw [own_scr, own_fold2, Int32.mul_assoc, show ((-1640531527 : Int32) * 340573321) = 1 from by decide, Int32.mul_one]
def own_Q_own_rm1 (Z : State) (p0 : Int32) (h0 : Heap) (n0 : Nat) : Option Value → Heap → List Loc → Prop := fun v h L => v = some (.int (own_scr p0)) ∧ Fr n0 L ∧ h = h0
theorem own_ef_own_rm1 (m : MethodId) (x0 : Int32) : entryFrame m #[(.int x0)] 2 = mkF m 0 #[.val (.int x0), .unset] [] := by first | (simp [entryFrame, mkF, argsToLocals, Value.category]; done) | rfl
set_option maxRecDepth 65536 in
set_option maxHeartbeats 40000000 in
theorem own_rm1 (l : Launch) (Z : State) (a0 : Array Value) (hw : ∀ d ∈ tables_1, d.before a0 Z = true) (ws : List Jvm.Cond) (p0 : Int32) (h0 : Heap) (n0 : Nat) :
    MetFree l (⟨"com/example/forec/forec/Hashes", "scrambled", "(I)I"⟩ : MethodName) (head1 (Jvm.Cond.code (⟨"com/example/forec/forec/Hashes", "scrambled", "(I)I"⟩ : MethodName) prog_74_method_4_code 2 (some .int) :: ws) ({ frames := 0, cells := 0, slots := 0, locals := 0 } : Room)) (fun a U => a = #[(.int p0)] ∧ Z.Warmed39 U.vm ∧ U.heap = h0) (fun _ _ _ _ _ => True) (fun _ U o U' => ∃ v L, o = .returned v ∧ (own_Q_own_rm1 Z p0 h0 n0) v U'.heap L ∧ FrameEnd U o U' L ({ frames := 0, cells := 0, slots := 0, locals := 0 } : Room).cells ({ frames := 0, cells := 0, slots := 0, locals := 0 } : Room).slots) := by
  refine MetFree.of_bodySF (plainFor_of_name own_pn0) hisR ?_
  intro p e s m args below meth c s₁ Bd hml0 hP hK
  obtain ⟨rfl, hZ, hh⟩ := hP
  have hx := Bd.exec
  have hby := Bd.bytes
  have hml : c.maxLocals = 2 := hml0
  have hown : s.vm.findClass "com/example/forec/forec/Hashes" = some m.cls := findClass_of_methodNamed Bd.named
  have hnm := (name_of_methodNamed Bd.named Bd.method).1
  have hlk : meth.locks = false := BodyLoose.notSynchronized Bd
  have X0 : Stand p l e ({ frames := 0, cells := 0, slots := 0, locals := 0 } : Room) s m #[(.int p0)] below meth c s₁ [] 0 0 := Stand.of_body Bd
  have e0 : s₁.heap = h0 := by rw [← hh, Bd.state]; rfl
  have N0 := Fr.nil n0
  show own_Ends p e below s (own_Q_own_rm1 Z p0 h0 n0) ({ frames := 0, cells := 0, slots := 0, locals := 0 } : Room).cells ({ frames := 0, cells := 0, slots := 0, locals := 0 } : Room).slots _
  refine own_by (V := s₁.setTop (mkF m 0 #[.val (.int p0), .unset] [])) (fun t k => castTop (own_ef_own_rm1 m p0) k) ?_
  refine own_by (V := s₁.setTop (mkF m 1 #[.val (.int p0), .unset] [(.int p0)])) (fun t k => XS.iloadN X0.here hx rfl (hb hby own_d_prog_74_4_0) rfl  k) ?_
  refine own_by (V := s₁.setTop (mkF m 3 #[.val (.int p0), .unset] [(.int (-1640531527 : Int32)), (.int p0)])) (Jvm.Stand.ldcInt X0 hx hown (mvT hZ (hw _ (List.mem_of_getElem? (i := 4) rfl))) (g := (mkF m 1 #[.val (.int p0), .unset] [(.int p0)])) rfl (hb hby own_d_prog_74_4_1)) ?_
  refine own_by (V := s₁.setTop (mkF m 4 #[.val (.int p0), .unset] [(.int (p0 * (-1640531527 : Int32)))])) (fun t k => XS.imul X0.here hx rfl (hb hby own_d_prog_74_4_3) rfl k) ?_
  refine own_by (V := s₁.setTop (mkF m 5 #[.val (.int p0), .val (.int (p0 * (-1640531527 : Int32)))] [])) (fun t k => XS.istoreN X0.here hx rfl (hb hby own_d_prog_74_4_4) rfl (l' := #[.val (.int p0), .val (.int (p0 * (-1640531527 : Int32)))]) rfl k) ?_
  refine own_by (V := s₁.setTop (mkF m 6 #[.val (.int p0), .val (.int (p0 * (-1640531527 : Int32)))] [(.int (p0 * (-1640531527 : Int32)))])) (fun t k => XS.iloadN X0.here hx rfl (hb hby own_d_prog_74_4_5) rfl  k) ?_
  refine own_by (V := s₁.setTop (mkF m 7 #[.val (.int p0), .val (.int (p0 * (-1640531527 : Int32)))] [(.int (p0 * (-1640531527 : Int32))), (.int (p0 * (-1640531527 : Int32)))])) (fun t k => XS.iloadN X0.here hx rfl (hb hby own_d_prog_74_4_6) rfl  k) ?_
  refine own_by (V := s₁.setTop (mkF m 9 #[.val (.int p0), .val (.int (p0 * (-1640531527 : Int32)))] [(.int (16 : Int32)), (.int (p0 * (-1640531527 : Int32))), (.int (p0 * (-1640531527 : Int32)))])) (fun t k => XS.bipush X0.here hx rfl (hb hby own_d_prog_74_4_7) k) ?_
  refine own_by (V := s₁.setTop (mkF m 10 #[.val (.int p0), .val (.int (p0 * (-1640531527 : Int32)))] [(.int (((p0 * (-1640531527 : Int32)).toUInt32 >>> ((16 : Int32) &&& 31).toUInt32).toInt32)), (.int (p0 * (-1640531527 : Int32)))])) (fun t k => XS.iushr X0.here hx rfl (hb hby own_d_prog_74_4_9) rfl k) ?_
  refine own_by (V := s₁.setTop (mkF m 11 #[.val (.int p0), .val (.int (p0 * (-1640531527 : Int32)))] [(.int ((p0 * (-1640531527 : Int32)) ^^^ (((p0 * (-1640531527 : Int32)).toUInt32 >>> ((16 : Int32) &&& 31).toUInt32).toInt32)))])) (fun t k => XS.ixor X0.here hx rfl (hb hby own_d_prog_74_4_10) rfl k) ?_
  refine own_retI X0 hx hlk e0 Bd.returns (hb hby own_d_prog_74_4_11) ?_ (by decide) (by decide)
  exact ⟨congrArg (fun z => some (Value.int z)) (show ((p0 * (-1640531527 : Int32)) ^^^ (((p0 * (-1640531527 : Int32)).toUInt32 >>> ((16 : Int32) &&& 31).toUInt32).toInt32)) = (own_scr p0) from by rfl), N0, rfl⟩
def own_Q_own_rm0 (Z : State) (p0 : Int32) (h0 : Heap) (n0 : Nat) : Option Value → Heap → List Loc → Prop := fun v h L => v = some (.int 1) ∧ Fr n0 L
theorem own_ef_own_rm0 (m : MethodId) (x0 : Int32) : entryFrame m #[(.int x0)] maxLocals = mkF m 0 #[.val (.int x0), .unset, .unset, .unset] [] := by first | (simp [entryFrame, mkF, argsToLocals, Value.category, maxLocals]; done) | rfl
set_option maxRecDepth 65536 in
set_option maxHeartbeats 40000000 in
theorem own_rm0 (l : Launch) (Z : State) (a0 : Array Value) (hw : ∀ d ∈ tables_1, d.before a0 Z = true) (ws : List Jvm.Cond) (p0 : Int32) (h0 : Heap) (n0 : Nat) :
    MetFree l x (head1 (Jvm.Cond.code x code maxLocals ret :: ws) room_1) (fun a U => a = #[(.int p0)] ∧ Z.Warmed39 U.vm ∧ U.heap = h0) (fun _ _ _ _ _ => True) (fun _ U o U' => ∃ v L, o = .returned v ∧ (own_Q_own_rm0 Z p0 h0 n0) v U'.heap L ∧ FrameEnd U o U' L room_1.cells room_1.slots) := by
  refine MetFree.of_bodySF (plainFor_of_name own_pn1) hisR ?_
  intro p e s m args below meth c s₁ Bd hml0 hP hK
  obtain ⟨rfl, hZ, hh⟩ := hP
  have hx := Bd.exec
  have hby := Bd.bytes
  have hml : c.maxLocals = 4 := hml0
  have hown : s.vm.findClass "com/example/forec/forec/HashesScrambledPinLaw" = some m.cls := findClass_of_methodNamed Bd.named
  have hnm := (name_of_methodNamed Bd.named Bd.method).1
  have hlk : meth.locks = false := BodyLoose.notSynchronized Bd
  have X0 : Stand p l e room_1 s m #[(.int p0)] below meth c s₁ [] 0 0 := Stand.of_body Bd
  have e0 : s₁.heap = h0 := by rw [← hh, Bd.state]; rfl
  have N0 := Fr.nil n0
  show own_Ends p e below s (own_Q_own_rm0 Z p0 h0 n0) room_1.cells room_1.slots _
  refine own_by (V := s₁.setTop (mkF m 0 #[.val (.int p0), .unset, .unset, .unset] [])) (fun t k => castTop (own_ef_own_rm0 m p0) k) ?_
  refine own_by (V := s₁.setTop (mkF m 1 #[.val (.int p0), .unset, .unset, .unset] [(.int p0)])) (fun t k => XS.iloadN X0.here hx rfl (hb hby at_0) rfl  k) ?_
  obtain ⟨_, _, ⟨T1, Lq1, kq1, nq1⟩, -, X1, ⟨Lc1, hQ1, lq1, yq1, zq1⟩, st1⟩ := Jvm.LawKit.callS X0 hx (y := (⟨"com/example/forec/forec/Hashes", "scrambled", "(I)I"⟩ : MethodName)) hown (mvT hZ (hw _ (List.mem_of_getElem? (i := 0) rfl))) (mvT hZ (hw _ (List.mem_of_getElem? (i := 1) rfl))) (mvT hZ (hw _ (List.mem_of_getElem? (i := 2) rfl))) (mvT hZ (hw _ (List.mem_of_getElem? (i := 3) rfl))) (by decide) (backOf (W := 0) (own_rm1 l Z a0 hw [] p0 h0 n0) hZ (hw _ (List.mem_of_getElem? (i := 3) rfl)) (hw _ (List.mem_of_getElem? (i := 2) rfl)) (by decide) (by decide)) (g := (mkF m 1 #[.val (.int p0), .unset, .unset, .unset] [(.int p0)])) rfl (by rw [hml]; rfl) (argsL := [(.int p0)]) (rest := []) (lenOf own_pd0 rfl) rfl (by show 2 * 0 + _ ≤ _; exact Nat.le_of_eq rfl) (hb hby at_1) (fun _ _ => ⟨rfl, e0, (by decide : 0 + 0 ≤ _), (by decide : 0 + 0 ≤ _)⟩)
  dsimp only [Pt.U, Pt.locs, Pt.cells, Pt.slots] at X1 lq1 yq1 zq1 st1 hQ1
  subst lq1 yq1 zq1
  obtain ⟨rfl, N1q, e1⟩ := hQ1
  have N1 := Fr.app N0 N1q
  refine own_by (V := T1.setTop (mkF m 4 #[.val (.int p0), .unset, .unset, .unset] [(.int (own_scr p0))])) st1 ?_
  refine own_by (V := T1.setTop (mkF m 5 #[.val (.int p0), .val (.int (own_scr p0)), .unset, .unset] [])) (fun t k => XS.istoreN X1.here hx rfl (hb hby at_4) rfl (l' := #[.val (.int p0), .val (.int (own_scr p0)), .unset, .unset]) rfl k) ?_
  refine own_by (V := T1.setTop (mkF m 6 #[.val (.int p0), .val (.int (own_scr p0)), .unset, .unset] [(.int (own_scr p0))])) (fun t k => XS.iloadN X1.here hx rfl (hb hby at_5) rfl  k) ?_
  refine own_by (V := T1.setTop (mkF m 7 #[.val (.int p0), .val (.int (own_scr p0)), .unset, .unset] [(.int (own_scr p0)), (.int (own_scr p0))])) (fun t k => XS.iloadN X1.here hx rfl (hb hby at_6) rfl  k) ?_
  refine own_by (V := T1.setTop (mkF m 9 #[.val (.int p0), .val (.int (own_scr p0)), .unset, .unset] [(.int (16 : Int32)), (.int (own_scr p0)), (.int (own_scr p0))])) (fun t k => XS.bipush X1.here hx rfl (hb hby at_7) k) ?_
  refine own_by (V := T1.setTop (mkF m 10 #[.val (.int p0), .val (.int (own_scr p0)), .unset, .unset] [(.int (((own_scr p0).toUInt32 >>> ((16 : Int32) &&& 31).toUInt32).toInt32)), (.int (own_scr p0))])) (fun t k => XS.iushr X1.here hx rfl (hb hby at_9) rfl k) ?_
  refine own_by (V := T1.setTop (mkF m 11 #[.val (.int p0), .val (.int (own_scr p0)), .unset, .unset] [(.int ((own_scr p0) ^^^ (((own_scr p0).toUInt32 >>> ((16 : Int32) &&& 31).toUInt32).toInt32)))])) (fun t k => XS.ixor X1.here hx rfl (hb hby at_10) rfl k) ?_
  refine own_by (V := T1.setTop (mkF m 12 #[.val (.int p0), .val (.int (own_scr p0)), .val (.int ((own_scr p0) ^^^ (((own_scr p0).toUInt32 >>> ((16 : Int32) &&& 31).toUInt32).toInt32))), .unset] [])) (fun t k => XS.istoreN X1.here hx rfl (hb hby at_11) rfl (l' := #[.val (.int p0), .val (.int (own_scr p0)), .val (.int ((own_scr p0) ^^^ (((own_scr p0).toUInt32 >>> ((16 : Int32) &&& 31).toUInt32).toInt32))), .unset]) rfl k) ?_
  refine own_by (V := T1.setTop (mkF m 13 #[.val (.int p0), .val (.int (own_scr p0)), .val (.int ((own_scr p0) ^^^ (((own_scr p0).toUInt32 >>> ((16 : Int32) &&& 31).toUInt32).toInt32))), .unset] [(.int ((own_scr p0) ^^^ (((own_scr p0).toUInt32 >>> ((16 : Int32) &&& 31).toUInt32).toInt32)))])) (fun t k => XS.iloadN X1.here hx rfl (hb hby at_12) rfl  k) ?_
  refine own_by (V := T1.setTop (mkF m 15 #[.val (.int p0), .val (.int (own_scr p0)), .val (.int ((own_scr p0) ^^^ (((own_scr p0).toUInt32 >>> ((16 : Int32) &&& 31).toUInt32).toInt32))), .unset] [(.int (340573321 : Int32)), (.int ((own_scr p0) ^^^ (((own_scr p0).toUInt32 >>> ((16 : Int32) &&& 31).toUInt32).toInt32)))])) (Jvm.Stand.ldcInt X1 hx hown (mvT hZ (hw _ (List.mem_of_getElem? (i := 5) rfl))) (g := (mkF m 13 #[.val (.int p0), .val (.int (own_scr p0)), .val (.int ((own_scr p0) ^^^ (((own_scr p0).toUInt32 >>> ((16 : Int32) &&& 31).toUInt32).toInt32))), .unset] [(.int ((own_scr p0) ^^^ (((own_scr p0).toUInt32 >>> ((16 : Int32) &&& 31).toUInt32).toInt32)))])) rfl (hb hby at_13)) ?_
  refine own_by (V := T1.setTop (mkF m 16 #[.val (.int p0), .val (.int (own_scr p0)), .val (.int ((own_scr p0) ^^^ (((own_scr p0).toUInt32 >>> ((16 : Int32) &&& 31).toUInt32).toInt32))), .unset] [(.int (((own_scr p0) ^^^ (((own_scr p0).toUInt32 >>> ((16 : Int32) &&& 31).toUInt32).toInt32)) * (340573321 : Int32)))])) (fun t k => XS.imul X1.here hx rfl (hb hby at_15) rfl k) ?_
  refine own_by (V := T1.setTop (mkF m 17 #[.val (.int p0), .val (.int (own_scr p0)), .val (.int ((own_scr p0) ^^^ (((own_scr p0).toUInt32 >>> ((16 : Int32) &&& 31).toUInt32).toInt32))), .val (.int (((own_scr p0) ^^^ (((own_scr p0).toUInt32 >>> ((16 : Int32) &&& 31).toUInt32).toInt32)) * (340573321 : Int32)))] [])) (fun t k => XS.istoreN X1.here hx rfl (hb hby at_16) rfl (l' := #[.val (.int p0), .val (.int (own_scr p0)), .val (.int ((own_scr p0) ^^^ (((own_scr p0).toUInt32 >>> ((16 : Int32) &&& 31).toUInt32).toInt32))), .val (.int (((own_scr p0) ^^^ (((own_scr p0).toUInt32 >>> ((16 : Int32) &&& 31).toUInt32).toInt32)) * (340573321 : Int32)))]) rfl k) ?_
  refine own_by (V := T1.setTop (mkF m 18 #[.val (.int p0), .val (.int (own_scr p0)), .val (.int ((own_scr p0) ^^^ (((own_scr p0).toUInt32 >>> ((16 : Int32) &&& 31).toUInt32).toInt32))), .val (.int (((own_scr p0) ^^^ (((own_scr p0).toUInt32 >>> ((16 : Int32) &&& 31).toUInt32).toInt32)) * (340573321 : Int32)))] [(.int (((own_scr p0) ^^^ (((own_scr p0).toUInt32 >>> ((16 : Int32) &&& 31).toUInt32).toInt32)) * (340573321 : Int32)))])) (fun t k => XS.iloadN X1.here hx rfl (hb hby at_17) rfl  k) ?_
  refine own_by (V := T1.setTop (mkF m 19 #[.val (.int p0), .val (.int (own_scr p0)), .val (.int ((own_scr p0) ^^^ (((own_scr p0).toUInt32 >>> ((16 : Int32) &&& 31).toUInt32).toInt32))), .val (.int (((own_scr p0) ^^^ (((own_scr p0).toUInt32 >>> ((16 : Int32) &&& 31).toUInt32).toInt32)) * (340573321 : Int32)))] [(.int p0), (.int (((own_scr p0) ^^^ (((own_scr p0).toUInt32 >>> ((16 : Int32) &&& 31).toUInt32).toInt32)) * (340573321 : Int32)))])) (fun t k => XS.iloadN X1.here hx rfl (hb hby at_18) rfl  k) ?_
  have hb19_2 : ((((own_scr p0) ^^^ (((own_scr p0).toUInt32 >>> ((16 : Int32) &&& 31).toUInt32).toInt32)) * (340573321 : Int32)) = p0) := own_law p0
  refine own_by (V := T1.setTop (mkF m 22 #[.val (.int p0), .val (.int (own_scr p0)), .val (.int ((own_scr p0) ^^^ (((own_scr p0).toUInt32 >>> ((16 : Int32) &&& 31).toUInt32).toInt32))), .val (.int (((own_scr p0) ^^^ (((own_scr p0).toUInt32 >>> ((16 : Int32) &&& 31).toUInt32).toInt32)) * (340573321 : Int32)))] [])) (fun t k => XS.icmpNo X1.here hx rfl (hb hby at_19) rfl (teq hb19_2).2 k) ?_
  refine own_by (V := T1.setTop (mkF m 23 #[.val (.int p0), .val (.int (own_scr p0)), .val (.int ((own_scr p0) ^^^ (((own_scr p0).toUInt32 >>> ((16 : Int32) &&& 31).toUInt32).toInt32))), .val (.int (((own_scr p0) ^^^ (((own_scr p0).toUInt32 >>> ((16 : Int32) &&& 31).toUInt32).toInt32)) * (340573321 : Int32)))] [(.int (1 : Int32))])) (fun t k => XS.iconst X1.here hx rfl (hb hby at_22) k) ?_
  refine own_by (V := T1.setTop (mkF m 27 #[.val (.int p0), .val (.int (own_scr p0)), .val (.int ((own_scr p0) ^^^ (((own_scr p0).toUInt32 >>> ((16 : Int32) &&& 31).toUInt32).toInt32))), .val (.int (((own_scr p0) ^^^ (((own_scr p0).toUInt32 >>> ((16 : Int32) &&& 31).toUInt32).toInt32)) * (340573321 : Int32)))] [(.int (1 : Int32))])) (fun t k => XS.goto X1.here hx rfl (pc0 := 23) (pc' := 27) rfl (hb hby at_23) (by decide) (by decide) k) ?_
  refine own_retN X1 hx hlk e1 Bd.returns (t := .boolean) (by simp) rfl (hb hby at_27) ?_ (by decide) (by decide)
  exact ⟨rfl, N1⟩
set_option maxRecDepth 65536 in
set_option maxHeartbeats 40000000 in
theorem own_comes {Post : Tables → Env → Array Value → State → Outcome → State → Prop} (hpost : ∀ tb e args s v u, (limb_1_1.after args s (.returned v) u = true ∧ limb_1_2.after args s (.returned v) u = true ∧ True) → FrameEnd s (.returned v) u (Jvm.fieldLocs frame_1_writes args s ++ Jvm.arrayLocs frame_1_arrays args s ++ Jvm.staticLocs frame_1_statics s) 0 0 → Post tb e args s (.returned v) u) :
    ArmFor flags0 classFile x code maxLocals ret World_1 tables_1 room_1 Calls_1 rest_1 Pre_1 Post := by
  intro l hfl _ _ p e ha hc hk s m args below hf hA hF happ hP
  obtain ⟨hcalls, hrest, hpre⟩ := hP
  obtain ⟨-, -, -, hnamed, -, -, -, hat⟩ := (Spec.applies_iff hf).mp happ
  obtain ⟨hg, hn⟩ := and_e (Cond.before_iff.mp (show (Jvm.Cond.and given_1 narrow_1).before args s = true from hpre))
  obtain ⟨hc0, hr0⟩ := and_e hg
  have hv0 := hr0
  obtain ⟨w0, rfl⟩ : ∃ w0 : Value, args = #[w0] := by
    have hs : args.size = 1 := by simpa [Cond.value, given_1] using hc0
    obtain ⟨L⟩ := args
    match L, hs with
    | [w0], _ => exact ⟨w0, rfl⟩
  have hw := fun d (hd : d ∈ tables_1) => atoms_spec (ws := Jvm.Cond.code x code maxLocals ret :: tables_1) hat d (List.mem_cons_of_mem _ hd)
  have hfit : Fit s := fun {y c} hc i hi => by
    obtain ⟨ha, rfl⟩ := Array.getElem?_eq_some_iff.mp hc
    have q := List.all_eq_true.mp ((Array.all_eq_true_iff_forall_mem.mp hF) _ (Array.getElem_mem ha)) i (List.mem_range.mpr hi)
    simpa [Array.getElem?_eq_getElem hi] using q
  obtain ⟨i0, ei0⟩ := is_v hv0
  obtain rfl : w0 = (.int i0) := Option.some.inj ei0
  obtain ⟨n, o, h1, h2, h3, _, L, rfl, ⟨rfl, N⟩, hq⟩ := own_rm0 l s _ hw tables_1 i0  s.heap s.heap.size  p e ha hc hk s m _ below hf ((Spec.applies_iff_loose hf).mp happ).1 ⟨rfl, State.Warmed39.refl s, rfl⟩ trivial
  refine ⟨n, _, h1, h2, h3, hpost _ _ _ _ _ _ ⟨Cond.after_iff.mpr rfl, Cond.after_iff.mpr (eq_i res_at (Term.int_eval (1)) rfl), trivial⟩ ⟨hq.1, hq.2.1, (hq.2.2.sift fun y hy => Or.inr (N y hy)).mono (by decide) (by decide)⟩⟩
theorem main_1_1 : Claimed_1_1 := own_comes fun _ _ _ _ _ _ h hF => ⟨h.1, hF⟩
theorem main_1_2 : Claimed_1_2 := own_comes fun _ _ _ _ _ _ h hF => ⟨h.2.1, hF⟩

end Jvm.Pilot.@@N@@
namespace Jvm.Pilot.@@N@@
open Jvm Jvm.ClassFile Sem Op Lib Jvm.Free Jvm.Stand Jvm.Pilot.@@N@@.Jvm.D
/-! MADE BY PROGRAM (witnessworld.py) out of the Statement's table words and the real class files: 9 classes; the members and pool entries that the words name. The judged class is class 1, her method 1. -/
namespace start1
open Jvm.ClassFile
def u (s : String) : CpInfo := .utf8 (stringToUtf16 s)
/-- a pool by its gaps: so many unusable entries, then the entry; so many at the end -/
def gap : Nat → List CpInfo → List CpInfo
  | 0, r => r
  | n + 1, r => .unusable :: gap n r
def poolList (es : List (Nat × CpInfo)) (last : Nat) : List CpInfo := es.foldr (fun e r => gap e.1 (e.2 :: r)) (gap last [])
def pool (es : List (Nat × CpInfo)) (last : Nat) : Array CpInfo := ⟨poolList es last⟩
def fileOf (pool : Array CpInfo) (this : Nat) (attrs : Array Attribute := #[]) (ms : Array MethodInfo := #[]) (fl : Nat := 33) (sup : Nat := 0) (ifs : Array Nat := #[]) (fds : Array FieldInfo := #[]) : ClassFile where
  minorVersion := 0
  majorVersion := 65
  constantPool := pool
  accessFlags := fl
  thisClass := this
  superClass := sup
  interfaces := ifs
  fields := fds
  methods := ms
  attributes := attrs
def plain (name : String) (sup : Option ClassId) : Class where
  name := name
  kind := .ordinary
  loader := none
  accessFlags := 33
  super := sup
  interfaces := #[]
  cf := none
  fields := #[]
  methods := #[]
  instanceTypes := #[]
  staticTypes := #[]
  resolved := #[]
  callSites := []
  init := .initialized
  statics := none
  mirror := none

def pool0 : Array CpInfo := pool [(5, u "<init>"), (0, u "()V"), (1, .class_ 10), (1, u "java/lang/Object")] 113

def k0m0 : Method := { name := "<init>", desc := "()V", sig := { parameters := [], returnType := none }, accessFlags := 1, code := none }
/-- java/lang/Object -/
def k0 : Class := { plain "java/lang/Object" none with
  accessFlags := 33
  interfaces := #[]
  cf := some (fileOf pool0 8 #[] #[{ accessFlags := 1, nameIndex := 5, descriptorIndex := 6, attributes := #[] }] 33 0 #[] #[])
  fields := #[]
  methods := #[k0m0]
  instanceTypes := #[]
  staticTypes := #[]
  resolved := Array.replicate 124 none
  statics := none }

def pool1 : Array CpInfo := pool [(2, .class_ 4), (1, u "java/lang/Object"), (0, u "<init>"), (0, u "()V"), (0, .methodref 8 9), (0, .class_ 10), (0, .nameAndType 11 12), (0, u "com/example/forec/forec/Hashes"), (0, u "scrambled"), (0, u "(I)I"), (0, .integer 340573321), (0, .class_ 15), (0, u "com/example/forec/forec/HashesScrambledPinLaw"), (2, u "law"), (0, u "(I)Z")] 3

def k1m0 : Method := { name := "<init>", desc := "()V", sig := { parameters := [], returnType := none }, accessFlags := 2, code := none }
def k1c1 : Code := { maxStack := 3, maxLocals := 4, code := code, exceptionTable := #[], attributes := #[] }
def k1m1 : Method := { name := "law", desc := "(I)Z", sig := { parameters := [.int], returnType := some .boolean }, accessFlags := 9, code := some k1c1 }
/-- com/example/forec/forec/HashesScrambledPinLaw -/
def k1 : Class := { plain "com/example/forec/forec/HashesScrambledPinLaw" (some 0) with
  accessFlags := 49
  interfaces := #[]
  cf := some (fileOf pool1 14 #[] #[{ accessFlags := 2, nameIndex := 5, descriptorIndex := 6, attributes := #[] }, { accessFlags := 9, nameIndex := 18, descriptorIndex := 19, attributes := #[] }] 49 2 #[] #[])
  fields := #[]
  methods := #[k1m0, k1m1]
  instanceTypes := #[]
  staticTypes := #[]
  resolved := Array.replicate 23 none
  statics := none }

def pool2 : Array CpInfo := pool [(2, .class_ 4), (1, u "java/lang/Object"), (0, u "<init>"), (0, u "()V"), (7, .class_ 16), (1, u "com/example/forec/forec/Hashes"), (0, u "scrambled"), (0, u "(I)I"), (16, .integer 2654435769)] 13

def k2m0 : Method := { name := "<init>", desc := "()V", sig := { parameters := [], returnType := none }, accessFlags := 2, code := none }
def k2c1 : Code := { maxStack := 3, maxLocals := 2, code := prog_74_method_4_code, exceptionTable := #[], attributes := #[] }
def k2m1 : Method := { name := "scrambled", desc := "(I)I", sig := { parameters := [.int], returnType := some .int }, accessFlags := 8, code := some k2c1 }
/-- com/example/forec/forec/Hashes -/
def k2 : Class := { plain "com/example/forec/forec/Hashes" (some 0) with
  accessFlags := 32
  interfaces := #[]
  cf := some (fileOf pool2 14 #[] #[{ accessFlags := 2, nameIndex := 5, descriptorIndex := 6, attributes := #[] }, { accessFlags := 8, nameIndex := 17, descriptorIndex := 18, attributes := #[] }] 32 2 #[] #[])
  fields := #[]
  methods := #[k2m0, k2m1]
  instanceTypes := #[]
  staticTypes := #[]
  resolved := Array.replicate 49 none
  statics := none }

def pool3 : Array CpInfo := pool [(1, u "java/lang/Cloneable"), (0, .class_ 1), (0, u "java/lang/Object"), (0, .class_ 3)] 3

/-- java/lang/Cloneable -/
def k3 : Class := { plain "java/lang/Cloneable" (some 0) with
  accessFlags := 1537
  interfaces := #[]
  cf := some (fileOf pool3 2 #[] #[] 1537 4 #[] #[])
  fields := #[]
  methods := #[]
  instanceTypes := #[]
  staticTypes := #[]
  resolved := Array.replicate 8 none
  statics := none }

def pool4 : Array CpInfo := pool [(1, u "java/io/Serializable"), (0, .class_ 1), (0, u "java/lang/Object"), (0, .class_ 3)] 3

/-- java/io/Serializable -/
def k4 : Class := { plain "java/io/Serializable" (some 0) with
  accessFlags := 1537
  interfaces := #[]
  cf := some (fileOf pool4 2 #[] #[] 1537 4 #[] #[])
  fields := #[]
  methods := #[]
  instanceTypes := #[]
  staticTypes := #[]
  resolved := Array.replicate 8 none
  statics := none }

/-- the primitive byte -/
def k5 : Class := { plain "byte" none with kind := .primitive 'B', accessFlags := 0x411 }
/-- [B -/
def k6 : Class := { plain "[B" (some 0) with kind := .array 5 .byte, interfaces := #[3, 4], accessFlags := 1041 }

/-- the primitive int -/
def k7 : Class := { plain "int" none with kind := .primitive 'I', accessFlags := 0x411 }
/-- [I -/
def k8 : Class := { plain "[I" (some 0) with kind := .array 7 .int, interfaces := #[3, 4], accessFlags := 1041 }

def heap : Heap := #[]
def classes : Array Class := #[k0, k1, k2, k3, k4, k5, k6, k7, k8]
def interned : List (Array UInt16 × Addr) := []
def slotsUsed : Nat := 0
def theMethod : MethodId := ⟨1, 1⟩
def args0 : Array Value := #[.int 5]
def aboutOver (below : List Frame) : State where
  vm := { classes := classes, interned := interned.toArray }
  heap := heap
  slotsUsed := slotsUsed
  threads := #[{ frames := .invoking theMethod args0 :: below }]
def below0 : List Frame := [.native { method := ⟨0, 0⟩, args := #[] }]
def about1 : State := aboutOver below0
def p0 : Program := .bare "" "" ""
def e0 : Env := launch0.env 0 0 0
theorem w_frames : about1.frames = Frame.invoking theMethod args0 :: below0 := rfl
set_option maxRecDepth 65536 in
theorem w_args : argsFit about1.vm theMethod args0 = true := by decide +kernel
set_option maxRecDepth 65536 in
theorem w_heap : heapFits about1 = true := by decide +kernel
set_option maxRecDepth 65536 in
theorem w_runnable : about1.curStatus? = some .runnable := by decide +kernel
set_option maxRecDepth 65536 in
theorem w_alone : about1.alone = true := by decide +kernel
set_option maxRecDepth 65536 in
theorem w_named : about1.methodNamed? x = some theMethod := by decide +kernel
set_option maxRecDepth 65536 in
theorem w_hears : about1.hears theMethod below0 = true := by decide +kernel
set_option maxRecDepth 65536 in
theorem w_ripe : about1.ripe theMethod args0 below0 = true := by decide +kernel
theorem w_running : about1.status = .running := rfl
set_option maxRecDepth 65536 in
theorem w_room : about1.hasRoom e0.platform room_1 = true :=
  launch0.hasRoom_least _ room_1 (by decide +kernel) (by decide +kernel) (by decide +kernel) (by decide +kernel) (by decide +kernel) (by decide +kernel)
theorem allAtoms_all (ts : List Jvm.Cond) (a : Array Jvm.Value) (st : Jvm.State) : (allAtoms ts).before a st = ts.all (fun c => c.before a st) := by
  induction ts with
  | nil => rfl
  | cons c t ih =>
    show (Jvm.Cond.and c (allAtoms t)).before a st = _
    rw [Jvm.Cond.before_and, ih, List.all_cons]
def words1 : List Jvm.Cond := Jvm.Cond.code x code maxLocals ret :: tables_1
/-- a 'code' word, met by the world's own term for the bytes: nothing is compared byte by byte -/
theorem code_word {y : MethodName} {bytes : ByteArray} {mx : Nat} {rt : Option FieldType} {a : Array Value} {s : State} {m : MethodId} {meth : Method} {c : Code} (h1 : s.methodNamed? y = some m) (h2 : s.vm.method? m = some meth) (h3 : meth.code = some c) (h4 : c.code = bytes)
    (h5 : (c.maxLocals == mx && c.exceptionTable.isEmpty && decide (c.maxStack ≤ mostOperands) && decide (meth.sig.returnType = rt) && !meth.locks && decide (parseMethodDescriptor y.desc = some meth.sig)) = true) : (Jvm.Cond.code y bytes mx rt).before a s = true := by
  simp only [Bool.and_eq_true, beq_iff_eq, Bool.not_eq_true', decide_eq_true_eq] at h5
  obtain ⟨⟨⟨⟨⟨g1, g2⟩, g3⟩, g4⟩, g5⟩, g6⟩ := h5
  simp [Cond.before, Cond.holds, Cond.value, h1, h2, h3, h4, g1, g2, g3, g4, g5, g6]
def isCode : Jvm.Cond → Bool
  | .code _ _ _ _ => true
  | _ => false
theorem all_split {L : List Jvm.Cond} {P : Jvm.Cond → Bool} (h1 : L.all (fun c => isCode c || P c) = true) (h2 : ∀ c ∈ L.filter isCode, P c = true) : L.all P = true := by
  refine List.all_eq_true.mpr fun c hc => ?_
  have h := List.all_eq_true.mp h1 c hc
  rcases Bool.eq_false_or_eq_true (isCode c) with hi | hi
  · exact h2 c (List.mem_filter.mpr ⟨hc, hi⟩)
  · simpa [hi] using h
set_option maxRecDepth 65536 in
theorem w_c0 : (Jvm.Cond.code x code maxLocals ret).before args0 about1 = true := code_word (m := ⟨1, 1⟩) (meth := k1m1) (c := k1c1) (by decide +kernel) rfl rfl rfl (by decide +kernel)
set_option maxRecDepth 65536 in
theorem w_c1 : (Jvm.Cond.code ({ cls := "com/example/forec/forec/Hashes", name := "scrambled", desc := "(I)I" } : Jvm.MethodName) prog_74_method_4_code (2 : Nat) (Option.some Jvm.ClassFile.FieldType.int)).before args0 about1 = true := code_word (m := ⟨2, 1⟩) (meth := k2m1) (c := k2c1) (by decide +kernel) rfl rfl rfl (by decide +kernel)
def codes1 : List Jvm.Cond := [Jvm.Cond.code x code maxLocals ret, Jvm.Cond.code ({ cls := "com/example/forec/forec/Hashes", name := "scrambled", desc := "(I)I" } : Jvm.MethodName) prog_74_method_4_code (2 : Nat) (Option.some Jvm.ClassFile.FieldType.int)]
set_option maxRecDepth 65536 in
theorem codes_eq : words1.filter isCode = codes1 := rfl
theorem w_codes : ∀ c ∈ words1.filter isCode, c.before args0 about1 = true := by
  rw [codes_eq]
  intro c hc
  simp only [codes1, List.mem_cons, List.not_mem_nil, or_false] at hc
  rcases hc with rfl | rfl
  · exact w_c0
  · exact w_c1
set_option maxRecDepth 65536 in
theorem w_t1 : words1.all (fun c => isCode c || c.before args0 about1) = true := by decide +kernel
theorem w_tables : (allAtoms (Jvm.Cond.code x code maxLocals ret :: tables_1)).before args0 about1 = true := by
  rw [allAtoms_all]
  show words1.all (fun c => c.before args0 about1) = true
  refine all_split ?_ w_codes
  rw [w_t1]
set_option maxRecDepth 65536 in
theorem w_case : (Jvm.Cond.and given_1 narrow_1).before args0 about1 = true := by decide +kernel
theorem w_applies : (headSpec (Jvm.Cond.code x code maxLocals ret :: tables_1) room_1).applies x e0.platform about1 = true :=
  (Spec.applies_iff w_frames).mpr ⟨w_running, w_runnable, w_alone, w_named, w_hears, w_ripe, w_room, w_tables⟩
theorem atStart : AtStart classFile x code maxLocals ret World_1 tables_1 room_1 Calls_1 rest_1 Pre_1 launch0 p0 e0 about1 theMethod args0 below0 :=
  ⟨lists_1, trivial, launch0.admits_env _ _ _, launch0.least_env, fairChoices_fair.cas, fairChoices_fair.clock, w_frames, w_args, w_heap, w_applies, trivial, trivial, w_case⟩
end start1
theorem witness_1 : WitnessClaimed_1 := ⟨start1.p0, start1.e0, start1.about1, start1.theMethod, start1.args0, start1.below0, start1.atStart⟩
end Jvm.Pilot.@@N@@
