import JvmDerived
import JvmDerived.Pilot.@@N@@Statement
import JvmDerived.Pilot.@@N@@Code
set_option linter.unusedVariables false
set_option linter.unusedSimpArgs false
namespace Jvm.Pilot.@@N@@
open Jvm Jvm.ClassFile Sem Op Lib Jvm.Free Jvm.Stand Jvm.LawKit Jvm.RoadKit Bundle Jvm.Pilot.@@N@@.Jvm.D
section OwnKit
variable {p : Program} {l : Launch} {e : Env} {R : Room} {s : State} {m : MethodId} {args : Array Value} {below : List Frame} {meth : Method} {c : Code} {T U W : State} {locs : List Loc} {cells slots : Nat} {Q : Option Value → Heap → List Loc → Prop} {K N : Nat}
/-- from U the body comes to its end, and Q holds there -/
def own_Ends (p : Program) (e : Env) (below : List Frame) (s : State) (Q : Option Value → Heap → List Loc → Prop) (K N : Nat) (U : State) : Prop :=
  ∃ s₂ o, Steps p.tables e below U s₂ ∧ s₂.status = .running ∧ Ended s₂ below o ∧ ∃ v L, o = .returned v ∧ Q v s₂.heap L ∧ FrameEnd s o s₂ L K N
theorem own_by {V : State} (h : ∀ t, Steps p.tables e below V t → Steps p.tables e below U t) (k : own_Ends p e below s Q K N V) : own_Ends p e below s Q K N U := by
  obtain ⟨s2, o, h1, h2⟩ := k; exact ⟨s2, o, h _ h1, h2⟩
theorem own_ret0 (X : Stand p l e R s m args below meth c T locs cells slots) (hx : p.tables.exec = Jvm.exec) (hlk : meth.locks = false) {h : Heap} (eT : T.heap = h) {pc : Nat} {Ls : Array Slot} (hret : meth.sig.returnType = none)
    (hd : decode c.code pc = .ok (.return_, 1)) (hQ : Q none h locs) (hK : cells ≤ K) (hN : slots ≤ N) : own_Ends p e below s Q K N (T.setTop (mkF m pc Ls [])) := by
  obtain ⟨fs, hr, hrun, hended, hW, hsame⟩ := X.leave (v := none) (fun _ => rfl) hlk
  exact ⟨_, _, X.returnOut hx hret hd hr, hrun, hended, _, _, rfl, (by subst eT; exact hQ), ⟨_, rfl⟩, hW, hsame.mono hK hN⟩
theorem own_retI (X : Stand p l e R s m args below meth c T locs cells slots) (hx : p.tables.exec = Jvm.exec) (hlk : meth.locks = false) {h : Heap} (eT : T.heap = h) {pc : Nat} {Ls : Array Slot} {z : Int32} {rest : List Value} (hret : meth.sig.returnType = some .int)
    (hd : decode c.code pc = .ok (.ireturn, 1)) (hQ : Q (some (.int z)) h locs) (hK : cells ≤ K) (hN : slots ≤ N) : own_Ends p e below s Q K N (T.setTop (mkF m pc Ls (.int z :: rest))) := by
  obtain ⟨fs, hr, hrun, hended, hW, hsame⟩ := X.leave (v := some (.int z)) (fun h => by rw [hret] at h; cases h) hlk
  exact ⟨_, _, retOut X hx hret rfl (Or.inl ⟨rfl, Or.inl rfl, z, rfl⟩) hd hr, hrun, hended, _, _, rfl, (by subst eT; exact hQ), ⟨_, rfl⟩, hW, hsame.mono hK hN⟩
theorem own_retN (X : Stand p l e R s m args below meth c T locs cells slots) (hx : p.tables.exec = Jvm.exec) (hlk : meth.locks = false) {h : Heap} (eT : T.heap = h) {pc : Nat} {Ls : Array Slot} {z : Int32} {t : FieldType} {rest : List Value} (hret : meth.sig.returnType = some t) (ht : t = .boolean ∨ t = .byte ∨ t = .char ∨ t = .short) (hz : nar t z = z)
    (hd : decode c.code pc = .ok (.ireturn, 1)) (hQ : Q (some (.int z)) h locs) (hK : cells ≤ K) (hN : slots ≤ N) : own_Ends p e below s Q K N (T.setTop (mkF m pc Ls (.int z :: rest))) := by
  obtain ⟨fs, hr, hrun, hended, hW, hsame⟩ := X.leave (v := some (.int z)) (fun h => by rw [hret] at h; cases h) hlk
  exact ⟨_, _, retN X hx hret ht hd (by rw [hz]; exact hr), hrun, hended, _, _, rfl, (by subst eT; exact hQ), ⟨_, rfl⟩, hW, hsame.mono hK hN⟩
theorem own_retL (X : Stand p l e R s m args below meth c T locs cells slots) (hx : p.tables.exec = Jvm.exec) (hlk : meth.locks = false) {h : Heap} (eT : T.heap = h) {pc : Nat} {Ls : Array Slot} {z : Int64} {rest : List Value} (hret : meth.sig.returnType = some .long)
    (hd : decode c.code pc = .ok (.lreturn, 1)) (hQ : Q (some (.long z)) h locs) (hK : cells ≤ K) (hN : slots ≤ N) : own_Ends p e below s Q K N (T.setTop (mkF m pc Ls (.long z :: rest))) := by
  obtain ⟨fs, hr, hrun, hended, hW, hsame⟩ := X.leave (v := some (.long z)) (fun h => by rw [hret] at h; cases h) hlk
  exact ⟨_, _, retOut X hx hret rfl (Or.inr (Or.inl ⟨rfl, rfl, z, rfl⟩)) hd hr, hrun, hended, _, _, rfl, (by subst eT; exact hQ), ⟨_, rfl⟩, hW, hsame.mono hK hN⟩
theorem own_retA (X : Stand p l e R s m args below meth c T locs cells slots) (hx : p.tables.exec = Jvm.exec) (hlk : meth.locks = false) {h : Heap} (eT : T.heap = h) {pc : Nat} {Ls : Array Slot} {w : Value} {t : FieldType} {rest : List Value} (hw : w.isRef = true) (hret : meth.sig.returnType = some t) (ht : t.isReference = true)
    (hd : decode c.code pc = .ok (.areturn, 1)) (hQ : Q (some w) h locs) (hK : cells ≤ K) (hN : slots ≤ N) : own_Ends p e below s Q K N (T.setTop (mkF m pc Ls (w :: rest))) := by
  obtain ⟨fs, hr, hrun, hended, hW, hsame⟩ := X.leave (v := some w) (fun h => by rw [hret] at h; cases h) hlk
  exact ⟨_, _, retOut X hx hret (by cases t <;> cases w <;> first | rfl | (simp [FieldType.isReference] at ht) | (simp [Value.isRef] at hw)) (Or.inr (Or.inr (Or.inr (Or.inr ⟨rfl, ht, hw⟩)))) hd hr, hrun, hended, _, _, rfl, (by subst eT; exact hQ), ⟨_, rfl⟩, hW, hsame.mono hK hN⟩

theorem own_neg1 : (-1 : Int32).toInt = -1 := rfl
end OwnKit
theorem own_selPriv {s : State} {args args' : Array Value} {y : MethodName} {n : Nat} (wi : (Cond.instantiable y.cls n).before args s = true) (wp : (Cond.privateMethod y).before args' s = true) (wm : (Cond.instanceMethod y).before args s = true) (hy : y.cls ≠ "java/lang/invoke/MethodHandle" ∧ y.cls ≠ "java/lang/invoke/VarHandle") : (Cond.selects y.cls y y).before args s = true := by
  obtain ⟨c, k, h1, h2, h3, h4, -⟩ := Cond.instantiable_spec wi
  exact selects_self_of_private h1 h2 (Bool.or_eq_false_iff.mp h4).1 (Cond.privateMethod_at wp) wm hy
section OwnWords
variable {args : Array Value} {s : State} {t : Term} {x : Addr} {C n d : String} {cl : Cell} {ty : FieldType}
theorem own_evI {k : Int32} (h : (Cond.eq t (.int k)).value args s none s [] = some true) : t.eval args s none [] s = some (.int k) := by
  obtain ⟨y, z, h1, h2, h3, -⟩ := cmp_v (Or.inl h)
  have h2' : z = .int k := (Option.some.inj h2).symm
  subst h2'
  cases y with
  | int v =>
    have q : v = k := by simpa [Cond.value, h1, Term.eval] using h
    rw [h1, q]
  | _ => simp [Kin, Value.isRef] at h3
theorem own_fldS {k : Int32} (ht : t.eval args s none [] s = some (.ref x)) (h : (Cond.eq (.field t C n d) (.int k)).value args s none s [] = some true) : Fld s s.heap x C n d (.int k) :=
  Fld.start ((fld_at ht).symm.trans (own_evI h))
theorem own_lenEv {k : Int32} (ev : t.eval args s none [] s = some (.ref x)) (A : Arr s s.heap x cl ty) (h : (Cond.eq (.length t) (.int k)).value args s none s [] = some true) : cl.slots.size.toInt32 = k ∧ cl.slots.size < 2 ^ 31 := by
  have e := own_evI h
  have hat := A.fin (Vm.Alike.refl _)
  simp only [Term.eval, ev, hat, Option.bind_eq_bind, Option.bind_some] at e
  split at e
  · rename_i hlt
    exact ⟨Value.int.inj (Option.some.inj e), hlt⟩
  · cases e
theorem own_len256 (ev : t.eval args s none [] s = some (.ref x)) (A : Arr s s.heap x cl ty) (h : (Cond.eq (.length t) (.int 256)).value args s none s [] = some true) : cl.slots.size = 256 := by
  obtain ⟨h1, h2⟩ := own_lenEv ev A h
  have q := len_toInt h2
  rw [h1] at q
  have q' : (256 : Int32).toInt = 256 := rfl
  omega
theorem own_cacheEl {K : String} {E : Jvm.Cond} (ev : (Term.static K n d).eval args s none [] s = some (.ref x)) (A : Arr s s.heap x cl ty) (hsz : cl.slots.size = 256) (h : (Cond.all (.static K n d) (.and (.exactly (.elem (.static K n d) (.index 0)) C) E)).value args s none s [] = some true) : ∀ j, j < 256 → ∃ b, cl.slots[j]? = some (.ref b) ∧ Exa s s.heap b C := by
  intro j hj
  have hat := A.fin (Vm.Alike.refl _)
  obtain ⟨h1, -⟩ := and_e (Cond.all_elim ev hat h j (by rw [hsz]; exact hj))
  obtain ⟨b, eb⟩ := exa_v h1
  have evj : (Term.static K n d).eval args s none [j] s = some (.ref x) := ev
  have q := (elem_in eb evj (Term.index_eval j) A.1).2
  rw [show j.toInt32 = Int32.ofNat j from rfl, Int32.toNatClampNeg_ofNat_of_lt (by omega)] at q
  exact ⟨b, q, exa_at eb h1⟩
theorem own_elemI {i k : Int32} (ev : t.eval args s none [] s = some (.ref x)) (A : Arr s s.heap x cl ty) (h : (Cond.eq (.elem t (.int i)) (.int k)).value args s none s [] = some true) : ¬ (i < 0 ∨ cl.slots.size ≤ i.toNatClampNeg) ∧ cl.slots[i.toNatClampNeg]? = some (.int k) :=
  elem_in (own_evI h) ev (Term.int_eval i) A.1
end OwnWords

theorem own_d_method_2_0 : decode method_2_code 0 = .ok (.iload_n 0, 1) := by decide +kernel
theorem own_d_method_2_1 : decode method_2_code 1 = .ok (.bipush 9, 2) := by decide +kernel
theorem own_d_method_2_3 : decode method_2_code 3 = .ok (.if_icmp .eq 51, 3) := by decide +kernel
theorem own_d_method_2_6 : decode method_2_code 6 = .ok (.iload_n 0, 1) := by decide +kernel
theorem own_d_method_2_7 : decode method_2_code 7 = .ok (.bipush 10, 2) := by decide +kernel
theorem own_d_method_2_9 : decode method_2_code 9 = .ok (.if_icmp .eq 45, 3) := by decide +kernel
theorem own_d_method_2_12 : decode method_2_code 12 = .ok (.iload_n 0, 1) := by decide +kernel
theorem own_d_method_2_13 : decode method_2_code 13 = .ok (.bipush 13, 2) := by decide +kernel
theorem own_d_method_2_15 : decode method_2_code 15 = .ok (.if_icmp .eq 39, 3) := by decide +kernel
theorem own_d_method_2_18 : decode method_2_code 18 = .ok (.iload_n 0, 1) := by decide +kernel
theorem own_d_method_2_19 : decode method_2_code 19 = .ok (.bipush 32, 2) := by decide +kernel
theorem own_d_method_2_21 : decode method_2_code 21 = .ok (.if_icmp .lt 9, 3) := by decide +kernel
theorem own_d_method_2_24 : decode method_2_code 24 = .ok (.iload_n 0, 1) := by decide +kernel
theorem own_d_method_2_25 : decode method_2_code 25 = .ok (.ldc 7, 2) := by decide +kernel
theorem own_d_method_2_27 : decode method_2_code 27 = .ok (.if_icmp .le 27, 3) := by decide +kernel
theorem own_d_method_2_30 : decode method_2_code 30 = .ok (.iload_n 0, 1) := by decide +kernel
theorem own_d_method_2_31 : decode method_2_code 31 = .ok (.ldc 8, 2) := by decide +kernel
theorem own_d_method_2_33 : decode method_2_code 33 = .ok (.if_icmp .lt 9, 3) := by decide +kernel
theorem own_d_method_2_36 : decode method_2_code 36 = .ok (.iload_n 0, 1) := by decide +kernel
theorem own_d_method_2_37 : decode method_2_code 37 = .ok (.ldc 9, 2) := by decide +kernel
theorem own_d_method_2_39 : decode method_2_code 39 = .ok (.if_icmp .le 15, 3) := by decide +kernel
theorem own_d_method_2_42 : decode method_2_code 42 = .ok (.iload_n 0, 1) := by decide +kernel
theorem own_d_method_2_43 : decode method_2_code 43 = .ok (.ldc 10, 2) := by decide +kernel
theorem own_d_method_2_45 : decode method_2_code 45 = .ok (.if_icmp .lt 13, 3) := by decide +kernel
theorem own_d_method_2_48 : decode method_2_code 48 = .ok (.iload_n 0, 1) := by decide +kernel
theorem own_d_method_2_49 : decode method_2_code 49 = .ok (.ldc 11, 2) := by decide +kernel
theorem own_d_method_2_51 : decode method_2_code 51 = .ok (.if_icmp .gt 7, 3) := by decide +kernel
theorem own_d_method_2_54 : decode method_2_code 54 = .ok (.iconst 1, 1) := by decide +kernel
theorem own_d_method_2_55 : decode method_2_code 55 = .ok (.goto 4, 3) := by decide +kernel
theorem own_d_method_2_58 : decode method_2_code 58 = .ok (.iconst 0, 1) := by decide +kernel
theorem own_d_method_2_59 : decode method_2_code 59 = .ok (.ireturn, 1) := by decide +kernel
theorem own_d_prog_199_6_0 : decode prog_199_method_6_code 0 = .ok (.iload_n 0, 1) := by decide +kernel
theorem own_d_prog_199_6_1 : decode prog_199_method_6_code 1 = .ok (.bipush 32, 2) := by decide +kernel
theorem own_d_prog_199_6_3 : decode prog_199_method_6_code 3 = .ok (.if_icmp .ge 30, 3) := by decide +kernel
theorem own_d_prog_199_6_6 : decode prog_199_method_6_code 6 = .ok (.iload_n 0, 1) := by decide +kernel
theorem own_d_prog_199_6_7 : decode prog_199_method_6_code 7 = .ok (.bipush 9, 2) := by decide +kernel
theorem own_d_prog_199_6_9 : decode prog_199_method_6_code 9 = .ok (.if_icmp .eq 15, 3) := by decide +kernel
theorem own_d_prog_199_6_12 : decode prog_199_method_6_code 12 = .ok (.iload_n 0, 1) := by decide +kernel
theorem own_d_prog_199_6_13 : decode prog_199_method_6_code 13 = .ok (.bipush 10, 2) := by decide +kernel
theorem own_d_prog_199_6_15 : decode prog_199_method_6_code 15 = .ok (.if_icmp .eq 9, 3) := by decide +kernel
theorem own_d_prog_199_6_18 : decode prog_199_method_6_code 18 = .ok (.iload_n 0, 1) := by decide +kernel
theorem own_d_prog_199_6_19 : decode prog_199_method_6_code 19 = .ok (.bipush 13, 2) := by decide +kernel
theorem own_d_prog_199_6_21 : decode prog_199_method_6_code 21 = .ok (.if_icmp .ne 7, 3) := by decide +kernel
theorem own_d_prog_199_6_24 : decode prog_199_method_6_code 24 = .ok (.iconst 1, 1) := by decide +kernel
theorem own_d_prog_199_6_25 : decode prog_199_method_6_code 25 = .ok (.goto 4, 3) := by decide +kernel
theorem own_d_prog_199_6_28 : decode prog_199_method_6_code 28 = .ok (.iconst 0, 1) := by decide +kernel
theorem own_d_prog_199_6_29 : decode prog_199_method_6_code 29 = .ok (.istore_n 1, 1) := by decide +kernel
theorem own_d_prog_199_6_30 : decode prog_199_method_6_code 30 = .ok (.goto 49, 3) := by decide +kernel
theorem own_d_prog_199_6_33 : decode prog_199_method_6_code 33 = .ok (.iload_n 0, 1) := by decide +kernel
theorem own_d_prog_199_6_34 : decode prog_199_method_6_code 34 = .ok (.ldc 37, 2) := by decide +kernel
theorem own_d_prog_199_6_36 : decode prog_199_method_6_code 36 = .ok (.if_icmp .ge 8, 3) := by decide +kernel
theorem own_d_prog_199_6_39 : decode prog_199_method_6_code 39 = .ok (.iconst 1, 1) := by decide +kernel
theorem own_d_prog_199_6_40 : decode prog_199_method_6_code 40 = .ok (.istore_n 1, 1) := by decide +kernel
theorem own_d_prog_199_6_41 : decode prog_199_method_6_code 41 = .ok (.goto 38, 3) := by decide +kernel
theorem own_d_prog_199_6_44 : decode prog_199_method_6_code 44 = .ok (.iload_n 0, 1) := by decide +kernel
theorem own_d_prog_199_6_45 : decode prog_199_method_6_code 45 = .ok (.ldc 38, 2) := by decide +kernel
theorem own_d_prog_199_6_47 : decode prog_199_method_6_code 47 = .ok (.if_icmp .gt 8, 3) := by decide +kernel
theorem own_d_prog_199_6_50 : decode prog_199_method_6_code 50 = .ok (.iconst 0, 1) := by decide +kernel
theorem own_d_prog_199_6_51 : decode prog_199_method_6_code 51 = .ok (.istore_n 1, 1) := by decide +kernel
theorem own_d_prog_199_6_52 : decode prog_199_method_6_code 52 = .ok (.goto 27, 3) := by decide +kernel
theorem own_d_prog_199_6_55 : decode prog_199_method_6_code 55 = .ok (.iload_n 0, 1) := by decide +kernel
theorem own_d_prog_199_6_56 : decode prog_199_method_6_code 56 = .ok (.ldc 39, 2) := by decide +kernel
theorem own_d_prog_199_6_58 : decode prog_199_method_6_code 58 = .ok (.if_icmp .le 15, 3) := by decide +kernel
theorem own_d_prog_199_6_61 : decode prog_199_method_6_code 61 = .ok (.iload_n 0, 1) := by decide +kernel
theorem own_d_prog_199_6_62 : decode prog_199_method_6_code 62 = .ok (.ldc 40, 2) := by decide +kernel
theorem own_d_prog_199_6_64 : decode prog_199_method_6_code 64 = .ok (.if_icmp .lt 13, 3) := by decide +kernel
theorem own_d_prog_199_6_67 : decode prog_199_method_6_code 67 = .ok (.iload_n 0, 1) := by decide +kernel
theorem own_d_prog_199_6_68 : decode prog_199_method_6_code 68 = .ok (.ldc 41, 2) := by decide +kernel
theorem own_d_prog_199_6_70 : decode prog_199_method_6_code 70 = .ok (.if_icmp .gt 7, 3) := by decide +kernel
theorem own_d_prog_199_6_73 : decode prog_199_method_6_code 73 = .ok (.iconst 1, 1) := by decide +kernel
theorem own_d_prog_199_6_74 : decode prog_199_method_6_code 74 = .ok (.goto 4, 3) := by decide +kernel
theorem own_d_prog_199_6_77 : decode prog_199_method_6_code 77 = .ok (.iconst 0, 1) := by decide +kernel
theorem own_d_prog_199_6_78 : decode prog_199_method_6_code 78 = .ok (.istore_n 1, 1) := by decide +kernel
theorem own_d_prog_199_6_79 : decode prog_199_method_6_code 79 = .ok (.iload_n 1, 1) := by decide +kernel
theorem own_d_prog_199_6_80 : decode prog_199_method_6_code 80 = .ok (.ireturn, 1) := by decide +kernel
theorem own_pd0 : parseMethodDescriptor "(I)Z" = some ⟨[.int], some .boolean⟩ := by decide +kernel
theorem own_pn0 : plainName "com/example/canox/canox/xml/XmlChars" = true := by first | (simp [plainName, overriddenIn]; done) | decide +kernel
theorem own_pn1 : plainName "com/example/canox/canox/xml/XmlCharsIsCharPinLaw" = true := by first | (simp [plainName, overriddenIn]; done) | decide +kernel
def own_isc (u : Int32) : Int32 := if u.toInt = 9 ∨ u.toInt = 10 ∨ u.toInt = 13 ∨ (32 ≤ u.toInt ∧ u.toInt ≤ 55295) ∨ (57344 ≤ u.toInt ∧ u.toInt ≤ 65533) ∨ (65536 ≤ u.toInt ∧ u.toInt ≤ 1114111) then 1 else 0
theorem own_and15 (k : Int32) : ¬ (k &&& (15 : Int32)) < 0 ∧ (k &&& (15 : Int32)) < (16 : Int32) := by
  have e : (k &&& (15 : Int32)).toInt = k.toInt % (2 ^ 4 : Nat) := c_mask k 15 4 (by decide) (by decide)
  simp only [Int32.lt_iff_toInt_lt, Int32.reduceToInt, e]; omega

def own_Q_own_rm1 (Z : State) (p0 : Int32) (h0 : Heap) (n0 : Nat) : Option Value → Heap → List Loc → Prop := fun v h L => v = some (.int (own_isc p0)) ∧ Fr n0 L ∧ h = h0
theorem own_ef_own_rm1 (m : MethodId) (x0 : Int32) : entryFrame m #[(.int x0)] 2 = mkF m 0 #[.val (.int x0), .unset] [] := by first | (simp [entryFrame, mkF, argsToLocals, Value.category]; done) | rfl
set_option maxRecDepth 65536 in
set_option maxHeartbeats 40000000 in
theorem own_rm1 (l : Launch) (Z : State) (a0 : Array Value) (hw : ∀ d ∈ tables_1, d.before a0 Z = true) (ws : List Jvm.Cond) (p0 : Int32) (h0 : Heap) (n0 : Nat) :
    MetFree l (⟨"com/example/canox/canox/xml/XmlChars", "isChar", "(I)Z"⟩ : MethodName) (head1 (Jvm.Cond.code (⟨"com/example/canox/canox/xml/XmlChars", "isChar", "(I)Z"⟩ : MethodName) prog_199_method_6_code 2 (some .boolean) :: ws) ({ frames := 0, cells := 0, slots := 0, locals := 0 } : Room)) (fun a U => a = #[(.int p0)] ∧ Z.Warmed39 U.vm ∧ U.heap = h0) (fun _ _ _ _ _ => True) (fun _ U o U' => ∃ v L, o = .returned v ∧ (own_Q_own_rm1 Z p0 h0 n0) v U'.heap L ∧ FrameEnd U o U' L ({ frames := 0, cells := 0, slots := 0, locals := 0 } : Room).cells ({ frames := 0, cells := 0, slots := 0, locals := 0 } : Room).slots) := by
  refine MetFree.of_bodySF (plainFor_of_name own_pn0) hisR ?_
  intro p e s m args below meth c s₁ Bd hml0 hP hK
  obtain ⟨rfl, hZ, hh⟩ := hP
  have hx := Bd.exec
  have hby := Bd.bytes
  have hml : c.maxLocals = 2 := hml0
  have hown : s.vm.findClass "com/example/canox/canox/xml/XmlChars" = some m.cls := findClass_of_methodNamed Bd.named
  have hnm := (name_of_methodNamed Bd.named Bd.method).1
  have hlk : meth.locks = false := BodyLoose.notSynchronized Bd
  have X0 : Stand p l e ({ frames := 0, cells := 0, slots := 0, locals := 0 } : Room) s m #[(.int p0)] below meth c s₁ [] 0 0 := Stand.of_body Bd
  have e0 : s₁.heap = h0 := by rw [← hh, Bd.state]; rfl
  have N0 := Fr.nil n0
  show own_Ends p e below s (own_Q_own_rm1 Z p0 h0 n0) ({ frames := 0, cells := 0, slots := 0, locals := 0 } : Room).cells ({ frames := 0, cells := 0, slots := 0, locals := 0 } : Room).slots _
  refine own_by (V := s₁.setTop (mkF m 0 #[.val (.int p0), .unset] [])) (fun t k => castTop (own_ef_own_rm1 m p0) k) ?_
  refine own_by (V := s₁.setTop (mkF m 1 #[.val (.int p0), .unset] [(.int p0)])) (fun t k => XS.iloadN X0.here hx rfl (hb hby own_d_prog_199_6_0) rfl  k) ?_
  refine own_by (V := s₁.setTop (mkF m 3 #[.val (.int p0), .unset] [(.int (32 : Int32)), (.int p0)])) (fun t k => XS.bipush X0.here hx rfl (hb hby own_d_prog_199_6_1) k) ?_
  by_cases hb3_1 : p0 < (32 : Int32)
  · refine own_by (V := s₁.setTop (mkF m 6 #[.val (.int p0), .unset] [])) (fun t k => XS.icmpNo X0.here hx rfl (hb hby own_d_prog_199_6_3) rfl (tlt hb3_1).2.1 k) ?_
    refine own_by (V := s₁.setTop (mkF m 7 #[.val (.int p0), .unset] [(.int p0)])) (fun t k => XS.iloadN X0.here hx rfl (hb hby own_d_prog_199_6_6) rfl  k) ?_
    refine own_by (V := s₁.setTop (mkF m 9 #[.val (.int p0), .unset] [(.int (9 : Int32)), (.int p0)])) (fun t k => XS.bipush X0.here hx rfl (hb hby own_d_prog_199_6_7) k) ?_
    by_cases hb9_2 : p0 = (9 : Int32)
    · refine own_by (V := s₁.setTop (mkF m 24 #[.val (.int p0), .unset] [])) (fun t k => XS.icmpYes X0.here hx rfl (pc0 := 9) (pc' := 24) rfl (hb hby own_d_prog_199_6_9) rfl (teq hb9_2).1 (by decide) (by decide) k) ?_
      refine own_by (V := s₁.setTop (mkF m 25 #[.val (.int p0), .unset] [(.int (1 : Int32))])) (fun t k => XS.iconst X0.here hx rfl (hb hby own_d_prog_199_6_24) k) ?_
      refine own_by (V := s₁.setTop (mkF m 29 #[.val (.int p0), .unset] [(.int (1 : Int32))])) (fun t k => XS.goto X0.here hx rfl (pc0 := 25) (pc' := 29) rfl (hb hby own_d_prog_199_6_25) (by decide) (by decide) k) ?_
      refine own_by (V := s₁.setTop (mkF m 30 #[.val (.int p0), .val (.int (1 : Int32))] [])) (fun t k => XS.istoreN X0.here hx rfl (hb hby own_d_prog_199_6_29) rfl (l' := #[.val (.int p0), .val (.int (1 : Int32))]) rfl k) ?_
      refine own_by (V := s₁.setTop (mkF m 79 #[.val (.int p0), .val (.int (1 : Int32))] [])) (fun t k => XS.goto X0.here hx rfl (pc0 := 30) (pc' := 79) rfl (hb hby own_d_prog_199_6_30) (by decide) (by decide) k) ?_
      refine own_by (V := s₁.setTop (mkF m 80 #[.val (.int p0), .val (.int (1 : Int32))] [(.int (1 : Int32))])) (fun t k => XS.iloadN X0.here hx rfl (hb hby own_d_prog_199_6_79) rfl  k) ?_
      refine own_retN X0 hx hlk e0 Bd.returns (t := .boolean) (by simp) rfl (hb hby own_d_prog_199_6_80) ?_ (by decide) (by decide)
      exact ⟨congrArg (fun z => some (Value.int z)) (show (1 : Int32) = (own_isc p0) from by (try simp only [Int32.lt_iff_toInt_lt, ← Int32.toInt_inj, own_neg1, Int32.reduceToInt] at hb3_1; try simp only [Int32.lt_iff_toInt_lt, ← Int32.toInt_inj, own_neg1, Int32.reduceToInt] at hb9_2; exact (if_pos (by omega)).symm)), N0, rfl⟩
    · refine own_by (V := s₁.setTop (mkF m 12 #[.val (.int p0), .unset] [])) (fun t k => XS.icmpNo X0.here hx rfl (hb hby own_d_prog_199_6_9) rfl (feq hb9_2).1 k) ?_
      refine own_by (V := s₁.setTop (mkF m 13 #[.val (.int p0), .unset] [(.int p0)])) (fun t k => XS.iloadN X0.here hx rfl (hb hby own_d_prog_199_6_12) rfl  k) ?_
      refine own_by (V := s₁.setTop (mkF m 15 #[.val (.int p0), .unset] [(.int (10 : Int32)), (.int p0)])) (fun t k => XS.bipush X0.here hx rfl (hb hby own_d_prog_199_6_13) k) ?_
      by_cases hb15_3 : p0 = (10 : Int32)
      · refine own_by (V := s₁.setTop (mkF m 24 #[.val (.int p0), .unset] [])) (fun t k => XS.icmpYes X0.here hx rfl (pc0 := 15) (pc' := 24) rfl (hb hby own_d_prog_199_6_15) rfl (teq hb15_3).1 (by decide) (by decide) k) ?_
        refine own_by (V := s₁.setTop (mkF m 25 #[.val (.int p0), .unset] [(.int (1 : Int32))])) (fun t k => XS.iconst X0.here hx rfl (hb hby own_d_prog_199_6_24) k) ?_
        refine own_by (V := s₁.setTop (mkF m 29 #[.val (.int p0), .unset] [(.int (1 : Int32))])) (fun t k => XS.goto X0.here hx rfl (pc0 := 25) (pc' := 29) rfl (hb hby own_d_prog_199_6_25) (by decide) (by decide) k) ?_
        refine own_by (V := s₁.setTop (mkF m 30 #[.val (.int p0), .val (.int (1 : Int32))] [])) (fun t k => XS.istoreN X0.here hx rfl (hb hby own_d_prog_199_6_29) rfl (l' := #[.val (.int p0), .val (.int (1 : Int32))]) rfl k) ?_
        refine own_by (V := s₁.setTop (mkF m 79 #[.val (.int p0), .val (.int (1 : Int32))] [])) (fun t k => XS.goto X0.here hx rfl (pc0 := 30) (pc' := 79) rfl (hb hby own_d_prog_199_6_30) (by decide) (by decide) k) ?_
        refine own_by (V := s₁.setTop (mkF m 80 #[.val (.int p0), .val (.int (1 : Int32))] [(.int (1 : Int32))])) (fun t k => XS.iloadN X0.here hx rfl (hb hby own_d_prog_199_6_79) rfl  k) ?_
        refine own_retN X0 hx hlk e0 Bd.returns (t := .boolean) (by simp) rfl (hb hby own_d_prog_199_6_80) ?_ (by decide) (by decide)
        exact ⟨congrArg (fun z => some (Value.int z)) (show (1 : Int32) = (own_isc p0) from by (try simp only [Int32.lt_iff_toInt_lt, ← Int32.toInt_inj, own_neg1, Int32.reduceToInt] at hb3_1; try simp only [Int32.lt_iff_toInt_lt, ← Int32.toInt_inj, own_neg1, Int32.reduceToInt] at hb9_2; try simp only [Int32.lt_iff_toInt_lt, ← Int32.toInt_inj, own_neg1, Int32.reduceToInt] at hb15_3; exact (if_pos (by omega)).symm)), N0, rfl⟩
      · refine own_by (V := s₁.setTop (mkF m 18 #[.val (.int p0), .unset] [])) (fun t k => XS.icmpNo X0.here hx rfl (hb hby own_d_prog_199_6_15) rfl (feq hb15_3).1 k) ?_
        refine own_by (V := s₁.setTop (mkF m 19 #[.val (.int p0), .unset] [(.int p0)])) (fun t k => XS.iloadN X0.here hx rfl (hb hby own_d_prog_199_6_18) rfl  k) ?_
        refine own_by (V := s₁.setTop (mkF m 21 #[.val (.int p0), .unset] [(.int (13 : Int32)), (.int p0)])) (fun t k => XS.bipush X0.here hx rfl (hb hby own_d_prog_199_6_19) k) ?_
        by_cases hb21_4 : p0 = (13 : Int32)
        · refine own_by (V := s₁.setTop (mkF m 24 #[.val (.int p0), .unset] [])) (fun t k => XS.icmpNo X0.here hx rfl (hb hby own_d_prog_199_6_21) rfl (teq hb21_4).2 k) ?_
          refine own_by (V := s₁.setTop (mkF m 25 #[.val (.int p0), .unset] [(.int (1 : Int32))])) (fun t k => XS.iconst X0.here hx rfl (hb hby own_d_prog_199_6_24) k) ?_
          refine own_by (V := s₁.setTop (mkF m 29 #[.val (.int p0), .unset] [(.int (1 : Int32))])) (fun t k => XS.goto X0.here hx rfl (pc0 := 25) (pc' := 29) rfl (hb hby own_d_prog_199_6_25) (by decide) (by decide) k) ?_
          refine own_by (V := s₁.setTop (mkF m 30 #[.val (.int p0), .val (.int (1 : Int32))] [])) (fun t k => XS.istoreN X0.here hx rfl (hb hby own_d_prog_199_6_29) rfl (l' := #[.val (.int p0), .val (.int (1 : Int32))]) rfl k) ?_
          refine own_by (V := s₁.setTop (mkF m 79 #[.val (.int p0), .val (.int (1 : Int32))] [])) (fun t k => XS.goto X0.here hx rfl (pc0 := 30) (pc' := 79) rfl (hb hby own_d_prog_199_6_30) (by decide) (by decide) k) ?_
          refine own_by (V := s₁.setTop (mkF m 80 #[.val (.int p0), .val (.int (1 : Int32))] [(.int (1 : Int32))])) (fun t k => XS.iloadN X0.here hx rfl (hb hby own_d_prog_199_6_79) rfl  k) ?_
          refine own_retN X0 hx hlk e0 Bd.returns (t := .boolean) (by simp) rfl (hb hby own_d_prog_199_6_80) ?_ (by decide) (by decide)
          exact ⟨congrArg (fun z => some (Value.int z)) (show (1 : Int32) = (own_isc p0) from by (try simp only [Int32.lt_iff_toInt_lt, ← Int32.toInt_inj, own_neg1, Int32.reduceToInt] at hb3_1; try simp only [Int32.lt_iff_toInt_lt, ← Int32.toInt_inj, own_neg1, Int32.reduceToInt] at hb9_2; try simp only [Int32.lt_iff_toInt_lt, ← Int32.toInt_inj, own_neg1, Int32.reduceToInt] at hb15_3; try simp only [Int32.lt_iff_toInt_lt, ← Int32.toInt_inj, own_neg1, Int32.reduceToInt] at hb21_4; exact (if_pos (by omega)).symm)), N0, rfl⟩
        · refine own_by (V := s₁.setTop (mkF m 28 #[.val (.int p0), .unset] [])) (fun t k => XS.icmpYes X0.here hx rfl (pc0 := 21) (pc' := 28) rfl (hb hby own_d_prog_199_6_21) rfl (feq hb21_4).2 (by decide) (by decide) k) ?_
          refine own_by (V := s₁.setTop (mkF m 29 #[.val (.int p0), .unset] [(.int (0 : Int32))])) (fun t k => XS.iconst X0.here hx rfl (hb hby own_d_prog_199_6_28) k) ?_
          refine own_by (V := s₁.setTop (mkF m 30 #[.val (.int p0), .val (.int (0 : Int32))] [])) (fun t k => XS.istoreN X0.here hx rfl (hb hby own_d_prog_199_6_29) rfl (l' := #[.val (.int p0), .val (.int (0 : Int32))]) rfl k) ?_
          refine own_by (V := s₁.setTop (mkF m 79 #[.val (.int p0), .val (.int (0 : Int32))] [])) (fun t k => XS.goto X0.here hx rfl (pc0 := 30) (pc' := 79) rfl (hb hby own_d_prog_199_6_30) (by decide) (by decide) k) ?_
          refine own_by (V := s₁.setTop (mkF m 80 #[.val (.int p0), .val (.int (0 : Int32))] [(.int (0 : Int32))])) (fun t k => XS.iloadN X0.here hx rfl (hb hby own_d_prog_199_6_79) rfl  k) ?_
          refine own_retN X0 hx hlk e0 Bd.returns (t := .boolean) (by simp) rfl (hb hby own_d_prog_199_6_80) ?_ (by decide) (by decide)
          exact ⟨congrArg (fun z => some (Value.int z)) (show (0 : Int32) = (own_isc p0) from by (try simp only [Int32.lt_iff_toInt_lt, ← Int32.toInt_inj, own_neg1, Int32.reduceToInt] at hb3_1; try simp only [Int32.lt_iff_toInt_lt, ← Int32.toInt_inj, own_neg1, Int32.reduceToInt] at hb9_2; try simp only [Int32.lt_iff_toInt_lt, ← Int32.toInt_inj, own_neg1, Int32.reduceToInt] at hb15_3; try simp only [Int32.lt_iff_toInt_lt, ← Int32.toInt_inj, own_neg1, Int32.reduceToInt] at hb21_4; exact (if_neg (by omega)).symm)), N0, rfl⟩
  · refine own_by (V := s₁.setTop (mkF m 33 #[.val (.int p0), .unset] [])) (fun t k => XS.icmpYes X0.here hx rfl (pc0 := 3) (pc' := 33) rfl (hb hby own_d_prog_199_6_3) rfl (flt hb3_1).2.1 (by decide) (by decide) k) ?_
    refine own_by (V := s₁.setTop (mkF m 34 #[.val (.int p0), .unset] [(.int p0)])) (fun t k => XS.iloadN X0.here hx rfl (hb hby own_d_prog_199_6_33) rfl  k) ?_
    refine own_by (V := s₁.setTop (mkF m 36 #[.val (.int p0), .unset] [(.int (55296 : Int32)), (.int p0)])) (Jvm.Stand.ldcInt X0 hx hown (mvT hZ (hw _ (List.mem_of_getElem? (i := 19) rfl))) (g := (mkF m 34 #[.val (.int p0), .unset] [(.int p0)])) rfl (hb hby own_d_prog_199_6_34)) ?_
    by_cases hb36_5 : p0 < (55296 : Int32)
    · refine own_by (V := s₁.setTop (mkF m 39 #[.val (.int p0), .unset] [])) (fun t k => XS.icmpNo X0.here hx rfl (hb hby own_d_prog_199_6_36) rfl (tlt hb36_5).2.1 k) ?_
      refine own_by (V := s₁.setTop (mkF m 40 #[.val (.int p0), .unset] [(.int (1 : Int32))])) (fun t k => XS.iconst X0.here hx rfl (hb hby own_d_prog_199_6_39) k) ?_
      refine own_by (V := s₁.setTop (mkF m 41 #[.val (.int p0), .val (.int (1 : Int32))] [])) (fun t k => XS.istoreN X0.here hx rfl (hb hby own_d_prog_199_6_40) rfl (l' := #[.val (.int p0), .val (.int (1 : Int32))]) rfl k) ?_
      refine own_by (V := s₁.setTop (mkF m 79 #[.val (.int p0), .val (.int (1 : Int32))] [])) (fun t k => XS.goto X0.here hx rfl (pc0 := 41) (pc' := 79) rfl (hb hby own_d_prog_199_6_41) (by decide) (by decide) k) ?_
      refine own_by (V := s₁.setTop (mkF m 80 #[.val (.int p0), .val (.int (1 : Int32))] [(.int (1 : Int32))])) (fun t k => XS.iloadN X0.here hx rfl (hb hby own_d_prog_199_6_79) rfl  k) ?_
      refine own_retN X0 hx hlk e0 Bd.returns (t := .boolean) (by simp) rfl (hb hby own_d_prog_199_6_80) ?_ (by decide) (by decide)
      exact ⟨congrArg (fun z => some (Value.int z)) (show (1 : Int32) = (own_isc p0) from by (try simp only [Int32.lt_iff_toInt_lt, ← Int32.toInt_inj, own_neg1, Int32.reduceToInt] at hb3_1; try simp only [Int32.lt_iff_toInt_lt, ← Int32.toInt_inj, own_neg1, Int32.reduceToInt] at hb36_5; exact (if_pos (by omega)).symm)), N0, rfl⟩
    · refine own_by (V := s₁.setTop (mkF m 44 #[.val (.int p0), .unset] [])) (fun t k => XS.icmpYes X0.here hx rfl (pc0 := 36) (pc' := 44) rfl (hb hby own_d_prog_199_6_36) rfl (flt hb36_5).2.1 (by decide) (by decide) k) ?_
      refine own_by (V := s₁.setTop (mkF m 45 #[.val (.int p0), .unset] [(.int p0)])) (fun t k => XS.iloadN X0.here hx rfl (hb hby own_d_prog_199_6_44) rfl  k) ?_
      refine own_by (V := s₁.setTop (mkF m 47 #[.val (.int p0), .unset] [(.int (57343 : Int32)), (.int p0)])) (Jvm.Stand.ldcInt X0 hx hown (mvT hZ (hw _ (List.mem_of_getElem? (i := 20) rfl))) (g := (mkF m 45 #[.val (.int p0), .unset] [(.int p0)])) rfl (hb hby own_d_prog_199_6_45)) ?_
      by_cases hb47_6 : (57343 : Int32) < p0
      · refine own_by (V := s₁.setTop (mkF m 55 #[.val (.int p0), .unset] [])) (fun t k => XS.icmpYes X0.here hx rfl (pc0 := 47) (pc' := 55) rfl (hb hby own_d_prog_199_6_47) rfl (tlt hb47_6).2.2.1 (by decide) (by decide) k) ?_
        refine own_by (V := s₁.setTop (mkF m 56 #[.val (.int p0), .unset] [(.int p0)])) (fun t k => XS.iloadN X0.here hx rfl (hb hby own_d_prog_199_6_55) rfl  k) ?_
        refine own_by (V := s₁.setTop (mkF m 58 #[.val (.int p0), .unset] [(.int (65533 : Int32)), (.int p0)])) (Jvm.Stand.ldcInt X0 hx hown (mvT hZ (hw _ (List.mem_of_getElem? (i := 21) rfl))) (g := (mkF m 56 #[.val (.int p0), .unset] [(.int p0)])) rfl (hb hby own_d_prog_199_6_56)) ?_
        by_cases hb58_7 : (65533 : Int32) < p0
        · refine own_by (V := s₁.setTop (mkF m 61 #[.val (.int p0), .unset] [])) (fun t k => XS.icmpNo X0.here hx rfl (hb hby own_d_prog_199_6_58) rfl (tlt hb58_7).2.2.2 k) ?_
          refine own_by (V := s₁.setTop (mkF m 62 #[.val (.int p0), .unset] [(.int p0)])) (fun t k => XS.iloadN X0.here hx rfl (hb hby own_d_prog_199_6_61) rfl  k) ?_
          refine own_by (V := s₁.setTop (mkF m 64 #[.val (.int p0), .unset] [(.int (65536 : Int32)), (.int p0)])) (Jvm.Stand.ldcInt X0 hx hown (mvT hZ (hw _ (List.mem_of_getElem? (i := 22) rfl))) (g := (mkF m 62 #[.val (.int p0), .unset] [(.int p0)])) rfl (hb hby own_d_prog_199_6_62)) ?_
          by_cases hb64_8 : p0 < (65536 : Int32)
          · refine own_by (V := s₁.setTop (mkF m 77 #[.val (.int p0), .unset] [])) (fun t k => XS.icmpYes X0.here hx rfl (pc0 := 64) (pc' := 77) rfl (hb hby own_d_prog_199_6_64) rfl (tlt hb64_8).1 (by decide) (by decide) k) ?_
            refine own_by (V := s₁.setTop (mkF m 78 #[.val (.int p0), .unset] [(.int (0 : Int32))])) (fun t k => XS.iconst X0.here hx rfl (hb hby own_d_prog_199_6_77) k) ?_
            refine own_by (V := s₁.setTop (mkF m 79 #[.val (.int p0), .val (.int (0 : Int32))] [])) (fun t k => XS.istoreN X0.here hx rfl (hb hby own_d_prog_199_6_78) rfl (l' := #[.val (.int p0), .val (.int (0 : Int32))]) rfl k) ?_
            refine own_by (V := s₁.setTop (mkF m 80 #[.val (.int p0), .val (.int (0 : Int32))] [(.int (0 : Int32))])) (fun t k => XS.iloadN X0.here hx rfl (hb hby own_d_prog_199_6_79) rfl  k) ?_
            refine own_retN X0 hx hlk e0 Bd.returns (t := .boolean) (by simp) rfl (hb hby own_d_prog_199_6_80) ?_ (by decide) (by decide)
            exact ⟨congrArg (fun z => some (Value.int z)) (show (0 : Int32) = (own_isc p0) from by (try simp only [Int32.lt_iff_toInt_lt, ← Int32.toInt_inj, own_neg1, Int32.reduceToInt] at hb3_1; try simp only [Int32.lt_iff_toInt_lt, ← Int32.toInt_inj, own_neg1, Int32.reduceToInt] at hb36_5; try simp only [Int32.lt_iff_toInt_lt, ← Int32.toInt_inj, own_neg1, Int32.reduceToInt] at hb47_6; try simp only [Int32.lt_iff_toInt_lt, ← Int32.toInt_inj, own_neg1, Int32.reduceToInt] at hb58_7; try simp only [Int32.lt_iff_toInt_lt, ← Int32.toInt_inj, own_neg1, Int32.reduceToInt] at hb64_8; exact (if_neg (by omega)).symm)), N0, rfl⟩
          · refine own_by (V := s₁.setTop (mkF m 67 #[.val (.int p0), .unset] [])) (fun t k => XS.icmpNo X0.here hx rfl (hb hby own_d_prog_199_6_64) rfl (flt hb64_8).1 k) ?_
            refine own_by (V := s₁.setTop (mkF m 68 #[.val (.int p0), .unset] [(.int p0)])) (fun t k => XS.iloadN X0.here hx rfl (hb hby own_d_prog_199_6_67) rfl  k) ?_
            refine own_by (V := s₁.setTop (mkF m 70 #[.val (.int p0), .unset] [(.int (1114111 : Int32)), (.int p0)])) (Jvm.Stand.ldcInt X0 hx hown (mvT hZ (hw _ (List.mem_of_getElem? (i := 23) rfl))) (g := (mkF m 68 #[.val (.int p0), .unset] [(.int p0)])) rfl (hb hby own_d_prog_199_6_68)) ?_
            by_cases hb70_9 : (1114111 : Int32) < p0
            · refine own_by (V := s₁.setTop (mkF m 77 #[.val (.int p0), .unset] [])) (fun t k => XS.icmpYes X0.here hx rfl (pc0 := 70) (pc' := 77) rfl (hb hby own_d_prog_199_6_70) rfl (tlt hb70_9).2.2.1 (by decide) (by decide) k) ?_
              refine own_by (V := s₁.setTop (mkF m 78 #[.val (.int p0), .unset] [(.int (0 : Int32))])) (fun t k => XS.iconst X0.here hx rfl (hb hby own_d_prog_199_6_77) k) ?_
              refine own_by (V := s₁.setTop (mkF m 79 #[.val (.int p0), .val (.int (0 : Int32))] [])) (fun t k => XS.istoreN X0.here hx rfl (hb hby own_d_prog_199_6_78) rfl (l' := #[.val (.int p0), .val (.int (0 : Int32))]) rfl k) ?_
              refine own_by (V := s₁.setTop (mkF m 80 #[.val (.int p0), .val (.int (0 : Int32))] [(.int (0 : Int32))])) (fun t k => XS.iloadN X0.here hx rfl (hb hby own_d_prog_199_6_79) rfl  k) ?_
              refine own_retN X0 hx hlk e0 Bd.returns (t := .boolean) (by simp) rfl (hb hby own_d_prog_199_6_80) ?_ (by decide) (by decide)
              exact ⟨congrArg (fun z => some (Value.int z)) (show (0 : Int32) = (own_isc p0) from by (try simp only [Int32.lt_iff_toInt_lt, ← Int32.toInt_inj, own_neg1, Int32.reduceToInt] at hb3_1; try simp only [Int32.lt_iff_toInt_lt, ← Int32.toInt_inj, own_neg1, Int32.reduceToInt] at hb36_5; try simp only [Int32.lt_iff_toInt_lt, ← Int32.toInt_inj, own_neg1, Int32.reduceToInt] at hb47_6; try simp only [Int32.lt_iff_toInt_lt, ← Int32.toInt_inj, own_neg1, Int32.reduceToInt] at hb58_7; try simp only [Int32.lt_iff_toInt_lt, ← Int32.toInt_inj, own_neg1, Int32.reduceToInt] at hb64_8; try simp only [Int32.lt_iff_toInt_lt, ← Int32.toInt_inj, own_neg1, Int32.reduceToInt] at hb70_9; exact (if_neg (by omega)).symm)), N0, rfl⟩
            · refine own_by (V := s₁.setTop (mkF m 73 #[.val (.int p0), .unset] [])) (fun t k => XS.icmpNo X0.here hx rfl (hb hby own_d_prog_199_6_70) rfl (flt hb70_9).2.2.1 k) ?_
              refine own_by (V := s₁.setTop (mkF m 74 #[.val (.int p0), .unset] [(.int (1 : Int32))])) (fun t k => XS.iconst X0.here hx rfl (hb hby own_d_prog_199_6_73) k) ?_
              refine own_by (V := s₁.setTop (mkF m 78 #[.val (.int p0), .unset] [(.int (1 : Int32))])) (fun t k => XS.goto X0.here hx rfl (pc0 := 74) (pc' := 78) rfl (hb hby own_d_prog_199_6_74) (by decide) (by decide) k) ?_
              refine own_by (V := s₁.setTop (mkF m 79 #[.val (.int p0), .val (.int (1 : Int32))] [])) (fun t k => XS.istoreN X0.here hx rfl (hb hby own_d_prog_199_6_78) rfl (l' := #[.val (.int p0), .val (.int (1 : Int32))]) rfl k) ?_
              refine own_by (V := s₁.setTop (mkF m 80 #[.val (.int p0), .val (.int (1 : Int32))] [(.int (1 : Int32))])) (fun t k => XS.iloadN X0.here hx rfl (hb hby own_d_prog_199_6_79) rfl  k) ?_
              refine own_retN X0 hx hlk e0 Bd.returns (t := .boolean) (by simp) rfl (hb hby own_d_prog_199_6_80) ?_ (by decide) (by decide)
              exact ⟨congrArg (fun z => some (Value.int z)) (show (1 : Int32) = (own_isc p0) from by (try simp only [Int32.lt_iff_toInt_lt, ← Int32.toInt_inj, own_neg1, Int32.reduceToInt] at hb3_1; try simp only [Int32.lt_iff_toInt_lt, ← Int32.toInt_inj, own_neg1, Int32.reduceToInt] at hb36_5; try simp only [Int32.lt_iff_toInt_lt, ← Int32.toInt_inj, own_neg1, Int32.reduceToInt] at hb47_6; try simp only [Int32.lt_iff_toInt_lt, ← Int32.toInt_inj, own_neg1, Int32.reduceToInt] at hb58_7; try simp only [Int32.lt_iff_toInt_lt, ← Int32.toInt_inj, own_neg1, Int32.reduceToInt] at hb64_8; try simp only [Int32.lt_iff_toInt_lt, ← Int32.toInt_inj, own_neg1, Int32.reduceToInt] at hb70_9; exact (if_pos (by omega)).symm)), N0, rfl⟩
        · refine own_by (V := s₁.setTop (mkF m 73 #[.val (.int p0), .unset] [])) (fun t k => XS.icmpYes X0.here hx rfl (pc0 := 58) (pc' := 73) rfl (hb hby own_d_prog_199_6_58) rfl (flt hb58_7).2.2.2 (by decide) (by decide) k) ?_
          refine own_by (V := s₁.setTop (mkF m 74 #[.val (.int p0), .unset] [(.int (1 : Int32))])) (fun t k => XS.iconst X0.here hx rfl (hb hby own_d_prog_199_6_73) k) ?_
          refine own_by (V := s₁.setTop (mkF m 78 #[.val (.int p0), .unset] [(.int (1 : Int32))])) (fun t k => XS.goto X0.here hx rfl (pc0 := 74) (pc' := 78) rfl (hb hby own_d_prog_199_6_74) (by decide) (by decide) k) ?_
          refine own_by (V := s₁.setTop (mkF m 79 #[.val (.int p0), .val (.int (1 : Int32))] [])) (fun t k => XS.istoreN X0.here hx rfl (hb hby own_d_prog_199_6_78) rfl (l' := #[.val (.int p0), .val (.int (1 : Int32))]) rfl k) ?_
          refine own_by (V := s₁.setTop (mkF m 80 #[.val (.int p0), .val (.int (1 : Int32))] [(.int (1 : Int32))])) (fun t k => XS.iloadN X0.here hx rfl (hb hby own_d_prog_199_6_79) rfl  k) ?_
          refine own_retN X0 hx hlk e0 Bd.returns (t := .boolean) (by simp) rfl (hb hby own_d_prog_199_6_80) ?_ (by decide) (by decide)
          exact ⟨congrArg (fun z => some (Value.int z)) (show (1 : Int32) = (own_isc p0) from by (try simp only [Int32.lt_iff_toInt_lt, ← Int32.toInt_inj, own_neg1, Int32.reduceToInt] at hb3_1; try simp only [Int32.lt_iff_toInt_lt, ← Int32.toInt_inj, own_neg1, Int32.reduceToInt] at hb36_5; try simp only [Int32.lt_iff_toInt_lt, ← Int32.toInt_inj, own_neg1, Int32.reduceToInt] at hb47_6; try simp only [Int32.lt_iff_toInt_lt, ← Int32.toInt_inj, own_neg1, Int32.reduceToInt] at hb58_7; exact (if_pos (by omega)).symm)), N0, rfl⟩
      · refine own_by (V := s₁.setTop (mkF m 50 #[.val (.int p0), .unset] [])) (fun t k => XS.icmpNo X0.here hx rfl (hb hby own_d_prog_199_6_47) rfl (flt hb47_6).2.2.1 k) ?_
        refine own_by (V := s₁.setTop (mkF m 51 #[.val (.int p0), .unset] [(.int (0 : Int32))])) (fun t k => XS.iconst X0.here hx rfl (hb hby own_d_prog_199_6_50) k) ?_
        refine own_by (V := s₁.setTop (mkF m 52 #[.val (.int p0), .val (.int (0 : Int32))] [])) (fun t k => XS.istoreN X0.here hx rfl (hb hby own_d_prog_199_6_51) rfl (l' := #[.val (.int p0), .val (.int (0 : Int32))]) rfl k) ?_
        refine own_by (V := s₁.setTop (mkF m 79 #[.val (.int p0), .val (.int (0 : Int32))] [])) (fun t k => XS.goto X0.here hx rfl (pc0 := 52) (pc' := 79) rfl (hb hby own_d_prog_199_6_52) (by decide) (by decide) k) ?_
        refine own_by (V := s₁.setTop (mkF m 80 #[.val (.int p0), .val (.int (0 : Int32))] [(.int (0 : Int32))])) (fun t k => XS.iloadN X0.here hx rfl (hb hby own_d_prog_199_6_79) rfl  k) ?_
        refine own_retN X0 hx hlk e0 Bd.returns (t := .boolean) (by simp) rfl (hb hby own_d_prog_199_6_80) ?_ (by decide) (by decide)
        exact ⟨congrArg (fun z => some (Value.int z)) (show (0 : Int32) = (own_isc p0) from by (try simp only [Int32.lt_iff_toInt_lt, ← Int32.toInt_inj, own_neg1, Int32.reduceToInt] at hb3_1; try simp only [Int32.lt_iff_toInt_lt, ← Int32.toInt_inj, own_neg1, Int32.reduceToInt] at hb36_5; try simp only [Int32.lt_iff_toInt_lt, ← Int32.toInt_inj, own_neg1, Int32.reduceToInt] at hb47_6; exact (if_neg (by omega)).symm)), N0, rfl⟩
def own_Q_own_rm2 (Z : State) (p0 : Int32) (h0 : Heap) (n0 : Nat) : Option Value → Heap → List Loc → Prop := fun v h L => v = some (.int (own_isc p0)) ∧ Fr n0 L ∧ h = h0
theorem own_ef_own_rm2 (m : MethodId) (x0 : Int32) : entryFrame m #[(.int x0)] 1 = mkF m 0 #[.val (.int x0)] [] := by first | (simp [entryFrame, mkF, argsToLocals, Value.category]; done) | rfl
set_option maxRecDepth 65536 in
set_option maxHeartbeats 40000000 in
theorem own_rm2 (l : Launch) (Z : State) (a0 : Array Value) (hw : ∀ d ∈ tables_1, d.before a0 Z = true) (ws : List Jvm.Cond) (p0 : Int32) (h0 : Heap) (n0 : Nat) :
    MetFree l (⟨"com/example/canox/canox/xml/XmlCharsIsCharPinLaw", "inProduction2", "(I)Z"⟩ : MethodName) (head1 (Jvm.Cond.code (⟨"com/example/canox/canox/xml/XmlCharsIsCharPinLaw", "inProduction2", "(I)Z"⟩ : MethodName) method_2_code 1 (some .boolean) :: ws) ({ frames := 0, cells := 0, slots := 0, locals := 0 } : Room)) (fun a U => a = #[(.int p0)] ∧ Z.Warmed39 U.vm ∧ U.heap = h0) (fun _ _ _ _ _ => True) (fun _ U o U' => ∃ v L, o = .returned v ∧ (own_Q_own_rm2 Z p0 h0 n0) v U'.heap L ∧ FrameEnd U o U' L ({ frames := 0, cells := 0, slots := 0, locals := 0 } : Room).cells ({ frames := 0, cells := 0, slots := 0, locals := 0 } : Room).slots) := by
  refine MetFree.of_bodySF (plainFor_of_name own_pn1) hisR ?_
  intro p e s m args below meth c s₁ Bd hml0 hP hK
  obtain ⟨rfl, hZ, hh⟩ := hP
  have hx := Bd.exec
  have hby := Bd.bytes
  have hml : c.maxLocals = 1 := hml0
  have hown : s.vm.findClass "com/example/canox/canox/xml/XmlCharsIsCharPinLaw" = some m.cls := findClass_of_methodNamed Bd.named
  have hnm := (name_of_methodNamed Bd.named Bd.method).1
  have hlk : meth.locks = false := BodyLoose.notSynchronized Bd
  have X0 : Stand p l e ({ frames := 0, cells := 0, slots := 0, locals := 0 } : Room) s m #[(.int p0)] below meth c s₁ [] 0 0 := Stand.of_body Bd
  have e0 : s₁.heap = h0 := by rw [← hh, Bd.state]; rfl
  have N0 := Fr.nil n0
  show own_Ends p e below s (own_Q_own_rm2 Z p0 h0 n0) ({ frames := 0, cells := 0, slots := 0, locals := 0 } : Room).cells ({ frames := 0, cells := 0, slots := 0, locals := 0 } : Room).slots _
  refine own_by (V := s₁.setTop (mkF m 0 #[.val (.int p0)] [])) (fun t k => castTop (own_ef_own_rm2 m p0) k) ?_
  refine own_by (V := s₁.setTop (mkF m 1 #[.val (.int p0)] [(.int p0)])) (fun t k => XS.iloadN X0.here hx rfl (hb hby own_d_method_2_0) rfl  k) ?_
  refine own_by (V := s₁.setTop (mkF m 3 #[.val (.int p0)] [(.int (9 : Int32)), (.int p0)])) (fun t k => XS.bipush X0.here hx rfl (hb hby own_d_method_2_1) k) ?_
  by_cases hb3_1 : p0 = (9 : Int32)
  · refine own_by (V := s₁.setTop (mkF m 54 #[.val (.int p0)] [])) (fun t k => XS.icmpYes X0.here hx rfl (pc0 := 3) (pc' := 54) rfl (hb hby own_d_method_2_3) rfl (teq hb3_1).1 (by decide) (by decide) k) ?_
    refine own_by (V := s₁.setTop (mkF m 55 #[.val (.int p0)] [(.int (1 : Int32))])) (fun t k => XS.iconst X0.here hx rfl (hb hby own_d_method_2_54) k) ?_
    refine own_by (V := s₁.setTop (mkF m 59 #[.val (.int p0)] [(.int (1 : Int32))])) (fun t k => XS.goto X0.here hx rfl (pc0 := 55) (pc' := 59) rfl (hb hby own_d_method_2_55) (by decide) (by decide) k) ?_
    refine own_retN X0 hx hlk e0 Bd.returns (t := .boolean) (by simp) rfl (hb hby own_d_method_2_59) ?_ (by decide) (by decide)
    exact ⟨congrArg (fun z => some (Value.int z)) (show (1 : Int32) = (own_isc p0) from by (try simp only [Int32.lt_iff_toInt_lt, ← Int32.toInt_inj, own_neg1, Int32.reduceToInt] at hb3_1; exact (if_pos (by omega)).symm)), N0, rfl⟩
  · refine own_by (V := s₁.setTop (mkF m 6 #[.val (.int p0)] [])) (fun t k => XS.icmpNo X0.here hx rfl (hb hby own_d_method_2_3) rfl (feq hb3_1).1 k) ?_
    refine own_by (V := s₁.setTop (mkF m 7 #[.val (.int p0)] [(.int p0)])) (fun t k => XS.iloadN X0.here hx rfl (hb hby own_d_method_2_6) rfl  k) ?_
    refine own_by (V := s₁.setTop (mkF m 9 #[.val (.int p0)] [(.int (10 : Int32)), (.int p0)])) (fun t k => XS.bipush X0.here hx rfl (hb hby own_d_method_2_7) k) ?_
    by_cases hb9_2 : p0 = (10 : Int32)
    · refine own_by (V := s₁.setTop (mkF m 54 #[.val (.int p0)] [])) (fun t k => XS.icmpYes X0.here hx rfl (pc0 := 9) (pc' := 54) rfl (hb hby own_d_method_2_9) rfl (teq hb9_2).1 (by decide) (by decide) k) ?_
      refine own_by (V := s₁.setTop (mkF m 55 #[.val (.int p0)] [(.int (1 : Int32))])) (fun t k => XS.iconst X0.here hx rfl (hb hby own_d_method_2_54) k) ?_
      refine own_by (V := s₁.setTop (mkF m 59 #[.val (.int p0)] [(.int (1 : Int32))])) (fun t k => XS.goto X0.here hx rfl (pc0 := 55) (pc' := 59) rfl (hb hby own_d_method_2_55) (by decide) (by decide) k) ?_
      refine own_retN X0 hx hlk e0 Bd.returns (t := .boolean) (by simp) rfl (hb hby own_d_method_2_59) ?_ (by decide) (by decide)
      exact ⟨congrArg (fun z => some (Value.int z)) (show (1 : Int32) = (own_isc p0) from by (try simp only [Int32.lt_iff_toInt_lt, ← Int32.toInt_inj, own_neg1, Int32.reduceToInt] at hb3_1; try simp only [Int32.lt_iff_toInt_lt, ← Int32.toInt_inj, own_neg1, Int32.reduceToInt] at hb9_2; exact (if_pos (by omega)).symm)), N0, rfl⟩
    · refine own_by (V := s₁.setTop (mkF m 12 #[.val (.int p0)] [])) (fun t k => XS.icmpNo X0.here hx rfl (hb hby own_d_method_2_9) rfl (feq hb9_2).1 k) ?_
      refine own_by (V := s₁.setTop (mkF m 13 #[.val (.int p0)] [(.int p0)])) (fun t k => XS.iloadN X0.here hx rfl (hb hby own_d_method_2_12) rfl  k) ?_
      refine own_by (V := s₁.setTop (mkF m 15 #[.val (.int p0)] [(.int (13 : Int32)), (.int p0)])) (fun t k => XS.bipush X0.here hx rfl (hb hby own_d_method_2_13) k) ?_
      by_cases hb15_3 : p0 = (13 : Int32)
      · refine own_by (V := s₁.setTop (mkF m 54 #[.val (.int p0)] [])) (fun t k => XS.icmpYes X0.here hx rfl (pc0 := 15) (pc' := 54) rfl (hb hby own_d_method_2_15) rfl (teq hb15_3).1 (by decide) (by decide) k) ?_
        refine own_by (V := s₁.setTop (mkF m 55 #[.val (.int p0)] [(.int (1 : Int32))])) (fun t k => XS.iconst X0.here hx rfl (hb hby own_d_method_2_54) k) ?_
        refine own_by (V := s₁.setTop (mkF m 59 #[.val (.int p0)] [(.int (1 : Int32))])) (fun t k => XS.goto X0.here hx rfl (pc0 := 55) (pc' := 59) rfl (hb hby own_d_method_2_55) (by decide) (by decide) k) ?_
        refine own_retN X0 hx hlk e0 Bd.returns (t := .boolean) (by simp) rfl (hb hby own_d_method_2_59) ?_ (by decide) (by decide)
        exact ⟨congrArg (fun z => some (Value.int z)) (show (1 : Int32) = (own_isc p0) from by (try simp only [Int32.lt_iff_toInt_lt, ← Int32.toInt_inj, own_neg1, Int32.reduceToInt] at hb3_1; try simp only [Int32.lt_iff_toInt_lt, ← Int32.toInt_inj, own_neg1, Int32.reduceToInt] at hb9_2; try simp only [Int32.lt_iff_toInt_lt, ← Int32.toInt_inj, own_neg1, Int32.reduceToInt] at hb15_3; exact (if_pos (by omega)).symm)), N0, rfl⟩
      · refine own_by (V := s₁.setTop (mkF m 18 #[.val (.int p0)] [])) (fun t k => XS.icmpNo X0.here hx rfl (hb hby own_d_method_2_15) rfl (feq hb15_3).1 k) ?_
        refine own_by (V := s₁.setTop (mkF m 19 #[.val (.int p0)] [(.int p0)])) (fun t k => XS.iloadN X0.here hx rfl (hb hby own_d_method_2_18) rfl  k) ?_
        refine own_by (V := s₁.setTop (mkF m 21 #[.val (.int p0)] [(.int (32 : Int32)), (.int p0)])) (fun t k => XS.bipush X0.here hx rfl (hb hby own_d_method_2_19) k) ?_
        by_cases hb21_4 : p0 < (32 : Int32)
        · refine own_by (V := s₁.setTop (mkF m 30 #[.val (.int p0)] [])) (fun t k => XS.icmpYes X0.here hx rfl (pc0 := 21) (pc' := 30) rfl (hb hby own_d_method_2_21) rfl (tlt hb21_4).1 (by decide) (by decide) k) ?_
          refine own_by (V := s₁.setTop (mkF m 31 #[.val (.int p0)] [(.int p0)])) (fun t k => XS.iloadN X0.here hx rfl (hb hby own_d_method_2_30) rfl  k) ?_
          refine own_by (V := s₁.setTop (mkF m 33 #[.val (.int p0)] [(.int (57344 : Int32)), (.int p0)])) (Jvm.Stand.ldcInt X0 hx hown (mvT hZ (hw _ (List.mem_of_getElem? (i := 2) rfl))) (g := (mkF m 31 #[.val (.int p0)] [(.int p0)])) rfl (hb hby own_d_method_2_31)) ?_
          by_cases hb33_5 : p0 < (57344 : Int32)
          · refine own_by (V := s₁.setTop (mkF m 42 #[.val (.int p0)] [])) (fun t k => XS.icmpYes X0.here hx rfl (pc0 := 33) (pc' := 42) rfl (hb hby own_d_method_2_33) rfl (tlt hb33_5).1 (by decide) (by decide) k) ?_
            refine own_by (V := s₁.setTop (mkF m 43 #[.val (.int p0)] [(.int p0)])) (fun t k => XS.iloadN X0.here hx rfl (hb hby own_d_method_2_42) rfl  k) ?_
            refine own_by (V := s₁.setTop (mkF m 45 #[.val (.int p0)] [(.int (65536 : Int32)), (.int p0)])) (Jvm.Stand.ldcInt X0 hx hown (mvT hZ (hw _ (List.mem_of_getElem? (i := 4) rfl))) (g := (mkF m 43 #[.val (.int p0)] [(.int p0)])) rfl (hb hby own_d_method_2_43)) ?_
            by_cases hb45_6 : p0 < (65536 : Int32)
            · refine own_by (V := s₁.setTop (mkF m 58 #[.val (.int p0)] [])) (fun t k => XS.icmpYes X0.here hx rfl (pc0 := 45) (pc' := 58) rfl (hb hby own_d_method_2_45) rfl (tlt hb45_6).1 (by decide) (by decide) k) ?_
              refine own_by (V := s₁.setTop (mkF m 59 #[.val (.int p0)] [(.int (0 : Int32))])) (fun t k => XS.iconst X0.here hx rfl (hb hby own_d_method_2_58) k) ?_
              refine own_retN X0 hx hlk e0 Bd.returns (t := .boolean) (by simp) rfl (hb hby own_d_method_2_59) ?_ (by decide) (by decide)
              exact ⟨congrArg (fun z => some (Value.int z)) (show (0 : Int32) = (own_isc p0) from by (try simp only [Int32.lt_iff_toInt_lt, ← Int32.toInt_inj, own_neg1, Int32.reduceToInt] at hb3_1; try simp only [Int32.lt_iff_toInt_lt, ← Int32.toInt_inj, own_neg1, Int32.reduceToInt] at hb9_2; try simp only [Int32.lt_iff_toInt_lt, ← Int32.toInt_inj, own_neg1, Int32.reduceToInt] at hb15_3; try simp only [Int32.lt_iff_toInt_lt, ← Int32.toInt_inj, own_neg1, Int32.reduceToInt] at hb21_4; try simp only [Int32.lt_iff_toInt_lt, ← Int32.toInt_inj, own_neg1, Int32.reduceToInt] at hb33_5; try simp only [Int32.lt_iff_toInt_lt, ← Int32.toInt_inj, own_neg1, Int32.reduceToInt] at hb45_6; exact (if_neg (by omega)).symm)), N0, rfl⟩
            · refine own_by (V := s₁.setTop (mkF m 48 #[.val (.int p0)] [])) (fun t k => XS.icmpNo X0.here hx rfl (hb hby own_d_method_2_45) rfl (flt hb45_6).1 k) ?_
              refine own_by (V := s₁.setTop (mkF m 49 #[.val (.int p0)] [(.int p0)])) (fun t k => XS.iloadN X0.here hx rfl (hb hby own_d_method_2_48) rfl  k) ?_
              refine own_by (V := s₁.setTop (mkF m 51 #[.val (.int p0)] [(.int (1114111 : Int32)), (.int p0)])) (Jvm.Stand.ldcInt X0 hx hown (mvT hZ (hw _ (List.mem_of_getElem? (i := 5) rfl))) (g := (mkF m 49 #[.val (.int p0)] [(.int p0)])) rfl (hb hby own_d_method_2_49)) ?_
              by_cases hb51_7 : (1114111 : Int32) < p0
              · refine own_by (V := s₁.setTop (mkF m 58 #[.val (.int p0)] [])) (fun t k => XS.icmpYes X0.here hx rfl (pc0 := 51) (pc' := 58) rfl (hb hby own_d_method_2_51) rfl (tlt hb51_7).2.2.1 (by decide) (by decide) k) ?_
                refine own_by (V := s₁.setTop (mkF m 59 #[.val (.int p0)] [(.int (0 : Int32))])) (fun t k => XS.iconst X0.here hx rfl (hb hby own_d_method_2_58) k) ?_
                refine own_retN X0 hx hlk e0 Bd.returns (t := .boolean) (by simp) rfl (hb hby own_d_method_2_59) ?_ (by decide) (by decide)
                exact ⟨congrArg (fun z => some (Value.int z)) (show (0 : Int32) = (own_isc p0) from by (try simp only [Int32.lt_iff_toInt_lt, ← Int32.toInt_inj, own_neg1, Int32.reduceToInt] at hb3_1; try simp only [Int32.lt_iff_toInt_lt, ← Int32.toInt_inj, own_neg1, Int32.reduceToInt] at hb9_2; try simp only [Int32.lt_iff_toInt_lt, ← Int32.toInt_inj, own_neg1, Int32.reduceToInt] at hb15_3; try simp only [Int32.lt_iff_toInt_lt, ← Int32.toInt_inj, own_neg1, Int32.reduceToInt] at hb21_4; try simp only [Int32.lt_iff_toInt_lt, ← Int32.toInt_inj, own_neg1, Int32.reduceToInt] at hb33_5; try simp only [Int32.lt_iff_toInt_lt, ← Int32.toInt_inj, own_neg1, Int32.reduceToInt] at hb45_6; try simp only [Int32.lt_iff_toInt_lt, ← Int32.toInt_inj, own_neg1, Int32.reduceToInt] at hb51_7; exact (if_neg (by omega)).symm)), N0, rfl⟩
              · refine own_by (V := s₁.setTop (mkF m 54 #[.val (.int p0)] [])) (fun t k => XS.icmpNo X0.here hx rfl (hb hby own_d_method_2_51) rfl (flt hb51_7).2.2.1 k) ?_
                refine own_by (V := s₁.setTop (mkF m 55 #[.val (.int p0)] [(.int (1 : Int32))])) (fun t k => XS.iconst X0.here hx rfl (hb hby own_d_method_2_54) k) ?_
                refine own_by (V := s₁.setTop (mkF m 59 #[.val (.int p0)] [(.int (1 : Int32))])) (fun t k => XS.goto X0.here hx rfl (pc0 := 55) (pc' := 59) rfl (hb hby own_d_method_2_55) (by decide) (by decide) k) ?_
                refine own_retN X0 hx hlk e0 Bd.returns (t := .boolean) (by simp) rfl (hb hby own_d_method_2_59) ?_ (by decide) (by decide)
                exact ⟨congrArg (fun z => some (Value.int z)) (show (1 : Int32) = (own_isc p0) from by (try simp only [Int32.lt_iff_toInt_lt, ← Int32.toInt_inj, own_neg1, Int32.reduceToInt] at hb3_1; try simp only [Int32.lt_iff_toInt_lt, ← Int32.toInt_inj, own_neg1, Int32.reduceToInt] at hb9_2; try simp only [Int32.lt_iff_toInt_lt, ← Int32.toInt_inj, own_neg1, Int32.reduceToInt] at hb15_3; try simp only [Int32.lt_iff_toInt_lt, ← Int32.toInt_inj, own_neg1, Int32.reduceToInt] at hb21_4; try simp only [Int32.lt_iff_toInt_lt, ← Int32.toInt_inj, own_neg1, Int32.reduceToInt] at hb33_5; try simp only [Int32.lt_iff_toInt_lt, ← Int32.toInt_inj, own_neg1, Int32.reduceToInt] at hb45_6; try simp only [Int32.lt_iff_toInt_lt, ← Int32.toInt_inj, own_neg1, Int32.reduceToInt] at hb51_7; exact (if_pos (by omega)).symm)), N0, rfl⟩
          · refine own_by (V := s₁.setTop (mkF m 36 #[.val (.int p0)] [])) (fun t k => XS.icmpNo X0.here hx rfl (hb hby own_d_method_2_33) rfl (flt hb33_5).1 k) ?_
            refine own_by (V := s₁.setTop (mkF m 37 #[.val (.int p0)] [(.int p0)])) (fun t k => XS.iloadN X0.here hx rfl (hb hby own_d_method_2_36) rfl  k) ?_
            refine own_by (V := s₁.setTop (mkF m 39 #[.val (.int p0)] [(.int (65533 : Int32)), (.int p0)])) (Jvm.Stand.ldcInt X0 hx hown (mvT hZ (hw _ (List.mem_of_getElem? (i := 3) rfl))) (g := (mkF m 37 #[.val (.int p0)] [(.int p0)])) rfl (hb hby own_d_method_2_37)) ?_
            by_cases hb39_8 : (65533 : Int32) < p0
            · refine own_by (V := s₁.setTop (mkF m 42 #[.val (.int p0)] [])) (fun t k => XS.icmpNo X0.here hx rfl (hb hby own_d_method_2_39) rfl (tlt hb39_8).2.2.2 k) ?_
              refine own_by (V := s₁.setTop (mkF m 43 #[.val (.int p0)] [(.int p0)])) (fun t k => XS.iloadN X0.here hx rfl (hb hby own_d_method_2_42) rfl  k) ?_
              refine own_by (V := s₁.setTop (mkF m 45 #[.val (.int p0)] [(.int (65536 : Int32)), (.int p0)])) (Jvm.Stand.ldcInt X0 hx hown (mvT hZ (hw _ (List.mem_of_getElem? (i := 4) rfl))) (g := (mkF m 43 #[.val (.int p0)] [(.int p0)])) rfl (hb hby own_d_method_2_43)) ?_
              by_cases hb45_9 : p0 < (65536 : Int32)
              · refine own_by (V := s₁.setTop (mkF m 58 #[.val (.int p0)] [])) (fun t k => XS.icmpYes X0.here hx rfl (pc0 := 45) (pc' := 58) rfl (hb hby own_d_method_2_45) rfl (tlt hb45_9).1 (by decide) (by decide) k) ?_
                refine own_by (V := s₁.setTop (mkF m 59 #[.val (.int p0)] [(.int (0 : Int32))])) (fun t k => XS.iconst X0.here hx rfl (hb hby own_d_method_2_58) k) ?_
                refine own_retN X0 hx hlk e0 Bd.returns (t := .boolean) (by simp) rfl (hb hby own_d_method_2_59) ?_ (by decide) (by decide)
                exact ⟨congrArg (fun z => some (Value.int z)) (show (0 : Int32) = (own_isc p0) from by (try simp only [Int32.lt_iff_toInt_lt, ← Int32.toInt_inj, own_neg1, Int32.reduceToInt] at hb3_1; try simp only [Int32.lt_iff_toInt_lt, ← Int32.toInt_inj, own_neg1, Int32.reduceToInt] at hb9_2; try simp only [Int32.lt_iff_toInt_lt, ← Int32.toInt_inj, own_neg1, Int32.reduceToInt] at hb15_3; try simp only [Int32.lt_iff_toInt_lt, ← Int32.toInt_inj, own_neg1, Int32.reduceToInt] at hb21_4; try simp only [Int32.lt_iff_toInt_lt, ← Int32.toInt_inj, own_neg1, Int32.reduceToInt] at hb33_5; try simp only [Int32.lt_iff_toInt_lt, ← Int32.toInt_inj, own_neg1, Int32.reduceToInt] at hb39_8; try simp only [Int32.lt_iff_toInt_lt, ← Int32.toInt_inj, own_neg1, Int32.reduceToInt] at hb45_9; exact (if_neg (by omega)).symm)), N0, rfl⟩
              · refine own_by (V := s₁.setTop (mkF m 48 #[.val (.int p0)] [])) (fun t k => XS.icmpNo X0.here hx rfl (hb hby own_d_method_2_45) rfl (flt hb45_9).1 k) ?_
                refine own_by (V := s₁.setTop (mkF m 49 #[.val (.int p0)] [(.int p0)])) (fun t k => XS.iloadN X0.here hx rfl (hb hby own_d_method_2_48) rfl  k) ?_
                refine own_by (V := s₁.setTop (mkF m 51 #[.val (.int p0)] [(.int (1114111 : Int32)), (.int p0)])) (Jvm.Stand.ldcInt X0 hx hown (mvT hZ (hw _ (List.mem_of_getElem? (i := 5) rfl))) (g := (mkF m 49 #[.val (.int p0)] [(.int p0)])) rfl (hb hby own_d_method_2_49)) ?_
                by_cases hb51_10 : (1114111 : Int32) < p0
                · refine own_by (V := s₁.setTop (mkF m 58 #[.val (.int p0)] [])) (fun t k => XS.icmpYes X0.here hx rfl (pc0 := 51) (pc' := 58) rfl (hb hby own_d_method_2_51) rfl (tlt hb51_10).2.2.1 (by decide) (by decide) k) ?_
                  refine own_by (V := s₁.setTop (mkF m 59 #[.val (.int p0)] [(.int (0 : Int32))])) (fun t k => XS.iconst X0.here hx rfl (hb hby own_d_method_2_58) k) ?_
                  refine own_retN X0 hx hlk e0 Bd.returns (t := .boolean) (by simp) rfl (hb hby own_d_method_2_59) ?_ (by decide) (by decide)
                  exact ⟨congrArg (fun z => some (Value.int z)) (show (0 : Int32) = (own_isc p0) from by (try simp only [Int32.lt_iff_toInt_lt, ← Int32.toInt_inj, own_neg1, Int32.reduceToInt] at hb3_1; try simp only [Int32.lt_iff_toInt_lt, ← Int32.toInt_inj, own_neg1, Int32.reduceToInt] at hb9_2; try simp only [Int32.lt_iff_toInt_lt, ← Int32.toInt_inj, own_neg1, Int32.reduceToInt] at hb15_3; try simp only [Int32.lt_iff_toInt_lt, ← Int32.toInt_inj, own_neg1, Int32.reduceToInt] at hb21_4; try simp only [Int32.lt_iff_toInt_lt, ← Int32.toInt_inj, own_neg1, Int32.reduceToInt] at hb33_5; try simp only [Int32.lt_iff_toInt_lt, ← Int32.toInt_inj, own_neg1, Int32.reduceToInt] at hb39_8; try simp only [Int32.lt_iff_toInt_lt, ← Int32.toInt_inj, own_neg1, Int32.reduceToInt] at hb45_9; try simp only [Int32.lt_iff_toInt_lt, ← Int32.toInt_inj, own_neg1, Int32.reduceToInt] at hb51_10; exact (if_neg (by omega)).symm)), N0, rfl⟩
                · refine own_by (V := s₁.setTop (mkF m 54 #[.val (.int p0)] [])) (fun t k => XS.icmpNo X0.here hx rfl (hb hby own_d_method_2_51) rfl (flt hb51_10).2.2.1 k) ?_
                  refine own_by (V := s₁.setTop (mkF m 55 #[.val (.int p0)] [(.int (1 : Int32))])) (fun t k => XS.iconst X0.here hx rfl (hb hby own_d_method_2_54) k) ?_
                  refine own_by (V := s₁.setTop (mkF m 59 #[.val (.int p0)] [(.int (1 : Int32))])) (fun t k => XS.goto X0.here hx rfl (pc0 := 55) (pc' := 59) rfl (hb hby own_d_method_2_55) (by decide) (by decide) k) ?_
                  refine own_retN X0 hx hlk e0 Bd.returns (t := .boolean) (by simp) rfl (hb hby own_d_method_2_59) ?_ (by decide) (by decide)
                  exact ⟨congrArg (fun z => some (Value.int z)) (show (1 : Int32) = (own_isc p0) from by (try simp only [Int32.lt_iff_toInt_lt, ← Int32.toInt_inj, own_neg1, Int32.reduceToInt] at hb3_1; try simp only [Int32.lt_iff_toInt_lt, ← Int32.toInt_inj, own_neg1, Int32.reduceToInt] at hb9_2; try simp only [Int32.lt_iff_toInt_lt, ← Int32.toInt_inj, own_neg1, Int32.reduceToInt] at hb15_3; try simp only [Int32.lt_iff_toInt_lt, ← Int32.toInt_inj, own_neg1, Int32.reduceToInt] at hb21_4; try simp only [Int32.lt_iff_toInt_lt, ← Int32.toInt_inj, own_neg1, Int32.reduceToInt] at hb33_5; try simp only [Int32.lt_iff_toInt_lt, ← Int32.toInt_inj, own_neg1, Int32.reduceToInt] at hb39_8; try simp only [Int32.lt_iff_toInt_lt, ← Int32.toInt_inj, own_neg1, Int32.reduceToInt] at hb45_9; try simp only [Int32.lt_iff_toInt_lt, ← Int32.toInt_inj, own_neg1, Int32.reduceToInt] at hb51_10; exact (if_pos (by omega)).symm)), N0, rfl⟩
            · refine own_by (V := s₁.setTop (mkF m 54 #[.val (.int p0)] [])) (fun t k => XS.icmpYes X0.here hx rfl (pc0 := 39) (pc' := 54) rfl (hb hby own_d_method_2_39) rfl (flt hb39_8).2.2.2 (by decide) (by decide) k) ?_
              refine own_by (V := s₁.setTop (mkF m 55 #[.val (.int p0)] [(.int (1 : Int32))])) (fun t k => XS.iconst X0.here hx rfl (hb hby own_d_method_2_54) k) ?_
              refine own_by (V := s₁.setTop (mkF m 59 #[.val (.int p0)] [(.int (1 : Int32))])) (fun t k => XS.goto X0.here hx rfl (pc0 := 55) (pc' := 59) rfl (hb hby own_d_method_2_55) (by decide) (by decide) k) ?_
              refine own_retN X0 hx hlk e0 Bd.returns (t := .boolean) (by simp) rfl (hb hby own_d_method_2_59) ?_ (by decide) (by decide)
              exact ⟨congrArg (fun z => some (Value.int z)) (show (1 : Int32) = (own_isc p0) from by (try simp only [Int32.lt_iff_toInt_lt, ← Int32.toInt_inj, own_neg1, Int32.reduceToInt] at hb3_1; try simp only [Int32.lt_iff_toInt_lt, ← Int32.toInt_inj, own_neg1, Int32.reduceToInt] at hb9_2; try simp only [Int32.lt_iff_toInt_lt, ← Int32.toInt_inj, own_neg1, Int32.reduceToInt] at hb15_3; try simp only [Int32.lt_iff_toInt_lt, ← Int32.toInt_inj, own_neg1, Int32.reduceToInt] at hb21_4; try simp only [Int32.lt_iff_toInt_lt, ← Int32.toInt_inj, own_neg1, Int32.reduceToInt] at hb33_5; try simp only [Int32.lt_iff_toInt_lt, ← Int32.toInt_inj, own_neg1, Int32.reduceToInt] at hb39_8; exact (if_pos (by omega)).symm)), N0, rfl⟩
        · refine own_by (V := s₁.setTop (mkF m 24 #[.val (.int p0)] [])) (fun t k => XS.icmpNo X0.here hx rfl (hb hby own_d_method_2_21) rfl (flt hb21_4).1 k) ?_
          refine own_by (V := s₁.setTop (mkF m 25 #[.val (.int p0)] [(.int p0)])) (fun t k => XS.iloadN X0.here hx rfl (hb hby own_d_method_2_24) rfl  k) ?_
          refine own_by (V := s₁.setTop (mkF m 27 #[.val (.int p0)] [(.int (55295 : Int32)), (.int p0)])) (Jvm.Stand.ldcInt X0 hx hown (mvT hZ (hw _ (List.mem_of_getElem? (i := 1) rfl))) (g := (mkF m 25 #[.val (.int p0)] [(.int p0)])) rfl (hb hby own_d_method_2_25)) ?_
          by_cases hb27_11 : (55295 : Int32) < p0
          · refine own_by (V := s₁.setTop (mkF m 30 #[.val (.int p0)] [])) (fun t k => XS.icmpNo X0.here hx rfl (hb hby own_d_method_2_27) rfl (tlt hb27_11).2.2.2 k) ?_
            refine own_by (V := s₁.setTop (mkF m 31 #[.val (.int p0)] [(.int p0)])) (fun t k => XS.iloadN X0.here hx rfl (hb hby own_d_method_2_30) rfl  k) ?_
            refine own_by (V := s₁.setTop (mkF m 33 #[.val (.int p0)] [(.int (57344 : Int32)), (.int p0)])) (Jvm.Stand.ldcInt X0 hx hown (mvT hZ (hw _ (List.mem_of_getElem? (i := 2) rfl))) (g := (mkF m 31 #[.val (.int p0)] [(.int p0)])) rfl (hb hby own_d_method_2_31)) ?_
            by_cases hb33_12 : p0 < (57344 : Int32)
            · refine own_by (V := s₁.setTop (mkF m 42 #[.val (.int p0)] [])) (fun t k => XS.icmpYes X0.here hx rfl (pc0 := 33) (pc' := 42) rfl (hb hby own_d_method_2_33) rfl (tlt hb33_12).1 (by decide) (by decide) k) ?_
              refine own_by (V := s₁.setTop (mkF m 43 #[.val (.int p0)] [(.int p0)])) (fun t k => XS.iloadN X0.here hx rfl (hb hby own_d_method_2_42) rfl  k) ?_
              refine own_by (V := s₁.setTop (mkF m 45 #[.val (.int p0)] [(.int (65536 : Int32)), (.int p0)])) (Jvm.Stand.ldcInt X0 hx hown (mvT hZ (hw _ (List.mem_of_getElem? (i := 4) rfl))) (g := (mkF m 43 #[.val (.int p0)] [(.int p0)])) rfl (hb hby own_d_method_2_43)) ?_
              by_cases hb45_13 : p0 < (65536 : Int32)
              · refine own_by (V := s₁.setTop (mkF m 58 #[.val (.int p0)] [])) (fun t k => XS.icmpYes X0.here hx rfl (pc0 := 45) (pc' := 58) rfl (hb hby own_d_method_2_45) rfl (tlt hb45_13).1 (by decide) (by decide) k) ?_
                refine own_by (V := s₁.setTop (mkF m 59 #[.val (.int p0)] [(.int (0 : Int32))])) (fun t k => XS.iconst X0.here hx rfl (hb hby own_d_method_2_58) k) ?_
                refine own_retN X0 hx hlk e0 Bd.returns (t := .boolean) (by simp) rfl (hb hby own_d_method_2_59) ?_ (by decide) (by decide)
                exact ⟨congrArg (fun z => some (Value.int z)) (show (0 : Int32) = (own_isc p0) from by (try simp only [Int32.lt_iff_toInt_lt, ← Int32.toInt_inj, own_neg1, Int32.reduceToInt] at hb3_1; try simp only [Int32.lt_iff_toInt_lt, ← Int32.toInt_inj, own_neg1, Int32.reduceToInt] at hb9_2; try simp only [Int32.lt_iff_toInt_lt, ← Int32.toInt_inj, own_neg1, Int32.reduceToInt] at hb15_3; try simp only [Int32.lt_iff_toInt_lt, ← Int32.toInt_inj, own_neg1, Int32.reduceToInt] at hb21_4; try simp only [Int32.lt_iff_toInt_lt, ← Int32.toInt_inj, own_neg1, Int32.reduceToInt] at hb27_11; try simp only [Int32.lt_iff_toInt_lt, ← Int32.toInt_inj, own_neg1, Int32.reduceToInt] at hb33_12; try simp only [Int32.lt_iff_toInt_lt, ← Int32.toInt_inj, own_neg1, Int32.reduceToInt] at hb45_13; exact (if_neg (by omega)).symm)), N0, rfl⟩
              · refine own_by (V := s₁.setTop (mkF m 48 #[.val (.int p0)] [])) (fun t k => XS.icmpNo X0.here hx rfl (hb hby own_d_method_2_45) rfl (flt hb45_13).1 k) ?_
                refine own_by (V := s₁.setTop (mkF m 49 #[.val (.int p0)] [(.int p0)])) (fun t k => XS.iloadN X0.here hx rfl (hb hby own_d_method_2_48) rfl  k) ?_
                refine own_by (V := s₁.setTop (mkF m 51 #[.val (.int p0)] [(.int (1114111 : Int32)), (.int p0)])) (Jvm.Stand.ldcInt X0 hx hown (mvT hZ (hw _ (List.mem_of_getElem? (i := 5) rfl))) (g := (mkF m 49 #[.val (.int p0)] [(.int p0)])) rfl (hb hby own_d_method_2_49)) ?_
                by_cases hb51_14 : (1114111 : Int32) < p0
                · refine own_by (V := s₁.setTop (mkF m 58 #[.val (.int p0)] [])) (fun t k => XS.icmpYes X0.here hx rfl (pc0 := 51) (pc' := 58) rfl (hb hby own_d_method_2_51) rfl (tlt hb51_14).2.2.1 (by decide) (by decide) k) ?_
                  refine own_by (V := s₁.setTop (mkF m 59 #[.val (.int p0)] [(.int (0 : Int32))])) (fun t k => XS.iconst X0.here hx rfl (hb hby own_d_method_2_58) k) ?_
                  refine own_retN X0 hx hlk e0 Bd.returns (t := .boolean) (by simp) rfl (hb hby own_d_method_2_59) ?_ (by decide) (by decide)
                  exact ⟨congrArg (fun z => some (Value.int z)) (show (0 : Int32) = (own_isc p0) from by (try simp only [Int32.lt_iff_toInt_lt, ← Int32.toInt_inj, own_neg1, Int32.reduceToInt] at hb3_1; try simp only [Int32.lt_iff_toInt_lt, ← Int32.toInt_inj, own_neg1, Int32.reduceToInt] at hb9_2; try simp only [Int32.lt_iff_toInt_lt, ← Int32.toInt_inj, own_neg1, Int32.reduceToInt] at hb15_3; try simp only [Int32.lt_iff_toInt_lt, ← Int32.toInt_inj, own_neg1, Int32.reduceToInt] at hb21_4; try simp only [Int32.lt_iff_toInt_lt, ← Int32.toInt_inj, own_neg1, Int32.reduceToInt] at hb27_11; try simp only [Int32.lt_iff_toInt_lt, ← Int32.toInt_inj, own_neg1, Int32.reduceToInt] at hb33_12; try simp only [Int32.lt_iff_toInt_lt, ← Int32.toInt_inj, own_neg1, Int32.reduceToInt] at hb45_13; try simp only [Int32.lt_iff_toInt_lt, ← Int32.toInt_inj, own_neg1, Int32.reduceToInt] at hb51_14; exact (if_neg (by omega)).symm)), N0, rfl⟩
                · refine own_by (V := s₁.setTop (mkF m 54 #[.val (.int p0)] [])) (fun t k => XS.icmpNo X0.here hx rfl (hb hby own_d_method_2_51) rfl (flt hb51_14).2.2.1 k) ?_
                  refine own_by (V := s₁.setTop (mkF m 55 #[.val (.int p0)] [(.int (1 : Int32))])) (fun t k => XS.iconst X0.here hx rfl (hb hby own_d_method_2_54) k) ?_
                  refine own_by (V := s₁.setTop (mkF m 59 #[.val (.int p0)] [(.int (1 : Int32))])) (fun t k => XS.goto X0.here hx rfl (pc0 := 55) (pc' := 59) rfl (hb hby own_d_method_2_55) (by decide) (by decide) k) ?_
                  refine own_retN X0 hx hlk e0 Bd.returns (t := .boolean) (by simp) rfl (hb hby own_d_method_2_59) ?_ (by decide) (by decide)
                  exact ⟨congrArg (fun z => some (Value.int z)) (show (1 : Int32) = (own_isc p0) from by (try simp only [Int32.lt_iff_toInt_lt, ← Int32.toInt_inj, own_neg1, Int32.reduceToInt] at hb3_1; try simp only [Int32.lt_iff_toInt_lt, ← Int32.toInt_inj, own_neg1, Int32.reduceToInt] at hb9_2; try simp only [Int32.lt_iff_toInt_lt, ← Int32.toInt_inj, own_neg1, Int32.reduceToInt] at hb15_3; try simp only [Int32.lt_iff_toInt_lt, ← Int32.toInt_inj, own_neg1, Int32.reduceToInt] at hb21_4; try simp only [Int32.lt_iff_toInt_lt, ← Int32.toInt_inj, own_neg1, Int32.reduceToInt] at hb27_11; try simp only [Int32.lt_iff_toInt_lt, ← Int32.toInt_inj, own_neg1, Int32.reduceToInt] at hb33_12; try simp only [Int32.lt_iff_toInt_lt, ← Int32.toInt_inj, own_neg1, Int32.reduceToInt] at hb45_13; try simp only [Int32.lt_iff_toInt_lt, ← Int32.toInt_inj, own_neg1, Int32.reduceToInt] at hb51_14; exact (if_pos (by omega)).symm)), N0, rfl⟩
            · refine own_by (V := s₁.setTop (mkF m 36 #[.val (.int p0)] [])) (fun t k => XS.icmpNo X0.here hx rfl (hb hby own_d_method_2_33) rfl (flt hb33_12).1 k) ?_
              refine own_by (V := s₁.setTop (mkF m 37 #[.val (.int p0)] [(.int p0)])) (fun t k => XS.iloadN X0.here hx rfl (hb hby own_d_method_2_36) rfl  k) ?_
              refine own_by (V := s₁.setTop (mkF m 39 #[.val (.int p0)] [(.int (65533 : Int32)), (.int p0)])) (Jvm.Stand.ldcInt X0 hx hown (mvT hZ (hw _ (List.mem_of_getElem? (i := 3) rfl))) (g := (mkF m 37 #[.val (.int p0)] [(.int p0)])) rfl (hb hby own_d_method_2_37)) ?_
              by_cases hb39_15 : (65533 : Int32) < p0
              · refine own_by (V := s₁.setTop (mkF m 42 #[.val (.int p0)] [])) (fun t k => XS.icmpNo X0.here hx rfl (hb hby own_d_method_2_39) rfl (tlt hb39_15).2.2.2 k) ?_
                refine own_by (V := s₁.setTop (mkF m 43 #[.val (.int p0)] [(.int p0)])) (fun t k => XS.iloadN X0.here hx rfl (hb hby own_d_method_2_42) rfl  k) ?_
                refine own_by (V := s₁.setTop (mkF m 45 #[.val (.int p0)] [(.int (65536 : Int32)), (.int p0)])) (Jvm.Stand.ldcInt X0 hx hown (mvT hZ (hw _ (List.mem_of_getElem? (i := 4) rfl))) (g := (mkF m 43 #[.val (.int p0)] [(.int p0)])) rfl (hb hby own_d_method_2_43)) ?_
                by_cases hb45_16 : p0 < (65536 : Int32)
                · refine own_by (V := s₁.setTop (mkF m 58 #[.val (.int p0)] [])) (fun t k => XS.icmpYes X0.here hx rfl (pc0 := 45) (pc' := 58) rfl (hb hby own_d_method_2_45) rfl (tlt hb45_16).1 (by decide) (by decide) k) ?_
                  refine own_by (V := s₁.setTop (mkF m 59 #[.val (.int p0)] [(.int (0 : Int32))])) (fun t k => XS.iconst X0.here hx rfl (hb hby own_d_method_2_58) k) ?_
                  refine own_retN X0 hx hlk e0 Bd.returns (t := .boolean) (by simp) rfl (hb hby own_d_method_2_59) ?_ (by decide) (by decide)
                  exact ⟨congrArg (fun z => some (Value.int z)) (show (0 : Int32) = (own_isc p0) from by (try simp only [Int32.lt_iff_toInt_lt, ← Int32.toInt_inj, own_neg1, Int32.reduceToInt] at hb3_1; try simp only [Int32.lt_iff_toInt_lt, ← Int32.toInt_inj, own_neg1, Int32.reduceToInt] at hb9_2; try simp only [Int32.lt_iff_toInt_lt, ← Int32.toInt_inj, own_neg1, Int32.reduceToInt] at hb15_3; try simp only [Int32.lt_iff_toInt_lt, ← Int32.toInt_inj, own_neg1, Int32.reduceToInt] at hb21_4; try simp only [Int32.lt_iff_toInt_lt, ← Int32.toInt_inj, own_neg1, Int32.reduceToInt] at hb27_11; try simp only [Int32.lt_iff_toInt_lt, ← Int32.toInt_inj, own_neg1, Int32.reduceToInt] at hb33_12; try simp only [Int32.lt_iff_toInt_lt, ← Int32.toInt_inj, own_neg1, Int32.reduceToInt] at hb39_15; try simp only [Int32.lt_iff_toInt_lt, ← Int32.toInt_inj, own_neg1, Int32.reduceToInt] at hb45_16; exact (if_neg (by omega)).symm)), N0, rfl⟩
                · refine own_by (V := s₁.setTop (mkF m 48 #[.val (.int p0)] [])) (fun t k => XS.icmpNo X0.here hx rfl (hb hby own_d_method_2_45) rfl (flt hb45_16).1 k) ?_
                  refine own_by (V := s₁.setTop (mkF m 49 #[.val (.int p0)] [(.int p0)])) (fun t k => XS.iloadN X0.here hx rfl (hb hby own_d_method_2_48) rfl  k) ?_
                  refine own_by (V := s₁.setTop (mkF m 51 #[.val (.int p0)] [(.int (1114111 : Int32)), (.int p0)])) (Jvm.Stand.ldcInt X0 hx hown (mvT hZ (hw _ (List.mem_of_getElem? (i := 5) rfl))) (g := (mkF m 49 #[.val (.int p0)] [(.int p0)])) rfl (hb hby own_d_method_2_49)) ?_
                  by_cases hb51_17 : (1114111 : Int32) < p0
                  · refine own_by (V := s₁.setTop (mkF m 58 #[.val (.int p0)] [])) (fun t k => XS.icmpYes X0.here hx rfl (pc0 := 51) (pc' := 58) rfl (hb hby own_d_method_2_51) rfl (tlt hb51_17).2.2.1 (by decide) (by decide) k) ?_
                    refine own_by (V := s₁.setTop (mkF m 59 #[.val (.int p0)] [(.int (0 : Int32))])) (fun t k => XS.iconst X0.here hx rfl (hb hby own_d_method_2_58) k) ?_
                    refine own_retN X0 hx hlk e0 Bd.returns (t := .boolean) (by simp) rfl (hb hby own_d_method_2_59) ?_ (by decide) (by decide)
                    exact ⟨congrArg (fun z => some (Value.int z)) (show (0 : Int32) = (own_isc p0) from by (try simp only [Int32.lt_iff_toInt_lt, ← Int32.toInt_inj, own_neg1, Int32.reduceToInt] at hb3_1; try simp only [Int32.lt_iff_toInt_lt, ← Int32.toInt_inj, own_neg1, Int32.reduceToInt] at hb9_2; try simp only [Int32.lt_iff_toInt_lt, ← Int32.toInt_inj, own_neg1, Int32.reduceToInt] at hb15_3; try simp only [Int32.lt_iff_toInt_lt, ← Int32.toInt_inj, own_neg1, Int32.reduceToInt] at hb21_4; try simp only [Int32.lt_iff_toInt_lt, ← Int32.toInt_inj, own_neg1, Int32.reduceToInt] at hb27_11; try simp only [Int32.lt_iff_toInt_lt, ← Int32.toInt_inj, own_neg1, Int32.reduceToInt] at hb33_12; try simp only [Int32.lt_iff_toInt_lt, ← Int32.toInt_inj, own_neg1, Int32.reduceToInt] at hb39_15; try simp only [Int32.lt_iff_toInt_lt, ← Int32.toInt_inj, own_neg1, Int32.reduceToInt] at hb45_16; try simp only [Int32.lt_iff_toInt_lt, ← Int32.toInt_inj, own_neg1, Int32.reduceToInt] at hb51_17; exact (if_neg (by omega)).symm)), N0, rfl⟩
                  · refine own_by (V := s₁.setTop (mkF m 54 #[.val (.int p0)] [])) (fun t k => XS.icmpNo X0.here hx rfl (hb hby own_d_method_2_51) rfl (flt hb51_17).2.2.1 k) ?_
                    refine own_by (V := s₁.setTop (mkF m 55 #[.val (.int p0)] [(.int (1 : Int32))])) (fun t k => XS.iconst X0.here hx rfl (hb hby own_d_method_2_54) k) ?_
                    refine own_by (V := s₁.setTop (mkF m 59 #[.val (.int p0)] [(.int (1 : Int32))])) (fun t k => XS.goto X0.here hx rfl (pc0 := 55) (pc' := 59) rfl (hb hby own_d_method_2_55) (by decide) (by decide) k) ?_
                    refine own_retN X0 hx hlk e0 Bd.returns (t := .boolean) (by simp) rfl (hb hby own_d_method_2_59) ?_ (by decide) (by decide)
                    exact ⟨congrArg (fun z => some (Value.int z)) (show (1 : Int32) = (own_isc p0) from by (try simp only [Int32.lt_iff_toInt_lt, ← Int32.toInt_inj, own_neg1, Int32.reduceToInt] at hb3_1; try simp only [Int32.lt_iff_toInt_lt, ← Int32.toInt_inj, own_neg1, Int32.reduceToInt] at hb9_2; try simp only [Int32.lt_iff_toInt_lt, ← Int32.toInt_inj, own_neg1, Int32.reduceToInt] at hb15_3; try simp only [Int32.lt_iff_toInt_lt, ← Int32.toInt_inj, own_neg1, Int32.reduceToInt] at hb21_4; try simp only [Int32.lt_iff_toInt_lt, ← Int32.toInt_inj, own_neg1, Int32.reduceToInt] at hb27_11; try simp only [Int32.lt_iff_toInt_lt, ← Int32.toInt_inj, own_neg1, Int32.reduceToInt] at hb33_12; try simp only [Int32.lt_iff_toInt_lt, ← Int32.toInt_inj, own_neg1, Int32.reduceToInt] at hb39_15; try simp only [Int32.lt_iff_toInt_lt, ← Int32.toInt_inj, own_neg1, Int32.reduceToInt] at hb45_16; try simp only [Int32.lt_iff_toInt_lt, ← Int32.toInt_inj, own_neg1, Int32.reduceToInt] at hb51_17; exact (if_pos (by omega)).symm)), N0, rfl⟩
              · refine own_by (V := s₁.setTop (mkF m 54 #[.val (.int p0)] [])) (fun t k => XS.icmpYes X0.here hx rfl (pc0 := 39) (pc' := 54) rfl (hb hby own_d_method_2_39) rfl (flt hb39_15).2.2.2 (by decide) (by decide) k) ?_
                refine own_by (V := s₁.setTop (mkF m 55 #[.val (.int p0)] [(.int (1 : Int32))])) (fun t k => XS.iconst X0.here hx rfl (hb hby own_d_method_2_54) k) ?_
                refine own_by (V := s₁.setTop (mkF m 59 #[.val (.int p0)] [(.int (1 : Int32))])) (fun t k => XS.goto X0.here hx rfl (pc0 := 55) (pc' := 59) rfl (hb hby own_d_method_2_55) (by decide) (by decide) k) ?_
                refine own_retN X0 hx hlk e0 Bd.returns (t := .boolean) (by simp) rfl (hb hby own_d_method_2_59) ?_ (by decide) (by decide)
                exact ⟨congrArg (fun z => some (Value.int z)) (show (1 : Int32) = (own_isc p0) from by (try simp only [Int32.lt_iff_toInt_lt, ← Int32.toInt_inj, own_neg1, Int32.reduceToInt] at hb3_1; try simp only [Int32.lt_iff_toInt_lt, ← Int32.toInt_inj, own_neg1, Int32.reduceToInt] at hb9_2; try simp only [Int32.lt_iff_toInt_lt, ← Int32.toInt_inj, own_neg1, Int32.reduceToInt] at hb15_3; try simp only [Int32.lt_iff_toInt_lt, ← Int32.toInt_inj, own_neg1, Int32.reduceToInt] at hb21_4; try simp only [Int32.lt_iff_toInt_lt, ← Int32.toInt_inj, own_neg1, Int32.reduceToInt] at hb27_11; try simp only [Int32.lt_iff_toInt_lt, ← Int32.toInt_inj, own_neg1, Int32.reduceToInt] at hb33_12; try simp only [Int32.lt_iff_toInt_lt, ← Int32.toInt_inj, own_neg1, Int32.reduceToInt] at hb39_15; exact (if_pos (by omega)).symm)), N0, rfl⟩
          · refine own_by (V := s₁.setTop (mkF m 54 #[.val (.int p0)] [])) (fun t k => XS.icmpYes X0.here hx rfl (pc0 := 27) (pc' := 54) rfl (hb hby own_d_method_2_27) rfl (flt hb27_11).2.2.2 (by decide) (by decide) k) ?_
            refine own_by (V := s₁.setTop (mkF m 55 #[.val (.int p0)] [(.int (1 : Int32))])) (fun t k => XS.iconst X0.here hx rfl (hb hby own_d_method_2_54) k) ?_
            refine own_by (V := s₁.setTop (mkF m 59 #[.val (.int p0)] [(.int (1 : Int32))])) (fun t k => XS.goto X0.here hx rfl (pc0 := 55) (pc' := 59) rfl (hb hby own_d_method_2_55) (by decide) (by decide) k) ?_
            refine own_retN X0 hx hlk e0 Bd.returns (t := .boolean) (by simp) rfl (hb hby own_d_method_2_59) ?_ (by decide) (by decide)
            exact ⟨congrArg (fun z => some (Value.int z)) (show (1 : Int32) = (own_isc p0) from by (try simp only [Int32.lt_iff_toInt_lt, ← Int32.toInt_inj, own_neg1, Int32.reduceToInt] at hb3_1; try simp only [Int32.lt_iff_toInt_lt, ← Int32.toInt_inj, own_neg1, Int32.reduceToInt] at hb9_2; try simp only [Int32.lt_iff_toInt_lt, ← Int32.toInt_inj, own_neg1, Int32.reduceToInt] at hb15_3; try simp only [Int32.lt_iff_toInt_lt, ← Int32.toInt_inj, own_neg1, Int32.reduceToInt] at hb21_4; try simp only [Int32.lt_iff_toInt_lt, ← Int32.toInt_inj, own_neg1, Int32.reduceToInt] at hb27_11; exact (if_pos (by omega)).symm)), N0, rfl⟩
def own_Q_own_rm0 (Z : State) (p0 : Int32) (p1 : Int32) (p2 : Int32) (h0 : Heap) (n0 : Nat) : Option Value → Heap → List Loc → Prop := fun v h L => v = some (.int 1) ∧ Fr n0 L
theorem own_ef_own_rm0 (m : MethodId) (x0 : Int32) (x1 : Int32) (x2 : Int32) : entryFrame m #[(.int x0), (.int x1), (.int x2)] maxLocals = mkF m 0 #[.val (.int x0), .val (.int x1), .val (.int x2), .unset, .unset, .unset, .unset] [] := by first | (simp [entryFrame, mkF, argsToLocals, Value.category, maxLocals]; done) | rfl
set_option maxRecDepth 65536 in
set_option maxHeartbeats 40000000 in
theorem own_rm0 (l : Launch) (Z : State) (a0 : Array Value) (hw : ∀ d ∈ tables_1, d.before a0 Z = true) (ws : List Jvm.Cond) (p0 : Int32) (p1 : Int32) (p2 : Int32) (h0 : Heap) (n0 : Nat) (Z0 : n0 ≤ h0.size) :
    MetFree l x (head1 (Jvm.Cond.code x code maxLocals ret :: ws) room_1) (fun a U => a = #[(.int p0), (.int p1), (.int p2)] ∧ Z.Warmed39 U.vm ∧ U.heap = h0) (fun _ _ _ _ _ => True) (fun _ U o U' => ∃ v L, o = .returned v ∧ (own_Q_own_rm0 Z p0 p1 p2 h0 n0) v U'.heap L ∧ FrameEnd U o U' L room_1.cells room_1.slots) := by
  refine MetFree.of_bodySF (plainFor_of_name own_pn1) hisR ?_
  intro p e s m args below meth c s₁ Bd hml0 hP hK
  obtain ⟨rfl, hZ, hh⟩ := hP
  have hx := Bd.exec
  have hby := Bd.bytes
  have hml : c.maxLocals = 7 := hml0
  have hown : s.vm.findClass "com/example/canox/canox/xml/XmlCharsIsCharPinLaw" = some m.cls := findClass_of_methodNamed Bd.named
  have hnm := (name_of_methodNamed Bd.named Bd.method).1
  have hlk : meth.locks = false := BodyLoose.notSynchronized Bd
  have X0 : Stand p l e room_1 s m #[(.int p0), (.int p1), (.int p2)] below meth c s₁ [] 0 0 := Stand.of_body Bd
  have e0 : s₁.heap = h0 := by rw [← hh, Bd.state]; rfl
  have N0 := Fr.nil n0
  show own_Ends p e below s (own_Q_own_rm0 Z p0 p1 p2 h0 n0) room_1.cells room_1.slots _
  refine own_by (V := s₁.setTop (mkF m 0 #[.val (.int p0), .val (.int p1), .val (.int p2), .unset, .unset, .unset, .unset] [])) (fun t k => castTop (own_ef_own_rm0 m p0 p1 p2) k) ?_
  refine own_by (V := s₁.setTop (mkF m 2 #[.val (.int p0), .val (.int p1), .val (.int p2), .unset, .unset, .unset, .unset] [(.int (16 : Int32))])) (fun t k => XS.bipush X0.here hx rfl (hb hby at_0) k) ?_
  obtain ⟨T1, h1, k1, X1, e1, E1, A1, st1⟩ := newP X0 hx hZ (hw _ (List.mem_of_getElem? (i := 0) rfl)) e0 (g := (mkF m 2 #[.val (.int p0), .val (.int p1), .val (.int p2), .unset, .unset, .unset, .unset] [(.int (16 : Int32))])) rfl (hb hby at_2) rfl (by decide) (cap := 16) (by decide) (by decide) (by decide) (by decide)
  obtain ⟨b1, g1⟩ : ∃ z, z = h0.size := ⟨_, rfl⟩
  rw [← g1] at A1 st1
  have V1 : Arv Z h1 b1 k1 .int (16 : Int32) [(.int (0 : Int32)), (.int (0 : Int32)), (.int (0 : Int32)), (.int (0 : Int32)), (.int (0 : Int32)), (.int (0 : Int32)), (.int (0 : Int32)), (.int (0 : Int32)), (.int (0 : Int32)), (.int (0 : Int32)), (.int (0 : Int32)), (.int (0 : Int32)), (.int (0 : Int32)), (.int (0 : Int32)), (.int (0 : Int32)), (.int (0 : Int32))] (.int (0 : Int32)) := (Arv.new A1 (by decide)).pad (pad_rep [] (.int (0 : Int32)) 16)
  have gn1 : n0 ≤ b1 := Nat.le_trans Z0 (Nat.le_of_eq g1.symm)
  have Zs1 : n0 ≤ h1.size := Nat.le_trans Z0 E1.1
  refine own_by (V := T1.setTop (mkF m 4 #[.val (.int p0), .val (.int p1), .val (.int p2), .unset, .unset, .unset, .unset] [(.ref b1)])) st1 ?_
  refine own_by (V := T1.setTop (mkF m 5 #[.val (.int p0), .val (.int p1), .val (.int p2), .unset, .unset, .unset, .unset] [(.ref b1), (.ref b1)])) (fun t k => XS.dup X1.here hx rfl (hb hby at_4) rfl rfl k) ?_
  refine own_by (V := T1.setTop (mkF m 6 #[.val (.int p0), .val (.int p1), .val (.int p2), .unset, .unset, .unset, .unset] [(.int (0 : Int32)), (.ref b1), (.ref b1)])) (fun t k => XS.iconst X1.here hx rfl (hb hby at_5) k) ?_
  refine own_by (V := T1.setTop (mkF m 8 #[.val (.int p0), .val (.int p1), .val (.int p2), .unset, .unset, .unset, .unset] [(.int (9 : Int32)), (.int (0 : Int32)), (.ref b1), (.ref b1)])) (fun t k => XS.bipush X1.here hx rfl (hb hby at_6) k) ?_
  obtain ⟨cl2, Ar2, qa2, Sa2, Ma2, Ha2, Ua2⟩ := V1
  obtain ⟨T3, h3, X3, e3, W3, st3⟩ := stI X1 hx hZ e1 Ar2 (j := (0 : Int32)) (inb_of Sa2 ⟨(by decide), (by decide)⟩) (g := (mkF m 8 #[.val (.int p0), .val (.int p1), .val (.int p2), .unset, .unset, .unset, .unset] [(.int (9 : Int32)), (.int (0 : Int32)), (.ref b1), (.ref b1)])) rfl rfl (hb hby at_8)
  have N3 := Fr.snoc X3 N0 gn1
  have Zs3 : n0 ≤ h3.size := by rw [W3.size]; exact Zs1
  have V3 : Arv Z h3 b1 k1 .int (16 : Int32) [(.int (9 : Int32)), (.int (0 : Int32)), (.int (0 : Int32)), (.int (0 : Int32)), (.int (0 : Int32)), (.int (0 : Int32)), (.int (0 : Int32)), (.int (0 : Int32)), (.int (0 : Int32)), (.int (0 : Int32)), (.int (0 : Int32)), (.int (0 : Int32)), (.int (0 : Int32)), (.int (0 : Int32)), (.int (0 : Int32)), (.int (0 : Int32))] (.int (0 : Int32)) := Arv.set Ar2 qa2 Sa2 Ma2 Ha2 Ua2 rfl W3 0 (by decide) (by decide)
  refine own_by (V := T3.setTop (mkF m 9 #[.val (.int p0), .val (.int p1), .val (.int p2), .unset, .unset, .unset, .unset] [(.ref b1)])) st3 ?_
  refine own_by (V := T3.setTop (mkF m 10 #[.val (.int p0), .val (.int p1), .val (.int p2), .unset, .unset, .unset, .unset] [(.ref b1), (.ref b1)])) (fun t k => XS.dup X3.here hx rfl (hb hby at_9) rfl rfl k) ?_
  refine own_by (V := T3.setTop (mkF m 11 #[.val (.int p0), .val (.int p1), .val (.int p2), .unset, .unset, .unset, .unset] [(.int (1 : Int32)), (.ref b1), (.ref b1)])) (fun t k => XS.iconst X3.here hx rfl (hb hby at_10) k) ?_
  refine own_by (V := T3.setTop (mkF m 13 #[.val (.int p0), .val (.int p1), .val (.int p2), .unset, .unset, .unset, .unset] [(.int (10 : Int32)), (.int (1 : Int32)), (.ref b1), (.ref b1)])) (fun t k => XS.bipush X3.here hx rfl (hb hby at_11) k) ?_
  obtain ⟨cl4, Ar4, qa4, Sa4, Ma4, Ha4, Ua4⟩ := V3
  obtain ⟨T5, h5, X5, e5, W5, st5⟩ := stI X3 hx hZ e3 Ar4 (j := (1 : Int32)) (inb_of Sa4 ⟨(by decide), (by decide)⟩) (g := (mkF m 13 #[.val (.int p0), .val (.int p1), .val (.int p2), .unset, .unset, .unset, .unset] [(.int (10 : Int32)), (.int (1 : Int32)), (.ref b1), (.ref b1)])) rfl rfl (hb hby at_13)
  have N5 := Fr.snoc X5 N3 gn1
  have Zs5 : n0 ≤ h5.size := by rw [W5.size]; exact Zs3
  have V5 : Arv Z h5 b1 k1 .int (16 : Int32) [(.int (9 : Int32)), (.int (10 : Int32)), (.int (0 : Int32)), (.int (0 : Int32)), (.int (0 : Int32)), (.int (0 : Int32)), (.int (0 : Int32)), (.int (0 : Int32)), (.int (0 : Int32)), (.int (0 : Int32)), (.int (0 : Int32)), (.int (0 : Int32)), (.int (0 : Int32)), (.int (0 : Int32)), (.int (0 : Int32)), (.int (0 : Int32))] (.int (0 : Int32)) := Arv.set Ar4 qa4 Sa4 Ma4 Ha4 Ua4 rfl W5 1 (by decide) (by decide)
  refine own_by (V := T5.setTop (mkF m 14 #[.val (.int p0), .val (.int p1), .val (.int p2), .unset, .unset, .unset, .unset] [(.ref b1)])) st5 ?_
  refine own_by (V := T5.setTop (mkF m 15 #[.val (.int p0), .val (.int p1), .val (.int p2), .unset, .unset, .unset, .unset] [(.ref b1), (.ref b1)])) (fun t k => XS.dup X5.here hx rfl (hb hby at_14) rfl rfl k) ?_
  refine own_by (V := T5.setTop (mkF m 16 #[.val (.int p0), .val (.int p1), .val (.int p2), .unset, .unset, .unset, .unset] [(.int (2 : Int32)), (.ref b1), (.ref b1)])) (fun t k => XS.iconst X5.here hx rfl (hb hby at_15) k) ?_
  refine own_by (V := T5.setTop (mkF m 18 #[.val (.int p0), .val (.int p1), .val (.int p2), .unset, .unset, .unset, .unset] [(.int (13 : Int32)), (.int (2 : Int32)), (.ref b1), (.ref b1)])) (fun t k => XS.bipush X5.here hx rfl (hb hby at_16) k) ?_
  obtain ⟨cl6, Ar6, qa6, Sa6, Ma6, Ha6, Ua6⟩ := V5
  obtain ⟨T7, h7, X7, e7, W7, st7⟩ := stI X5 hx hZ e5 Ar6 (j := (2 : Int32)) (inb_of Sa6 ⟨(by decide), (by decide)⟩) (g := (mkF m 18 #[.val (.int p0), .val (.int p1), .val (.int p2), .unset, .unset, .unset, .unset] [(.int (13 : Int32)), (.int (2 : Int32)), (.ref b1), (.ref b1)])) rfl rfl (hb hby at_18)
  have N7 := Fr.snoc X7 N5 gn1
  have Zs7 : n0 ≤ h7.size := by rw [W7.size]; exact Zs5
  have V7 : Arv Z h7 b1 k1 .int (16 : Int32) [(.int (9 : Int32)), (.int (10 : Int32)), (.int (13 : Int32)), (.int (0 : Int32)), (.int (0 : Int32)), (.int (0 : Int32)), (.int (0 : Int32)), (.int (0 : Int32)), (.int (0 : Int32)), (.int (0 : Int32)), (.int (0 : Int32)), (.int (0 : Int32)), (.int (0 : Int32)), (.int (0 : Int32)), (.int (0 : Int32)), (.int (0 : Int32))] (.int (0 : Int32)) := Arv.set Ar6 qa6 Sa6 Ma6 Ha6 Ua6 rfl W7 2 (by decide) (by decide)
  refine own_by (V := T7.setTop (mkF m 19 #[.val (.int p0), .val (.int p1), .val (.int p2), .unset, .unset, .unset, .unset] [(.ref b1)])) st7 ?_
  refine own_by (V := T7.setTop (mkF m 20 #[.val (.int p0), .val (.int p1), .val (.int p2), .unset, .unset, .unset, .unset] [(.ref b1), (.ref b1)])) (fun t k => XS.dup X7.here hx rfl (hb hby at_19) rfl rfl k) ?_
  refine own_by (V := T7.setTop (mkF m 21 #[.val (.int p0), .val (.int p1), .val (.int p2), .unset, .unset, .unset, .unset] [(.int (3 : Int32)), (.ref b1), (.ref b1)])) (fun t k => XS.iconst X7.here hx rfl (hb hby at_20) k) ?_
  refine own_by (V := T7.setTop (mkF m 23 #[.val (.int p0), .val (.int p1), .val (.int p2), .unset, .unset, .unset, .unset] [(.int (32 : Int32)), (.int (3 : Int32)), (.ref b1), (.ref b1)])) (fun t k => XS.bipush X7.here hx rfl (hb hby at_21) k) ?_
  obtain ⟨cl8, Ar8, qa8, Sa8, Ma8, Ha8, Ua8⟩ := V7
  obtain ⟨T9, h9, X9, e9, W9, st9⟩ := stI X7 hx hZ e7 Ar8 (j := (3 : Int32)) (inb_of Sa8 ⟨(by decide), (by decide)⟩) (g := (mkF m 23 #[.val (.int p0), .val (.int p1), .val (.int p2), .unset, .unset, .unset, .unset] [(.int (32 : Int32)), (.int (3 : Int32)), (.ref b1), (.ref b1)])) rfl rfl (hb hby at_23)
  have N9 := Fr.snoc X9 N7 gn1
  have Zs9 : n0 ≤ h9.size := by rw [W9.size]; exact Zs7
  have V9 : Arv Z h9 b1 k1 .int (16 : Int32) [(.int (9 : Int32)), (.int (10 : Int32)), (.int (13 : Int32)), (.int (32 : Int32)), (.int (0 : Int32)), (.int (0 : Int32)), (.int (0 : Int32)), (.int (0 : Int32)), (.int (0 : Int32)), (.int (0 : Int32)), (.int (0 : Int32)), (.int (0 : Int32)), (.int (0 : Int32)), (.int (0 : Int32)), (.int (0 : Int32)), (.int (0 : Int32))] (.int (0 : Int32)) := Arv.set Ar8 qa8 Sa8 Ma8 Ha8 Ua8 rfl W9 3 (by decide) (by decide)
  refine own_by (V := T9.setTop (mkF m 24 #[.val (.int p0), .val (.int p1), .val (.int p2), .unset, .unset, .unset, .unset] [(.ref b1)])) st9 ?_
  refine own_by (V := T9.setTop (mkF m 25 #[.val (.int p0), .val (.int p1), .val (.int p2), .unset, .unset, .unset, .unset] [(.ref b1), (.ref b1)])) (fun t k => XS.dup X9.here hx rfl (hb hby at_24) rfl rfl k) ?_
  refine own_by (V := T9.setTop (mkF m 26 #[.val (.int p0), .val (.int p1), .val (.int p2), .unset, .unset, .unset, .unset] [(.int (4 : Int32)), (.ref b1), (.ref b1)])) (fun t k => XS.iconst X9.here hx rfl (hb hby at_25) k) ?_
  refine own_by (V := T9.setTop (mkF m 28 #[.val (.int p0), .val (.int p1), .val (.int p2), .unset, .unset, .unset, .unset] [(.int (55295 : Int32)), (.int (4 : Int32)), (.ref b1), (.ref b1)])) (Jvm.Stand.ldcInt X9 hx hown (mvT hZ (hw _ (List.mem_of_getElem? (i := 1) rfl))) (g := (mkF m 26 #[.val (.int p0), .val (.int p1), .val (.int p2), .unset, .unset, .unset, .unset] [(.int (4 : Int32)), (.ref b1), (.ref b1)])) rfl (hb hby at_26)) ?_
  obtain ⟨cl10, Ar10, qa10, Sa10, Ma10, Ha10, Ua10⟩ := V9
  obtain ⟨T11, h11, X11, e11, W11, st11⟩ := stI X9 hx hZ e9 Ar10 (j := (4 : Int32)) (inb_of Sa10 ⟨(by decide), (by decide)⟩) (g := (mkF m 28 #[.val (.int p0), .val (.int p1), .val (.int p2), .unset, .unset, .unset, .unset] [(.int (55295 : Int32)), (.int (4 : Int32)), (.ref b1), (.ref b1)])) rfl rfl (hb hby at_28)
  have N11 := Fr.snoc X11 N9 gn1
  have Zs11 : n0 ≤ h11.size := by rw [W11.size]; exact Zs9
  have V11 : Arv Z h11 b1 k1 .int (16 : Int32) [(.int (9 : Int32)), (.int (10 : Int32)), (.int (13 : Int32)), (.int (32 : Int32)), (.int (55295 : Int32)), (.int (0 : Int32)), (.int (0 : Int32)), (.int (0 : Int32)), (.int (0 : Int32)), (.int (0 : Int32)), (.int (0 : Int32)), (.int (0 : Int32)), (.int (0 : Int32)), (.int (0 : Int32)), (.int (0 : Int32)), (.int (0 : Int32))] (.int (0 : Int32)) := Arv.set Ar10 qa10 Sa10 Ma10 Ha10 Ua10 rfl W11 4 (by decide) (by decide)
  refine own_by (V := T11.setTop (mkF m 29 #[.val (.int p0), .val (.int p1), .val (.int p2), .unset, .unset, .unset, .unset] [(.ref b1)])) st11 ?_
  refine own_by (V := T11.setTop (mkF m 30 #[.val (.int p0), .val (.int p1), .val (.int p2), .unset, .unset, .unset, .unset] [(.ref b1), (.ref b1)])) (fun t k => XS.dup X11.here hx rfl (hb hby at_29) rfl rfl k) ?_
  refine own_by (V := T11.setTop (mkF m 31 #[.val (.int p0), .val (.int p1), .val (.int p2), .unset, .unset, .unset, .unset] [(.int (5 : Int32)), (.ref b1), (.ref b1)])) (fun t k => XS.iconst X11.here hx rfl (hb hby at_30) k) ?_
  refine own_by (V := T11.setTop (mkF m 33 #[.val (.int p0), .val (.int p1), .val (.int p2), .unset, .unset, .unset, .unset] [(.int (57344 : Int32)), (.int (5 : Int32)), (.ref b1), (.ref b1)])) (Jvm.Stand.ldcInt X11 hx hown (mvT hZ (hw _ (List.mem_of_getElem? (i := 2) rfl))) (g := (mkF m 31 #[.val (.int p0), .val (.int p1), .val (.int p2), .unset, .unset, .unset, .unset] [(.int (5 : Int32)), (.ref b1), (.ref b1)])) rfl (hb hby at_31)) ?_
  obtain ⟨cl12, Ar12, qa12, Sa12, Ma12, Ha12, Ua12⟩ := V11
  obtain ⟨T13, h13, X13, e13, W13, st13⟩ := stI X11 hx hZ e11 Ar12 (j := (5 : Int32)) (inb_of Sa12 ⟨(by decide), (by decide)⟩) (g := (mkF m 33 #[.val (.int p0), .val (.int p1), .val (.int p2), .unset, .unset, .unset, .unset] [(.int (57344 : Int32)), (.int (5 : Int32)), (.ref b1), (.ref b1)])) rfl rfl (hb hby at_33)
  have N13 := Fr.snoc X13 N11 gn1
  have Zs13 : n0 ≤ h13.size := by rw [W13.size]; exact Zs11
  have V13 : Arv Z h13 b1 k1 .int (16 : Int32) [(.int (9 : Int32)), (.int (10 : Int32)), (.int (13 : Int32)), (.int (32 : Int32)), (.int (55295 : Int32)), (.int (57344 : Int32)), (.int (0 : Int32)), (.int (0 : Int32)), (.int (0 : Int32)), (.int (0 : Int32)), (.int (0 : Int32)), (.int (0 : Int32)), (.int (0 : Int32)), (.int (0 : Int32)), (.int (0 : Int32)), (.int (0 : Int32))] (.int (0 : Int32)) := Arv.set Ar12 qa12 Sa12 Ma12 Ha12 Ua12 rfl W13 5 (by decide) (by decide)
  refine own_by (V := T13.setTop (mkF m 34 #[.val (.int p0), .val (.int p1), .val (.int p2), .unset, .unset, .unset, .unset] [(.ref b1)])) st13 ?_
  refine own_by (V := T13.setTop (mkF m 35 #[.val (.int p0), .val (.int p1), .val (.int p2), .unset, .unset, .unset, .unset] [(.ref b1), (.ref b1)])) (fun t k => XS.dup X13.here hx rfl (hb hby at_34) rfl rfl k) ?_
  refine own_by (V := T13.setTop (mkF m 37 #[.val (.int p0), .val (.int p1), .val (.int p2), .unset, .unset, .unset, .unset] [(.int (6 : Int32)), (.ref b1), (.ref b1)])) (fun t k => XS.bipush X13.here hx rfl (hb hby at_35) k) ?_
  refine own_by (V := T13.setTop (mkF m 39 #[.val (.int p0), .val (.int p1), .val (.int p2), .unset, .unset, .unset, .unset] [(.int (65533 : Int32)), (.int (6 : Int32)), (.ref b1), (.ref b1)])) (Jvm.Stand.ldcInt X13 hx hown (mvT hZ (hw _ (List.mem_of_getElem? (i := 3) rfl))) (g := (mkF m 37 #[.val (.int p0), .val (.int p1), .val (.int p2), .unset, .unset, .unset, .unset] [(.int (6 : Int32)), (.ref b1), (.ref b1)])) rfl (hb hby at_37)) ?_
  obtain ⟨cl14, Ar14, qa14, Sa14, Ma14, Ha14, Ua14⟩ := V13
  obtain ⟨T15, h15, X15, e15, W15, st15⟩ := stI X13 hx hZ e13 Ar14 (j := (6 : Int32)) (inb_of Sa14 ⟨(by decide), (by decide)⟩) (g := (mkF m 39 #[.val (.int p0), .val (.int p1), .val (.int p2), .unset, .unset, .unset, .unset] [(.int (65533 : Int32)), (.int (6 : Int32)), (.ref b1), (.ref b1)])) rfl rfl (hb hby at_39)
  have N15 := Fr.snoc X15 N13 gn1
  have Zs15 : n0 ≤ h15.size := by rw [W15.size]; exact Zs13
  have V15 : Arv Z h15 b1 k1 .int (16 : Int32) [(.int (9 : Int32)), (.int (10 : Int32)), (.int (13 : Int32)), (.int (32 : Int32)), (.int (55295 : Int32)), (.int (57344 : Int32)), (.int (65533 : Int32)), (.int (0 : Int32)), (.int (0 : Int32)), (.int (0 : Int32)), (.int (0 : Int32)), (.int (0 : Int32)), (.int (0 : Int32)), (.int (0 : Int32)), (.int (0 : Int32)), (.int (0 : Int32))] (.int (0 : Int32)) := Arv.set Ar14 qa14 Sa14 Ma14 Ha14 Ua14 rfl W15 6 (by decide) (by decide)
  refine own_by (V := T15.setTop (mkF m 40 #[.val (.int p0), .val (.int p1), .val (.int p2), .unset, .unset, .unset, .unset] [(.ref b1)])) st15 ?_
  refine own_by (V := T15.setTop (mkF m 41 #[.val (.int p0), .val (.int p1), .val (.int p2), .unset, .unset, .unset, .unset] [(.ref b1), (.ref b1)])) (fun t k => XS.dup X15.here hx rfl (hb hby at_40) rfl rfl k) ?_
  refine own_by (V := T15.setTop (mkF m 43 #[.val (.int p0), .val (.int p1), .val (.int p2), .unset, .unset, .unset, .unset] [(.int (7 : Int32)), (.ref b1), (.ref b1)])) (fun t k => XS.bipush X15.here hx rfl (hb hby at_41) k) ?_
  refine own_by (V := T15.setTop (mkF m 45 #[.val (.int p0), .val (.int p1), .val (.int p2), .unset, .unset, .unset, .unset] [(.int (65536 : Int32)), (.int (7 : Int32)), (.ref b1), (.ref b1)])) (Jvm.Stand.ldcInt X15 hx hown (mvT hZ (hw _ (List.mem_of_getElem? (i := 4) rfl))) (g := (mkF m 43 #[.val (.int p0), .val (.int p1), .val (.int p2), .unset, .unset, .unset, .unset] [(.int (7 : Int32)), (.ref b1), (.ref b1)])) rfl (hb hby at_43)) ?_
  obtain ⟨cl16, Ar16, qa16, Sa16, Ma16, Ha16, Ua16⟩ := V15
  obtain ⟨T17, h17, X17, e17, W17, st17⟩ := stI X15 hx hZ e15 Ar16 (j := (7 : Int32)) (inb_of Sa16 ⟨(by decide), (by decide)⟩) (g := (mkF m 45 #[.val (.int p0), .val (.int p1), .val (.int p2), .unset, .unset, .unset, .unset] [(.int (65536 : Int32)), (.int (7 : Int32)), (.ref b1), (.ref b1)])) rfl rfl (hb hby at_45)
  have N17 := Fr.snoc X17 N15 gn1
  have Zs17 : n0 ≤ h17.size := by rw [W17.size]; exact Zs15
  have V17 : Arv Z h17 b1 k1 .int (16 : Int32) [(.int (9 : Int32)), (.int (10 : Int32)), (.int (13 : Int32)), (.int (32 : Int32)), (.int (55295 : Int32)), (.int (57344 : Int32)), (.int (65533 : Int32)), (.int (65536 : Int32)), (.int (0 : Int32)), (.int (0 : Int32)), (.int (0 : Int32)), (.int (0 : Int32)), (.int (0 : Int32)), (.int (0 : Int32)), (.int (0 : Int32)), (.int (0 : Int32))] (.int (0 : Int32)) := Arv.set Ar16 qa16 Sa16 Ma16 Ha16 Ua16 rfl W17 7 (by decide) (by decide)
  refine own_by (V := T17.setTop (mkF m 46 #[.val (.int p0), .val (.int p1), .val (.int p2), .unset, .unset, .unset, .unset] [(.ref b1)])) st17 ?_
  refine own_by (V := T17.setTop (mkF m 47 #[.val (.int p0), .val (.int p1), .val (.int p2), .unset, .unset, .unset, .unset] [(.ref b1), (.ref b1)])) (fun t k => XS.dup X17.here hx rfl (hb hby at_46) rfl rfl k) ?_
  refine own_by (V := T17.setTop (mkF m 49 #[.val (.int p0), .val (.int p1), .val (.int p2), .unset, .unset, .unset, .unset] [(.int (8 : Int32)), (.ref b1), (.ref b1)])) (fun t k => XS.bipush X17.here hx rfl (hb hby at_47) k) ?_
  refine own_by (V := T17.setTop (mkF m 51 #[.val (.int p0), .val (.int p1), .val (.int p2), .unset, .unset, .unset, .unset] [(.int (1114111 : Int32)), (.int (8 : Int32)), (.ref b1), (.ref b1)])) (Jvm.Stand.ldcInt X17 hx hown (mvT hZ (hw _ (List.mem_of_getElem? (i := 5) rfl))) (g := (mkF m 49 #[.val (.int p0), .val (.int p1), .val (.int p2), .unset, .unset, .unset, .unset] [(.int (8 : Int32)), (.ref b1), (.ref b1)])) rfl (hb hby at_49)) ?_
  obtain ⟨cl18, Ar18, qa18, Sa18, Ma18, Ha18, Ua18⟩ := V17
  obtain ⟨T19, h19, X19, e19, W19, st19⟩ := stI X17 hx hZ e17 Ar18 (j := (8 : Int32)) (inb_of Sa18 ⟨(by decide), (by decide)⟩) (g := (mkF m 51 #[.val (.int p0), .val (.int p1), .val (.int p2), .unset, .unset, .unset, .unset] [(.int (1114111 : Int32)), (.int (8 : Int32)), (.ref b1), (.ref b1)])) rfl rfl (hb hby at_51)
  have N19 := Fr.snoc X19 N17 gn1
  have Zs19 : n0 ≤ h19.size := by rw [W19.size]; exact Zs17
  have V19 : Arv Z h19 b1 k1 .int (16 : Int32) [(.int (9 : Int32)), (.int (10 : Int32)), (.int (13 : Int32)), (.int (32 : Int32)), (.int (55295 : Int32)), (.int (57344 : Int32)), (.int (65533 : Int32)), (.int (65536 : Int32)), (.int (1114111 : Int32)), (.int (0 : Int32)), (.int (0 : Int32)), (.int (0 : Int32)), (.int (0 : Int32)), (.int (0 : Int32)), (.int (0 : Int32)), (.int (0 : Int32))] (.int (0 : Int32)) := Arv.set Ar18 qa18 Sa18 Ma18 Ha18 Ua18 rfl W19 8 (by decide) (by decide)
  refine own_by (V := T19.setTop (mkF m 52 #[.val (.int p0), .val (.int p1), .val (.int p2), .unset, .unset, .unset, .unset] [(.ref b1)])) st19 ?_
  refine own_by (V := T19.setTop (mkF m 53 #[.val (.int p0), .val (.int p1), .val (.int p2), .unset, .unset, .unset, .unset] [(.ref b1), (.ref b1)])) (fun t k => XS.dup X19.here hx rfl (hb hby at_52) rfl rfl k) ?_
  refine own_by (V := T19.setTop (mkF m 55 #[.val (.int p0), .val (.int p1), .val (.int p2), .unset, .unset, .unset, .unset] [(.int (9 : Int32)), (.ref b1), (.ref b1)])) (fun t k => XS.bipush X19.here hx rfl (hb hby at_53) k) ?_
  refine own_by (V := T19.setTop (mkF m 56 #[.val (.int p0), .val (.int p1), .val (.int p2), .unset, .unset, .unset, .unset] [(.int (0 : Int32)), (.int (9 : Int32)), (.ref b1), (.ref b1)])) (fun t k => XS.iconst X19.here hx rfl (hb hby at_55) k) ?_
  obtain ⟨cl20, Ar20, qa20, Sa20, Ma20, Ha20, Ua20⟩ := V19
  obtain ⟨T21, h21, X21, e21, W21, st21⟩ := stI X19 hx hZ e19 Ar20 (j := (9 : Int32)) (inb_of Sa20 ⟨(by decide), (by decide)⟩) (g := (mkF m 56 #[.val (.int p0), .val (.int p1), .val (.int p2), .unset, .unset, .unset, .unset] [(.int (0 : Int32)), (.int (9 : Int32)), (.ref b1), (.ref b1)])) rfl rfl (hb hby at_56)
  have N21 := Fr.snoc X21 N19 gn1
  have Zs21 : n0 ≤ h21.size := by rw [W21.size]; exact Zs19
  have V21 : Arv Z h21 b1 k1 .int (16 : Int32) [(.int (9 : Int32)), (.int (10 : Int32)), (.int (13 : Int32)), (.int (32 : Int32)), (.int (55295 : Int32)), (.int (57344 : Int32)), (.int (65533 : Int32)), (.int (65536 : Int32)), (.int (1114111 : Int32)), (.int (0 : Int32)), (.int (0 : Int32)), (.int (0 : Int32)), (.int (0 : Int32)), (.int (0 : Int32)), (.int (0 : Int32)), (.int (0 : Int32))] (.int (0 : Int32)) := Arv.set Ar20 qa20 Sa20 Ma20 Ha20 Ua20 rfl W21 9 (by decide) (by decide)
  refine own_by (V := T21.setTop (mkF m 57 #[.val (.int p0), .val (.int p1), .val (.int p2), .unset, .unset, .unset, .unset] [(.ref b1)])) st21 ?_
  refine own_by (V := T21.setTop (mkF m 58 #[.val (.int p0), .val (.int p1), .val (.int p2), .unset, .unset, .unset, .unset] [(.ref b1), (.ref b1)])) (fun t k => XS.dup X21.here hx rfl (hb hby at_57) rfl rfl k) ?_
  refine own_by (V := T21.setTop (mkF m 60 #[.val (.int p0), .val (.int p1), .val (.int p2), .unset, .unset, .unset, .unset] [(.int (10 : Int32)), (.ref b1), (.ref b1)])) (fun t k => XS.bipush X21.here hx rfl (hb hby at_58) k) ?_
  refine own_by (V := T21.setTop (mkF m 62 #[.val (.int p0), .val (.int p1), .val (.int p2), .unset, .unset, .unset, .unset] [(.int (55296 : Int32)), (.int (10 : Int32)), (.ref b1), (.ref b1)])) (Jvm.Stand.ldcInt X21 hx hown (mvT hZ (hw _ (List.mem_of_getElem? (i := 6) rfl))) (g := (mkF m 60 #[.val (.int p0), .val (.int p1), .val (.int p2), .unset, .unset, .unset, .unset] [(.int (10 : Int32)), (.ref b1), (.ref b1)])) rfl (hb hby at_60)) ?_
  obtain ⟨cl22, Ar22, qa22, Sa22, Ma22, Ha22, Ua22⟩ := V21
  obtain ⟨T23, h23, X23, e23, W23, st23⟩ := stI X21 hx hZ e21 Ar22 (j := (10 : Int32)) (inb_of Sa22 ⟨(by decide), (by decide)⟩) (g := (mkF m 62 #[.val (.int p0), .val (.int p1), .val (.int p2), .unset, .unset, .unset, .unset] [(.int (55296 : Int32)), (.int (10 : Int32)), (.ref b1), (.ref b1)])) rfl rfl (hb hby at_62)
  have N23 := Fr.snoc X23 N21 gn1
  have Zs23 : n0 ≤ h23.size := by rw [W23.size]; exact Zs21
  have V23 : Arv Z h23 b1 k1 .int (16 : Int32) [(.int (9 : Int32)), (.int (10 : Int32)), (.int (13 : Int32)), (.int (32 : Int32)), (.int (55295 : Int32)), (.int (57344 : Int32)), (.int (65533 : Int32)), (.int (65536 : Int32)), (.int (1114111 : Int32)), (.int (0 : Int32)), (.int (55296 : Int32)), (.int (0 : Int32)), (.int (0 : Int32)), (.int (0 : Int32)), (.int (0 : Int32)), (.int (0 : Int32))] (.int (0 : Int32)) := Arv.set Ar22 qa22 Sa22 Ma22 Ha22 Ua22 rfl W23 10 (by decide) (by decide)
  refine own_by (V := T23.setTop (mkF m 63 #[.val (.int p0), .val (.int p1), .val (.int p2), .unset, .unset, .unset, .unset] [(.ref b1)])) st23 ?_
  refine own_by (V := T23.setTop (mkF m 64 #[.val (.int p0), .val (.int p1), .val (.int p2), .unset, .unset, .unset, .unset] [(.ref b1), (.ref b1)])) (fun t k => XS.dup X23.here hx rfl (hb hby at_63) rfl rfl k) ?_
  refine own_by (V := T23.setTop (mkF m 66 #[.val (.int p0), .val (.int p1), .val (.int p2), .unset, .unset, .unset, .unset] [(.int (11 : Int32)), (.ref b1), (.ref b1)])) (fun t k => XS.bipush X23.here hx rfl (hb hby at_64) k) ?_
  refine own_by (V := T23.setTop (mkF m 68 #[.val (.int p0), .val (.int p1), .val (.int p2), .unset, .unset, .unset, .unset] [(.int (57343 : Int32)), (.int (11 : Int32)), (.ref b1), (.ref b1)])) (Jvm.Stand.ldcInt X23 hx hown (mvT hZ (hw _ (List.mem_of_getElem? (i := 7) rfl))) (g := (mkF m 66 #[.val (.int p0), .val (.int p1), .val (.int p2), .unset, .unset, .unset, .unset] [(.int (11 : Int32)), (.ref b1), (.ref b1)])) rfl (hb hby at_66)) ?_
  obtain ⟨cl24, Ar24, qa24, Sa24, Ma24, Ha24, Ua24⟩ := V23
  obtain ⟨T25, h25, X25, e25, W25, st25⟩ := stI X23 hx hZ e23 Ar24 (j := (11 : Int32)) (inb_of Sa24 ⟨(by decide), (by decide)⟩) (g := (mkF m 68 #[.val (.int p0), .val (.int p1), .val (.int p2), .unset, .unset, .unset, .unset] [(.int (57343 : Int32)), (.int (11 : Int32)), (.ref b1), (.ref b1)])) rfl rfl (hb hby at_68)
  have N25 := Fr.snoc X25 N23 gn1
  have Zs25 : n0 ≤ h25.size := by rw [W25.size]; exact Zs23
  have V25 : Arv Z h25 b1 k1 .int (16 : Int32) [(.int (9 : Int32)), (.int (10 : Int32)), (.int (13 : Int32)), (.int (32 : Int32)), (.int (55295 : Int32)), (.int (57344 : Int32)), (.int (65533 : Int32)), (.int (65536 : Int32)), (.int (1114111 : Int32)), (.int (0 : Int32)), (.int (55296 : Int32)), (.int (57343 : Int32)), (.int (0 : Int32)), (.int (0 : Int32)), (.int (0 : Int32)), (.int (0 : Int32))] (.int (0 : Int32)) := Arv.set Ar24 qa24 Sa24 Ma24 Ha24 Ua24 rfl W25 11 (by decide) (by decide)
  refine own_by (V := T25.setTop (mkF m 69 #[.val (.int p0), .val (.int p1), .val (.int p2), .unset, .unset, .unset, .unset] [(.ref b1)])) st25 ?_
  refine own_by (V := T25.setTop (mkF m 70 #[.val (.int p0), .val (.int p1), .val (.int p2), .unset, .unset, .unset, .unset] [(.ref b1), (.ref b1)])) (fun t k => XS.dup X25.here hx rfl (hb hby at_69) rfl rfl k) ?_
  refine own_by (V := T25.setTop (mkF m 72 #[.val (.int p0), .val (.int p1), .val (.int p2), .unset, .unset, .unset, .unset] [(.int (12 : Int32)), (.ref b1), (.ref b1)])) (fun t k => XS.bipush X25.here hx rfl (hb hby at_70) k) ?_
  refine own_by (V := T25.setTop (mkF m 74 #[.val (.int p0), .val (.int p1), .val (.int p2), .unset, .unset, .unset, .unset] [(.int (65534 : Int32)), (.int (12 : Int32)), (.ref b1), (.ref b1)])) (Jvm.Stand.ldcInt X25 hx hown (mvT hZ (hw _ (List.mem_of_getElem? (i := 8) rfl))) (g := (mkF m 72 #[.val (.int p0), .val (.int p1), .val (.int p2), .unset, .unset, .unset, .unset] [(.int (12 : Int32)), (.ref b1), (.ref b1)])) rfl (hb hby at_72)) ?_
  obtain ⟨cl26, Ar26, qa26, Sa26, Ma26, Ha26, Ua26⟩ := V25
  obtain ⟨T27, h27, X27, e27, W27, st27⟩ := stI X25 hx hZ e25 Ar26 (j := (12 : Int32)) (inb_of Sa26 ⟨(by decide), (by decide)⟩) (g := (mkF m 74 #[.val (.int p0), .val (.int p1), .val (.int p2), .unset, .unset, .unset, .unset] [(.int (65534 : Int32)), (.int (12 : Int32)), (.ref b1), (.ref b1)])) rfl rfl (hb hby at_74)
  have N27 := Fr.snoc X27 N25 gn1
  have Zs27 : n0 ≤ h27.size := by rw [W27.size]; exact Zs25
  have V27 : Arv Z h27 b1 k1 .int (16 : Int32) [(.int (9 : Int32)), (.int (10 : Int32)), (.int (13 : Int32)), (.int (32 : Int32)), (.int (55295 : Int32)), (.int (57344 : Int32)), (.int (65533 : Int32)), (.int (65536 : Int32)), (.int (1114111 : Int32)), (.int (0 : Int32)), (.int (55296 : Int32)), (.int (57343 : Int32)), (.int (65534 : Int32)), (.int (0 : Int32)), (.int (0 : Int32)), (.int (0 : Int32))] (.int (0 : Int32)) := Arv.set Ar26 qa26 Sa26 Ma26 Ha26 Ua26 rfl W27 12 (by decide) (by decide)
  refine own_by (V := T27.setTop (mkF m 75 #[.val (.int p0), .val (.int p1), .val (.int p2), .unset, .unset, .unset, .unset] [(.ref b1)])) st27 ?_
  refine own_by (V := T27.setTop (mkF m 76 #[.val (.int p0), .val (.int p1), .val (.int p2), .unset, .unset, .unset, .unset] [(.ref b1), (.ref b1)])) (fun t k => XS.dup X27.here hx rfl (hb hby at_75) rfl rfl k) ?_
  refine own_by (V := T27.setTop (mkF m 78 #[.val (.int p0), .val (.int p1), .val (.int p2), .unset, .unset, .unset, .unset] [(.int (13 : Int32)), (.ref b1), (.ref b1)])) (fun t k => XS.bipush X27.here hx rfl (hb hby at_76) k) ?_
  refine own_by (V := T27.setTop (mkF m 80 #[.val (.int p0), .val (.int p1), .val (.int p2), .unset, .unset, .unset, .unset] [(.int (-2147483648 : Int32)), (.int (13 : Int32)), (.ref b1), (.ref b1)])) (Jvm.Stand.ldcInt X27 hx hown (mvT hZ (hw _ (List.mem_of_getElem? (i := 9) rfl))) (g := (mkF m 78 #[.val (.int p0), .val (.int p1), .val (.int p2), .unset, .unset, .unset, .unset] [(.int (13 : Int32)), (.ref b1), (.ref b1)])) rfl (hb hby at_78)) ?_
  obtain ⟨cl28, Ar28, qa28, Sa28, Ma28, Ha28, Ua28⟩ := V27
  obtain ⟨T29, h29, X29, e29, W29, st29⟩ := stI X27 hx hZ e27 Ar28 (j := (13 : Int32)) (inb_of Sa28 ⟨(by decide), (by decide)⟩) (g := (mkF m 80 #[.val (.int p0), .val (.int p1), .val (.int p2), .unset, .unset, .unset, .unset] [(.int (-2147483648 : Int32)), (.int (13 : Int32)), (.ref b1), (.ref b1)])) rfl rfl (hb hby at_80)
  have N29 := Fr.snoc X29 N27 gn1
  have Zs29 : n0 ≤ h29.size := by rw [W29.size]; exact Zs27
  have V29 : Arv Z h29 b1 k1 .int (16 : Int32) [(.int (9 : Int32)), (.int (10 : Int32)), (.int (13 : Int32)), (.int (32 : Int32)), (.int (55295 : Int32)), (.int (57344 : Int32)), (.int (65533 : Int32)), (.int (65536 : Int32)), (.int (1114111 : Int32)), (.int (0 : Int32)), (.int (55296 : Int32)), (.int (57343 : Int32)), (.int (65534 : Int32)), (.int (-2147483648 : Int32)), (.int (0 : Int32)), (.int (0 : Int32))] (.int (0 : Int32)) := Arv.set Ar28 qa28 Sa28 Ma28 Ha28 Ua28 rfl W29 13 (by decide) (by decide)
  refine own_by (V := T29.setTop (mkF m 81 #[.val (.int p0), .val (.int p1), .val (.int p2), .unset, .unset, .unset, .unset] [(.ref b1)])) st29 ?_
  refine own_by (V := T29.setTop (mkF m 82 #[.val (.int p0), .val (.int p1), .val (.int p2), .unset, .unset, .unset, .unset] [(.ref b1), (.ref b1)])) (fun t k => XS.dup X29.here hx rfl (hb hby at_81) rfl rfl k) ?_
  refine own_by (V := T29.setTop (mkF m 84 #[.val (.int p0), .val (.int p1), .val (.int p2), .unset, .unset, .unset, .unset] [(.int (14 : Int32)), (.ref b1), (.ref b1)])) (fun t k => XS.bipush X29.here hx rfl (hb hby at_82) k) ?_
  refine own_by (V := T29.setTop (mkF m 86 #[.val (.int p0), .val (.int p1), .val (.int p2), .unset, .unset, .unset, .unset] [(.int (2147483647 : Int32)), (.int (14 : Int32)), (.ref b1), (.ref b1)])) (Jvm.Stand.ldcInt X29 hx hown (mvT hZ (hw _ (List.mem_of_getElem? (i := 10) rfl))) (g := (mkF m 84 #[.val (.int p0), .val (.int p1), .val (.int p2), .unset, .unset, .unset, .unset] [(.int (14 : Int32)), (.ref b1), (.ref b1)])) rfl (hb hby at_84)) ?_
  obtain ⟨cl30, Ar30, qa30, Sa30, Ma30, Ha30, Ua30⟩ := V29
  obtain ⟨T31, h31, X31, e31, W31, st31⟩ := stI X29 hx hZ e29 Ar30 (j := (14 : Int32)) (inb_of Sa30 ⟨(by decide), (by decide)⟩) (g := (mkF m 86 #[.val (.int p0), .val (.int p1), .val (.int p2), .unset, .unset, .unset, .unset] [(.int (2147483647 : Int32)), (.int (14 : Int32)), (.ref b1), (.ref b1)])) rfl rfl (hb hby at_86)
  have N31 := Fr.snoc X31 N29 gn1
  have Zs31 : n0 ≤ h31.size := by rw [W31.size]; exact Zs29
  have V31 : Arv Z h31 b1 k1 .int (16 : Int32) [(.int (9 : Int32)), (.int (10 : Int32)), (.int (13 : Int32)), (.int (32 : Int32)), (.int (55295 : Int32)), (.int (57344 : Int32)), (.int (65533 : Int32)), (.int (65536 : Int32)), (.int (1114111 : Int32)), (.int (0 : Int32)), (.int (55296 : Int32)), (.int (57343 : Int32)), (.int (65534 : Int32)), (.int (-2147483648 : Int32)), (.int (2147483647 : Int32)), (.int (0 : Int32))] (.int (0 : Int32)) := Arv.set Ar30 qa30 Sa30 Ma30 Ha30 Ua30 rfl W31 14 (by decide) (by decide)
  refine own_by (V := T31.setTop (mkF m 87 #[.val (.int p0), .val (.int p1), .val (.int p2), .unset, .unset, .unset, .unset] [(.ref b1)])) st31 ?_
  refine own_by (V := T31.setTop (mkF m 88 #[.val (.int p0), .val (.int p1), .val (.int p2), .unset, .unset, .unset, .unset] [(.ref b1), (.ref b1)])) (fun t k => XS.dup X31.here hx rfl (hb hby at_87) rfl rfl k) ?_
  refine own_by (V := T31.setTop (mkF m 90 #[.val (.int p0), .val (.int p1), .val (.int p2), .unset, .unset, .unset, .unset] [(.int (15 : Int32)), (.ref b1), (.ref b1)])) (fun t k => XS.bipush X31.here hx rfl (hb hby at_88) k) ?_
  refine own_by (V := T31.setTop (mkF m 92 #[.val (.int p0), .val (.int p1), .val (.int p2), .unset, .unset, .unset, .unset] [(.int (31 : Int32)), (.int (15 : Int32)), (.ref b1), (.ref b1)])) (fun t k => XS.bipush X31.here hx rfl (hb hby at_90) k) ?_
  obtain ⟨cl32, Ar32, qa32, Sa32, Ma32, Ha32, Ua32⟩ := V31
  obtain ⟨T33, h33, X33, e33, W33, st33⟩ := stI X31 hx hZ e31 Ar32 (j := (15 : Int32)) (inb_of Sa32 ⟨(by decide), (by decide)⟩) (g := (mkF m 92 #[.val (.int p0), .val (.int p1), .val (.int p2), .unset, .unset, .unset, .unset] [(.int (31 : Int32)), (.int (15 : Int32)), (.ref b1), (.ref b1)])) rfl rfl (hb hby at_92)
  have N33 := Fr.snoc X33 N31 gn1
  have Zs33 : n0 ≤ h33.size := by rw [W33.size]; exact Zs31
  have V33 : Arv Z h33 b1 k1 .int (16 : Int32) [(.int (9 : Int32)), (.int (10 : Int32)), (.int (13 : Int32)), (.int (32 : Int32)), (.int (55295 : Int32)), (.int (57344 : Int32)), (.int (65533 : Int32)), (.int (65536 : Int32)), (.int (1114111 : Int32)), (.int (0 : Int32)), (.int (55296 : Int32)), (.int (57343 : Int32)), (.int (65534 : Int32)), (.int (-2147483648 : Int32)), (.int (2147483647 : Int32)), (.int (31 : Int32))] (.int (0 : Int32)) := Arv.set Ar32 qa32 Sa32 Ma32 Ha32 Ua32 rfl W33 15 (by decide) (by decide)
  refine own_by (V := T33.setTop (mkF m 93 #[.val (.int p0), .val (.int p1), .val (.int p2), .unset, .unset, .unset, .unset] [(.ref b1)])) st33 ?_
  refine own_by (V := T33.setTop (mkF m 94 #[.val (.int p0), .val (.int p1), .val (.int p2), .val (.ref b1), .unset, .unset, .unset] [])) (fun t k => XS.astoreN X33.here hx rfl (hb hby at_93) rfl rfl (l' := #[.val (.int p0), .val (.int p1), .val (.int p2), .val (.ref b1), .unset, .unset, .unset]) rfl k) ?_
  refine own_by (V := T33.setTop (mkF m 95 #[.val (.int p0), .val (.int p1), .val (.int p2), .val (.ref b1), .unset, .unset, .unset] [(.ref b1)])) (fun t k => XS.aloadN X33.here hx rfl (hb hby at_94) rfl rfl k) ?_
  refine own_by (V := T33.setTop (mkF m 96 #[.val (.int p0), .val (.int p1), .val (.int p2), .val (.ref b1), .unset, .unset, .unset] [(.int p1), (.ref b1)])) (fun t k => XS.iloadN X33.here hx rfl (hb hby at_95) rfl  k) ?_
  refine own_by (V := T33.setTop (mkF m 98 #[.val (.int p0), .val (.int p1), .val (.int p2), .val (.ref b1), .unset, .unset, .unset] [(.int (15 : Int32)), (.int p1), (.ref b1)])) (fun t k => XS.bipush X33.here hx rfl (hb hby at_96) k) ?_
  refine own_by (V := T33.setTop (mkF m 99 #[.val (.int p0), .val (.int p1), .val (.int p2), .val (.ref b1), .unset, .unset, .unset] [(.int (p1 &&& (15 : Int32))), (.ref b1)])) (fun t k => XS.iand X33.here hx rfl (hb hby at_98) rfl k) ?_
  obtain ⟨cl34, Ar34, qa34, Sa34, Ma34, Ha34, Ua34⟩ := V33
  have hi34 := inb_of Sa34 (j := (p1 &&& (15 : Int32))) (own_and15 p1)
  obtain ⟨xv, hxv⟩ : ∃ xv, cl34.slots[((p1 &&& (15 : Int32))).toNatClampNeg]? = some (.int xv) := by
    have hlt := Nat.lt_of_not_le fun q => hi34 (Or.inr q)
    obtain ⟨x, hx'⟩ := fit_I (Ua34 _ hlt) (Or.inl rfl)
    exact ⟨x, by rw [Ha34 _ hlt, hx']⟩
  refine own_by (V := T33.setTop (mkF m 100 #[.val (.int p0), .val (.int p1), .val (.int p2), .val (.ref b1), .unset, .unset, .unset] [(.int xv)])) (X33.iaload hx (j := (p1 &&& (15 : Int32))) (v := .int xv) (by rw [e33]; exact Ar34.1) (State.isArrayOf_alike hZ.alike Ar34.2.1) Ar34.2.2 hi34 hxv (g := (mkF m 99 #[.val (.int p0), .val (.int p1), .val (.int p2), .val (.ref b1), .unset, .unset, .unset] [(.int (p1 &&& (15 : Int32))), (.ref b1)])) rfl rfl (hb hby at_99)) ?_
  refine own_by (V := T33.setTop (mkF m 101 #[.val (.int p0), .val (.int p1), .val (.int p2), .val (.ref b1), .unset, .unset, .unset] [(.int p2), (.int xv)])) (fun t k => XS.iloadN X33.here hx rfl (hb hby at_100) rfl  k) ?_
  refine own_by (V := T33.setTop (mkF m 102 #[.val (.int p0), .val (.int p1), .val (.int p2), .val (.ref b1), .unset, .unset, .unset] [(.int (3 : Int32)), (.int p2), (.int xv)])) (fun t k => XS.iconst X33.here hx rfl (hb hby at_101) k) ?_
  refine own_by (V := T33.setTop (mkF m 103 #[.val (.int p0), .val (.int p1), .val (.int p2), .val (.ref b1), .unset, .unset, .unset] [(.int (p2 % (3 : Int32))), (.int xv)])) (fun t k => iremM X33 hx rfl (hb hby at_102) rfl (by decide) k) ?_
  refine own_by (V := T33.setTop (mkF m 104 #[.val (.int p0), .val (.int p1), .val (.int p2), .val (.ref b1), .unset, .unset, .unset] [(.int (xv + (p2 % (3 : Int32))))])) (fun t k => XS.iadd X33.here hx rfl (hb hby at_103) rfl k) ?_
  obtain ⟨z35, hz35⟩ : ∃ z : Int32, z = (xv + (p2 % (3 : Int32))) := ⟨_, rfl⟩
  rw [← hz35]
  refine own_by (V := T33.setTop (mkF m 106 #[.val (.int p0), .val (.int p1), .val (.int p2), .val (.ref b1), .val (.int z35), .unset, .unset] [])) (fun t k => XS.istore X33.here hx rfl (hb hby at_104) rfl (l' := #[.val (.int p0), .val (.int p1), .val (.int p2), .val (.ref b1), .val (.int z35), .unset, .unset]) rfl k) ?_
  refine own_by (V := T33.setTop (mkF m 107 #[.val (.int p0), .val (.int p1), .val (.int p2), .val (.ref b1), .val (.int z35), .unset, .unset] [(.int p0)])) (fun t k => XS.iloadN X33.here hx rfl (hb hby at_106) rfl  k) ?_
  obtain ⟨_, _, ⟨T36, Lq36, kq36, nq36⟩, -, X36, ⟨Lc36, hQ36, lq36, yq36, zq36⟩, st36⟩ := Jvm.LawKit.callS X33 hx (y := (⟨"com/example/canox/canox/xml/XmlChars", "isChar", "(I)Z"⟩ : MethodName)) hown (mvT hZ (hw _ (List.mem_of_getElem? (i := 11) rfl))) (mvT hZ (hw _ (List.mem_of_getElem? (i := 12) rfl))) (mvT hZ (hw _ (List.mem_of_getElem? (i := 13) rfl))) (mvT hZ (hw _ (List.mem_of_getElem? (i := 14) rfl))) (by decide) (backOf (W := 0) (own_rm1 l Z a0 hw [] p0 h33 n0) hZ (hw _ (List.mem_of_getElem? (i := 14) rfl)) (hw _ (List.mem_of_getElem? (i := 13) rfl)) (by decide) (by decide)) (g := (mkF m 107 #[.val (.int p0), .val (.int p1), .val (.int p2), .val (.ref b1), .val (.int z35), .unset, .unset] [(.int p0)])) rfl (by rw [hml]; rfl) (argsL := [(.int p0)]) (rest := []) (lenOf own_pd0 rfl) rfl (by show 2 * 0 + _ ≤ _; exact Nat.le_of_eq rfl) (hb hby at_107) (fun _ _ => ⟨rfl, e33, (by decide : 1 + 0 ≤ _), (by decide : 16 + 0 ≤ _)⟩)
  dsimp only [Pt.U, Pt.locs, Pt.cells, Pt.slots] at X36 lq36 yq36 zq36 st36 hQ36
  subst lq36 yq36 zq36
  obtain ⟨rfl, N36q, e36⟩ := hQ36
  have N36 := Fr.app N33 N36q
  refine own_by (V := T36.setTop (mkF m 110 #[.val (.int p0), .val (.int p1), .val (.int p2), .val (.ref b1), .val (.int z35), .unset, .unset] [(.int (own_isc p0))])) st36 ?_
  refine own_by (V := T36.setTop (mkF m 111 #[.val (.int p0), .val (.int p1), .val (.int p2), .val (.ref b1), .val (.int z35), .unset, .unset] [(.int p0), (.int (own_isc p0))])) (fun t k => XS.iloadN X36.here hx rfl (hb hby at_110) rfl  k) ?_
  obtain ⟨_, _, ⟨T37, Lq37, kq37, nq37⟩, -, X37, ⟨Lc37, hQ37, lq37, yq37, zq37⟩, st37⟩ := Jvm.LawKit.callS X36 hx (y := (⟨"com/example/canox/canox/xml/XmlCharsIsCharPinLaw", "inProduction2", "(I)Z"⟩ : MethodName)) hown (mvT hZ (hw _ (List.mem_of_getElem? (i := 15) rfl))) (mvT hZ (hw _ (List.mem_of_getElem? (i := 16) rfl))) (mvT hZ (hw _ (List.mem_of_getElem? (i := 17) rfl))) (mvT hZ (hw _ (List.mem_of_getElem? (i := 18) rfl))) (by decide) (backOf (W := 1) (own_rm2 l Z a0 hw [] p0 h33 n0) hZ (hw _ (List.mem_of_getElem? (i := 18) rfl)) (hw _ (List.mem_of_getElem? (i := 17) rfl)) (by decide) (by decide)) (g := (mkF m 111 #[.val (.int p0), .val (.int p1), .val (.int p2), .val (.ref b1), .val (.int z35), .unset, .unset] [(.int p0), (.int (own_isc p0))])) rfl (by rw [hml]; rfl) (argsL := [(.int p0)]) (rest := [(.int (own_isc p0))]) (lenOf own_pd0 rfl) rfl (by show 2 * 0 + _ ≤ _; exact Nat.le_of_eq rfl) (hb hby at_111) (fun _ _ => ⟨rfl, e36, (by decide : 1 + 0 ≤ _), (by decide : 16 + 0 ≤ _)⟩)
  dsimp only [Pt.U, Pt.locs, Pt.cells, Pt.slots] at X37 lq37 yq37 zq37 st37 hQ37
  subst lq37 yq37 zq37
  obtain ⟨rfl, N37q, e37⟩ := hQ37
  have N37 := Fr.app N36 N37q
  refine own_by (V := T37.setTop (mkF m 114 #[.val (.int p0), .val (.int p1), .val (.int p2), .val (.ref b1), .val (.int z35), .unset, .unset] [(.int (own_isc p0)), (.int (own_isc p0))])) st37 ?_
  have hb114_38 : ((own_isc p0) = (own_isc p0)) := rfl
  refine own_by (V := T37.setTop (mkF m 117 #[.val (.int p0), .val (.int p1), .val (.int p2), .val (.ref b1), .val (.int z35), .unset, .unset] [])) (fun t k => XS.icmpNo X37.here hx rfl (hb hby at_114) rfl (teq hb114_38).2 k) ?_
  refine own_by (V := T37.setTop (mkF m 118 #[.val (.int p0), .val (.int p1), .val (.int p2), .val (.ref b1), .val (.int z35), .unset, .unset] [(.int (1 : Int32))])) (fun t k => XS.iconst X37.here hx rfl (hb hby at_117) k) ?_
  refine own_by (V := T37.setTop (mkF m 122 #[.val (.int p0), .val (.int p1), .val (.int p2), .val (.ref b1), .val (.int z35), .unset, .unset] [(.int (1 : Int32))])) (fun t k => XS.goto X37.here hx rfl (pc0 := 118) (pc' := 122) rfl (hb hby at_118) (by decide) (by decide) k) ?_
  refine own_by (V := T37.setTop (mkF m 124 #[.val (.int p0), .val (.int p1), .val (.int p2), .val (.ref b1), .val (.int z35), .val (.int (1 : Int32)), .unset] [])) (fun t k => XS.istore X37.here hx rfl (hb hby at_122) rfl (l' := #[.val (.int p0), .val (.int p1), .val (.int p2), .val (.ref b1), .val (.int z35), .val (.int (1 : Int32)), .unset]) rfl k) ?_
  refine own_by (V := T37.setTop (mkF m 126 #[.val (.int p0), .val (.int p1), .val (.int p2), .val (.ref b1), .val (.int z35), .val (.int (1 : Int32)), .unset] [(.int z35)])) (fun t k => XS.iload X37.here hx rfl (hb hby at_124) rfl  k) ?_
  obtain ⟨_, _, ⟨T39, Lq39, kq39, nq39⟩, -, X39, ⟨Lc39, hQ39, lq39, yq39, zq39⟩, st39⟩ := Jvm.LawKit.callS X37 hx (y := (⟨"com/example/canox/canox/xml/XmlChars", "isChar", "(I)Z"⟩ : MethodName)) hown (mvT hZ (hw _ (List.mem_of_getElem? (i := 11) rfl))) (mvT hZ (hw _ (List.mem_of_getElem? (i := 12) rfl))) (mvT hZ (hw _ (List.mem_of_getElem? (i := 13) rfl))) (mvT hZ (hw _ (List.mem_of_getElem? (i := 14) rfl))) (by decide) (backOf (W := 0) (own_rm1 l Z a0 hw [] z35 h33 n0) hZ (hw _ (List.mem_of_getElem? (i := 14) rfl)) (hw _ (List.mem_of_getElem? (i := 13) rfl)) (by decide) (by decide)) (g := (mkF m 126 #[.val (.int p0), .val (.int p1), .val (.int p2), .val (.ref b1), .val (.int z35), .val (.int (1 : Int32)), .unset] [(.int z35)])) rfl (by rw [hml]; rfl) (argsL := [(.int z35)]) (rest := []) (lenOf own_pd0 rfl) rfl (by show 2 * 0 + _ ≤ _; exact Nat.le_of_eq rfl) (hb hby at_126) (fun _ _ => ⟨rfl, e37, (by decide : 1 + 0 ≤ _), (by decide : 16 + 0 ≤ _)⟩)
  dsimp only [Pt.U, Pt.locs, Pt.cells, Pt.slots] at X39 lq39 yq39 zq39 st39 hQ39
  subst lq39 yq39 zq39
  obtain ⟨rfl, N39q, e39⟩ := hQ39
  have N39 := Fr.app N37 N39q
  refine own_by (V := T39.setTop (mkF m 129 #[.val (.int p0), .val (.int p1), .val (.int p2), .val (.ref b1), .val (.int z35), .val (.int (1 : Int32)), .unset] [(.int (own_isc z35))])) st39 ?_
  refine own_by (V := T39.setTop (mkF m 131 #[.val (.int p0), .val (.int p1), .val (.int p2), .val (.ref b1), .val (.int z35), .val (.int (1 : Int32)), .unset] [(.int z35), (.int (own_isc z35))])) (fun t k => XS.iload X39.here hx rfl (hb hby at_129) rfl  k) ?_
  obtain ⟨_, _, ⟨T40, Lq40, kq40, nq40⟩, -, X40, ⟨Lc40, hQ40, lq40, yq40, zq40⟩, st40⟩ := Jvm.LawKit.callS X39 hx (y := (⟨"com/example/canox/canox/xml/XmlCharsIsCharPinLaw", "inProduction2", "(I)Z"⟩ : MethodName)) hown (mvT hZ (hw _ (List.mem_of_getElem? (i := 15) rfl))) (mvT hZ (hw _ (List.mem_of_getElem? (i := 16) rfl))) (mvT hZ (hw _ (List.mem_of_getElem? (i := 17) rfl))) (mvT hZ (hw _ (List.mem_of_getElem? (i := 18) rfl))) (by decide) (backOf (W := 1) (own_rm2 l Z a0 hw [] z35 h33 n0) hZ (hw _ (List.mem_of_getElem? (i := 18) rfl)) (hw _ (List.mem_of_getElem? (i := 17) rfl)) (by decide) (by decide)) (g := (mkF m 131 #[.val (.int p0), .val (.int p1), .val (.int p2), .val (.ref b1), .val (.int z35), .val (.int (1 : Int32)), .unset] [(.int z35), (.int (own_isc z35))])) rfl (by rw [hml]; rfl) (argsL := [(.int z35)]) (rest := [(.int (own_isc z35))]) (lenOf own_pd0 rfl) rfl (by show 2 * 0 + _ ≤ _; exact Nat.le_of_eq rfl) (hb hby at_131) (fun _ _ => ⟨rfl, e39, (by decide : 1 + 0 ≤ _), (by decide : 16 + 0 ≤ _)⟩)
  dsimp only [Pt.U, Pt.locs, Pt.cells, Pt.slots] at X40 lq40 yq40 zq40 st40 hQ40
  subst lq40 yq40 zq40
  obtain ⟨rfl, N40q, e40⟩ := hQ40
  have N40 := Fr.app N39 N40q
  refine own_by (V := T40.setTop (mkF m 134 #[.val (.int p0), .val (.int p1), .val (.int p2), .val (.ref b1), .val (.int z35), .val (.int (1 : Int32)), .unset] [(.int (own_isc z35)), (.int (own_isc z35))])) st40 ?_
  have hb134_41 : ((own_isc z35) = (own_isc z35)) := rfl
  refine own_by (V := T40.setTop (mkF m 137 #[.val (.int p0), .val (.int p1), .val (.int p2), .val (.ref b1), .val (.int z35), .val (.int (1 : Int32)), .unset] [])) (fun t k => XS.icmpNo X40.here hx rfl (hb hby at_134) rfl (teq hb134_41).2 k) ?_
  refine own_by (V := T40.setTop (mkF m 138 #[.val (.int p0), .val (.int p1), .val (.int p2), .val (.ref b1), .val (.int z35), .val (.int (1 : Int32)), .unset] [(.int (1 : Int32))])) (fun t k => XS.iconst X40.here hx rfl (hb hby at_137) k) ?_
  refine own_by (V := T40.setTop (mkF m 142 #[.val (.int p0), .val (.int p1), .val (.int p2), .val (.ref b1), .val (.int z35), .val (.int (1 : Int32)), .unset] [(.int (1 : Int32))])) (fun t k => XS.goto X40.here hx rfl (pc0 := 138) (pc' := 142) rfl (hb hby at_138) (by decide) (by decide) k) ?_
  refine own_by (V := T40.setTop (mkF m 144 #[.val (.int p0), .val (.int p1), .val (.int p2), .val (.ref b1), .val (.int z35), .val (.int (1 : Int32)), .val (.int (1 : Int32))] [])) (fun t k => XS.istore X40.here hx rfl (hb hby at_142) rfl (l' := #[.val (.int p0), .val (.int p1), .val (.int p2), .val (.ref b1), .val (.int z35), .val (.int (1 : Int32)), .val (.int (1 : Int32))]) rfl k) ?_
  refine own_by (V := T40.setTop (mkF m 146 #[.val (.int p0), .val (.int p1), .val (.int p2), .val (.ref b1), .val (.int z35), .val (.int (1 : Int32)), .val (.int (1 : Int32))] [(.int (1 : Int32))])) (fun t k => XS.iload X40.here hx rfl (hb hby at_144) rfl  k) ?_
  have hb146_42 : ¬ ((1 : Int32) = (0 : Int32)) := by decide
  refine own_by (V := T40.setTop (mkF m 149 #[.val (.int p0), .val (.int p1), .val (.int p2), .val (.ref b1), .val (.int z35), .val (.int (1 : Int32)), .val (.int (1 : Int32))] [])) (fun t k => XS.ifNo X40.here hx rfl (hb hby at_146) rfl ((if0 _ _).trans (feq hb146_42).1) k) ?_
  refine own_by (V := T40.setTop (mkF m 151 #[.val (.int p0), .val (.int p1), .val (.int p2), .val (.ref b1), .val (.int z35), .val (.int (1 : Int32)), .val (.int (1 : Int32))] [(.int (1 : Int32))])) (fun t k => XS.iload X40.here hx rfl (hb hby at_149) rfl  k) ?_
  have hb151_43 : ¬ ((1 : Int32) = (0 : Int32)) := by decide
  refine own_by (V := T40.setTop (mkF m 154 #[.val (.int p0), .val (.int p1), .val (.int p2), .val (.ref b1), .val (.int z35), .val (.int (1 : Int32)), .val (.int (1 : Int32))] [])) (fun t k => XS.ifNo X40.here hx rfl (hb hby at_151) rfl ((if0 _ _).trans (feq hb151_43).1) k) ?_
  refine own_by (V := T40.setTop (mkF m 155 #[.val (.int p0), .val (.int p1), .val (.int p2), .val (.ref b1), .val (.int z35), .val (.int (1 : Int32)), .val (.int (1 : Int32))] [(.int (1 : Int32))])) (fun t k => XS.iconst X40.here hx rfl (hb hby at_154) k) ?_
  refine own_by (V := T40.setTop (mkF m 159 #[.val (.int p0), .val (.int p1), .val (.int p2), .val (.ref b1), .val (.int z35), .val (.int (1 : Int32)), .val (.int (1 : Int32))] [(.int (1 : Int32))])) (fun t k => XS.goto X40.here hx rfl (pc0 := 155) (pc' := 159) rfl (hb hby at_155) (by decide) (by decide) k) ?_
  refine own_retN X40 hx hlk e40 Bd.returns (t := .boolean) (by simp) rfl (hb hby at_159) ?_ (by decide) (by decide)
  exact ⟨rfl, N40⟩
set_option maxRecDepth 65536 in
set_option maxHeartbeats 40000000 in
theorem own_comes {Post : Tables → Env → Array Value → State → Outcome → State → Prop} (hpost : ∀ tb e args s v u, (limb_1_1.after args s (.returned v) u = true ∧ limb_1_2.after args s (.returned v) u = true ∧ True) → FrameEnd s (.returned v) u (Jvm.fieldLocs frame_1_writes args s ++ Jvm.arrayLocs frame_1_arrays args s ++ Jvm.staticLocs frame_1_statics s) 16 128 → Post tb e args s (.returned v) u) :
    ArmFor flags0 classFile x code maxLocals ret World_1 tables_1 room_1 Calls_1 rest_1 Pre_1 Post := by
  intro l hfl _ _ p e ha hc hk s m args below hf hA hF happ hP
  obtain ⟨hcalls, hrest, hpre⟩ := hP
  obtain ⟨-, -, -, hnamed, -, -, -, hat⟩ := (Spec.applies_iff hf).mp happ
  obtain ⟨hg, hn⟩ := and_e (Cond.before_iff.mp (show (Jvm.Cond.and given_1 narrow_1).before args s = true from hpre))
  obtain ⟨hc0, hr0⟩ := and_e hg
  obtain ⟨hv0, hr1⟩ := and_e hr0
  obtain ⟨hv1, hr2⟩ := and_e hr1
  have hv2 := hr2
  obtain ⟨w0, w1, w2, rfl⟩ : ∃ w0 w1 w2 : Value, args = #[w0, w1, w2] := by
    have hs : args.size = 3 := by simpa [Cond.value, given_1] using hc0
    obtain ⟨L⟩ := args
    match L, hs with
    | [w0, w1, w2], _ => exact ⟨w0, w1, w2, rfl⟩
  have hw := fun d (hd : d ∈ tables_1) => atoms_spec (ws := Jvm.Cond.code x code maxLocals ret :: tables_1) hat d (List.mem_cons_of_mem _ hd)
  have hfit : Fit s := fun {y c} hc i hi => by
    obtain ⟨ha, rfl⟩ := Array.getElem?_eq_some_iff.mp hc
    have q := List.all_eq_true.mp ((Array.all_eq_true_iff_forall_mem.mp hF) _ (Array.getElem_mem ha)) i (List.mem_range.mpr hi)
    simpa [Array.getElem?_eq_getElem hi] using q
  obtain ⟨i0, ei0⟩ := is_v hv0
  obtain rfl : w0 = (.int i0) := Option.some.inj ei0
  obtain ⟨i1, ei1⟩ := is_v hv1
  obtain rfl : w1 = (.int i1) := Option.some.inj ei1
  obtain ⟨i2, ei2⟩ := is_v hv2
  obtain rfl : w2 = (.int i2) := Option.some.inj ei2
  obtain ⟨n, o, h1, h2, h3, _, L, rfl, ⟨rfl, N⟩, hq⟩ := own_rm0 l s _ hw tables_1 i0 i1 i2  s.heap s.heap.size (Nat.le_refl _) p e ha hc hk s m _ below hf ((Spec.applies_iff_loose hf).mp happ).1 ⟨rfl, State.Warmed39.refl s, rfl⟩ trivial
  refine ⟨n, _, h1, h2, h3, hpost _ _ _ _ _ _ ⟨Cond.after_iff.mpr rfl, Cond.after_iff.mpr (eq_i res_at (Term.int_eval (1)) rfl), trivial⟩ ⟨hq.1, hq.2.1, (hq.2.2.sift fun y hy => Or.inr (N y hy)).mono (by decide) (by decide)⟩⟩
theorem main_1_1 : Claimed_1_1 := own_comes fun _ _ _ _ _ _ h hF => ⟨h.1, hF⟩
theorem main_1_2 : Claimed_1_2 := own_comes fun _ _ _ _ _ _ h hF => ⟨h.2.1, hF⟩

end Jvm.Pilot.@@N@@
namespace Jvm.Pilot.@@N@@
open Jvm Jvm.ClassFile Sem Op Lib Jvm.Free Jvm.Stand Jvm.Pilot.@@N@@.Jvm.D
/-! MADE BY PROGRAM (witnessworld.py) out of the Statement's table words and the real class files: 9 classes; the members and pool entries that the words name. The judged class is class 1, her method 2. -/
namespace start1
open Jvm.ClassFile
def u (s : String) : CpInfo := .utf8 (stringToUtf16 s)
/-- a pool by its gaps: so many unusable entries, then the entry; so many at the end -/
def gap : Nat → List CpInfo → List CpInfo
  | 0, r => r
  | n + 1, r => .unusable :: gap n r
def poolList (es : List (Nat × CpInfo)) (last : Nat) : List CpInfo := es.foldr (fun e r => gap e.1 (e.2 :: r)) (gap last [])
def pool (es : List (Nat × CpInfo)) (last : Nat) : Array CpInfo := ⟨poolList es last⟩
def fileOf (pool : Array CpInfo) (this : Nat) (attrs : Array Attribute := #[]) (ms : Array MethodInfo := #[]) (fl : Nat := 33) (sup : Nat := 0) (ifs : Array Nat := #[]) (fds : Array FieldInfo := #[]) : ClassFile where
  minorVersion := 0
  majorVersion := 65
  constantPool := pool
  accessFlags := fl
  thisClass := this
  superClass := sup
  interfaces := ifs
  fields := fds
  methods := ms
  attributes := attrs
def plain (name : String) (sup : Option ClassId) : Class where
  name := name
  kind := .ordinary
  loader := none
  accessFlags := 33
  super := sup
  interfaces := #[]
  cf := none
  fields := #[]
  methods := #[]
  instanceTypes := #[]
  staticTypes := #[]
  resolved := #[]
  callSites := []
  init := .initialized
  statics := none
  mirror := none

def pool0 : Array CpInfo := pool [(5, u "<init>"), (0, u "()V"), (1, .class_ 10), (1, u "java/lang/Object")] 113

def k0m0 : Method := { name := "<init>", desc := "()V", sig := { parameters := [], returnType := none }, accessFlags := 1, code := none }
/-- java/lang/Object -/
def k0 : Class := { plain "java/lang/Object" none with
  accessFlags := 33
  interfaces := #[]
  cf := some (fileOf pool0 8 #[] #[{ accessFlags := 1, nameIndex := 5, descriptorIndex := 6, attributes := #[] }] 33 0 #[] #[])
  fields := #[]
  methods := #[k0m0]
  instanceTypes := #[]
  staticTypes := #[]
  resolved := Array.replicate 124 none
  statics := none }

def pool1 : Array CpInfo := pool [(2, .class_ 4), (1, u "java/lang/Object"), (0, u "<init>"), (0, u "()V"), (0, .integer 55295), (0, .integer 57344), (0, .integer 65533), (0, .integer 65536), (0, .integer 1114111), (0, .integer 55296), (0, .integer 57343), (0, .integer 65534), (2, .integer 2147483648), (0, .integer 2147483647), (0, .methodref 20 21), (0, .class_ 22), (0, .nameAndType 23 24), (0, u "com/example/canox/canox/xml/XmlChars"), (0, u "isChar"), (0, u "(I)Z"), (0, .methodref 26 27), (0, .class_ 28), (0, .nameAndType 29 24), (0, u "com/example/canox/canox/xml/XmlCharsIsCharPinLaw"), (0, u "inProduction2"), (3, u "law"), (0, u "(III)Z")] 4

def k1m0 : Method := { name := "<init>", desc := "()V", sig := { parameters := [], returnType := none }, accessFlags := 2, code := none }
def k1c1 : Code := { maxStack := 2, maxLocals := 1, code := method_2_code, exceptionTable := #[], attributes := #[] }
def k1m1 : Method := { name := "inProduction2", desc := "(I)Z", sig := { parameters := [.int], returnType := some .boolean }, accessFlags := 10, code := some k1c1 }
def k1c2 : Code := { maxStack := 4, maxLocals := 7, code := code, exceptionTable := #[], attributes := #[] }
def k1m2 : Method := { name := "law", desc := "(III)Z", sig := { parameters := [.int, .int, .int], returnType := some .boolean }, accessFlags := 9, code := some k1c2 }
/-- com/example/canox/canox/xml/XmlCharsIsCharPinLaw -/
def k1 : Class := { plain "com/example/canox/canox/xml/XmlCharsIsCharPinLaw" (some 0) with
  accessFlags := 49
  interfaces := #[]
  cf := some (fileOf pool1 26 #[] #[{ accessFlags := 2, nameIndex := 5, descriptorIndex := 6, attributes := #[] }, { accessFlags := 10, nameIndex := 29, descriptorIndex := 24, attributes := #[] }, { accessFlags := 9, nameIndex := 33, descriptorIndex := 34, attributes := #[] }] 49 2 #[] #[])
  fields := #[]
  methods := #[k1m0, k1m1, k1m2]
  instanceTypes := #[]
  staticTypes := #[]
  resolved := Array.replicate 39 none
  statics := none }

def pool2 : Array CpInfo := pool [(2, .class_ 4), (1, u "java/lang/Object"), (0, u "<init>"), (0, u "()V"), (16, .class_ 25), (1, u "com/example/canox/canox/xml/XmlChars"), (1, u "(I)Z"), (9, .integer 55296), (0, .integer 57343), (0, .integer 65533), (0, .integer 65536), (0, .integer 1114111), (2, u "ASCII"), (0, u "[B"), (49, u "NAME_START"), (0, u "B"), (2, u "NAME"), (1, u "PUBLIC_ID"), (8, u "isChar")] 8

def k2m0 : Method := { name := "<init>", desc := "()V", sig := { parameters := [], returnType := none }, accessFlags := 2, code := none }
def k2c1 : Code := { maxStack := 2, maxLocals := 2, code := prog_199_method_6_code, exceptionTable := #[], attributes := #[] }
def k2m1 : Method := { name := "isChar", desc := "(I)Z", sig := { parameters := [.int], returnType := some .boolean }, accessFlags := 9, code := some k2c1 }
/-- com/example/canox/canox/xml/XmlChars -/
def k2 : Class := { plain "com/example/canox/canox/xml/XmlChars" (some 0) with
  accessFlags := 49
  interfaces := #[]
  cf := some (fileOf pool2 23 #[] #[{ accessFlags := 2, nameIndex := 5, descriptorIndex := 6, attributes := #[] }, { accessFlags := 9, nameIndex := 110, descriptorIndex := 27, attributes := #[] }] 49 2 #[] #[{ accessFlags := 26, nameIndex := 95, descriptorIndex := 96, attributes := #[] }, { accessFlags := 26, nameIndex := 99, descriptorIndex := 96, attributes := #[] }, { accessFlags := 26, nameIndex := 101, descriptorIndex := 96, attributes := #[] }, { accessFlags := 26, nameIndex := 44, descriptorIndex := 45, attributes := #[] }])
  fields := #[{ name := "NAME_START", type := .byte, accessFlags := 26, slot := 0, constantValue := 0 }, { name := "NAME", type := .byte, accessFlags := 26, slot := 1, constantValue := 0 }, { name := "PUBLIC_ID", type := .byte, accessFlags := 26, slot := 2, constantValue := 0 }, { name := "ASCII", type := (.array .byte), accessFlags := 26, slot := 3, constantValue := 0 }]
  methods := #[k2m0, k2m1]
  instanceTypes := #[]
  staticTypes := #[.byte, .byte, .byte, (.array .byte)]
  resolved := Array.replicate 119 none
  statics := none }

def pool3 : Array CpInfo := pool [(1, u "java/lang/Cloneable"), (0, .class_ 1), (0, u "java/lang/Object"), (0, .class_ 3)] 3

/-- java/lang/Cloneable -/
def k3 : Class := { plain "java/lang/Cloneable" (some 0) with
  accessFlags := 1537
  interfaces := #[]
  cf := some (fileOf pool3 2 #[] #[] 1537 4 #[] #[])
  fields := #[]
  methods := #[]
  instanceTypes := #[]
  staticTypes := #[]
  resolved := Array.replicate 8 none
  statics := none }

def pool4 : Array CpInfo := pool [(1, u "java/io/Serializable"), (0, .class_ 1), (0, u "java/lang/Object"), (0, .class_ 3)] 3

/-- java/io/Serializable -/
def k4 : Class := { plain "java/io/Serializable" (some 0) with
  accessFlags := 1537
  interfaces := #[]
  cf := some (fileOf pool4 2 #[] #[] 1537 4 #[] #[])
  fields := #[]
  methods := #[]
  instanceTypes := #[]
  staticTypes := #[]
  resolved := Array.replicate 8 none
  statics := none }

/-- the primitive byte -/
def k5 : Class := { plain "byte" none with kind := .primitive 'B', accessFlags := 0x411 }
/-- [B -/
def k6 : Class := { plain "[B" (some 0) with kind := .array 5 .byte, interfaces := #[3, 4], accessFlags := 1041 }

/-- the primitive int -/
def k7 : Class := { plain "int" none with kind := .primitive 'I', accessFlags := 0x411 }
/-- [I -/
def k8 : Class := { plain "[I" (some 0) with kind := .array 7 .int, interfaces := #[3, 4], accessFlags := 1041 }

def heap : Heap := #[]
def classes : Array Class := #[k0, k1, k2, k3, k4, k5, k6, k7, k8]
def interned : List (Array UInt16 × Addr) := []
def slotsUsed : Nat := 0
def theMethod : MethodId := ⟨1, 2⟩
def args0 : Array Value := #[.int 5, .int 7, .int 3]
def aboutOver (below : List Frame) : State where
  vm := { classes := classes, interned := interned.toArray }
  heap := heap
  slotsUsed := slotsUsed
  threads := #[{ frames := .invoking theMethod args0 :: below }]
def below0 : List Frame := [.native { method := ⟨0, 0⟩, args := #[] }]
def about1 : State := aboutOver below0
def p0 : Program := .bare "" "" ""
def e0 : Env := launch0.env 0 0 0
theorem w_frames : about1.frames = Frame.invoking theMethod args0 :: below0 := rfl
set_option maxRecDepth 65536 in
theorem w_args : argsFit about1.vm theMethod args0 = true := by decide +kernel
set_option maxRecDepth 65536 in
theorem w_heap : heapFits about1 = true := by decide +kernel
set_option maxRecDepth 65536 in
theorem w_runnable : about1.curStatus? = some .runnable := by decide +kernel
set_option maxRecDepth 65536 in
theorem w_alone : about1.alone = true := by decide +kernel
set_option maxRecDepth 65536 in
theorem w_named : about1.methodNamed? x = some theMethod := by decide +kernel
set_option maxRecDepth 65536 in
theorem w_hears : about1.hears theMethod below0 = true := by decide +kernel
set_option maxRecDepth 65536 in
theorem w_ripe : about1.ripe theMethod args0 below0 = true := by decide +kernel
theorem w_running : about1.status = .running := rfl
set_option maxRecDepth 65536 in
theorem w_room : about1.hasRoom e0.platform room_1 = true :=
  launch0.hasRoom_least _ room_1 (by decide +kernel) (by decide +kernel) (by decide +kernel) (by decide +kernel) (by decide +kernel) (by decide +kernel)
theorem allAtoms_all (ts : List Jvm.Cond) (a : Array Jvm.Value) (st : Jvm.State) : (allAtoms ts).before a st = ts.all (fun c => c.before a st) := by
  induction ts with
  | nil => rfl
  | cons c t ih =>
    show (Jvm.Cond.and c (allAtoms t)).before a st = _
    rw [Jvm.Cond.before_and, ih, List.all_cons]
def words1 : List Jvm.Cond := Jvm.Cond.code x code maxLocals ret :: tables_1
/-- a 'code' word, met by the world's own term for the bytes: nothing is compared byte by byte -/
theorem code_word {y : MethodName} {bytes : ByteArray} {mx : Nat} {rt : Option FieldType} {a : Array Value} {s : State} {m : MethodId} {meth : Method} {c : Code} (h1 : s.methodNamed? y = some m) (h2 : s.vm.method? m = some meth) (h3 : meth.code = some c) (h4 : c.code = bytes)
    (h5 : (c.maxLocals == mx && c.exceptionTable.isEmpty && decide (c.maxStack ≤ mostOperands) && decide (meth.sig.returnType = rt) && !meth.locks && decide (parseMethodDescriptor y.desc = some meth.sig)) = true) : (Jvm.Cond.code y bytes mx rt).before a s = true := by
  simp only [Bool.and_eq_true, beq_iff_eq, Bool.not_eq_true', decide_eq_true_eq] at h5
  obtain ⟨⟨⟨⟨⟨g1, g2⟩, g3⟩, g4⟩, g5⟩, g6⟩ := h5
  simp [Cond.before, Cond.holds, Cond.value, h1, h2, h3, h4, g1, g2, g3, g4, g5, g6]
def isCode : Jvm.Cond → Bool
  | .code _ _ _ _ => true
  | _ => false
theorem all_split {L : List Jvm.Cond} {P : Jvm.Cond → Bool} (h1 : L.all (fun c => isCode c || P c) = true) (h2 : ∀ c ∈ L.filter isCode, P c = true) : L.all P = true := by
  refine List.all_eq_true.mpr fun c hc => ?_
  have h := List.all_eq_true.mp h1 c hc
  rcases Bool.eq_false_or_eq_true (isCode c) with hi | hi
  · exact h2 c (List.mem_filter.mpr ⟨hc, hi⟩)
  · simpa [hi] using h
set_option maxRecDepth 65536 in
theorem w_c0 : (Jvm.Cond.code x code maxLocals ret).before args0 about1 = true := code_word (m := ⟨1, 2⟩) (meth := k1m2) (c := k1c2) (by decide +kernel) rfl rfl rfl (by decide +kernel)
set_option maxRecDepth 65536 in
theorem w_c1 : (Jvm.Cond.code ({ cls := "com/example/canox/canox/xml/XmlChars", name := "isChar", desc := "(I)Z" } : Jvm.MethodName) prog_199_method_6_code (2 : Nat) (Option.some Jvm.ClassFile.FieldType.boolean)).before args0 about1 = true := code_word (m := ⟨2, 1⟩) (meth := k2m1) (c := k2c1) (by decide +kernel) rfl rfl rfl (by decide +kernel)
set_option maxRecDepth 65536 in
theorem w_c2 : (Jvm.Cond.code ({ cls := "com/example/canox/canox/xml/XmlCharsIsCharPinLaw", name := "inProduction2", desc := "(I)Z" } : Jvm.MethodName) method_2_code (1 : Nat) (Option.some Jvm.ClassFile.FieldType.boolean)).before args0 about1 = true := code_word (m := ⟨1, 1⟩) (meth := k1m1) (c := k1c1) (by decide +kernel) rfl rfl rfl (by decide +kernel)
def codes1 : List Jvm.Cond := [Jvm.Cond.code x code maxLocals ret, Jvm.Cond.code ({ cls := "com/example/canox/canox/xml/XmlChars", name := "isChar", desc := "(I)Z" } : Jvm.MethodName) prog_199_method_6_code (2 : Nat) (Option.some Jvm.ClassFile.FieldType.boolean), Jvm.Cond.code ({ cls := "com/example/canox/canox/xml/XmlCharsIsCharPinLaw", name := "inProduction2", desc := "(I)Z" } : Jvm.MethodName) method_2_code (1 : Nat) (Option.some Jvm.ClassFile.FieldType.boolean)]
set_option maxRecDepth 65536 in
theorem codes_eq : words1.filter isCode = codes1 := rfl
theorem w_codes : ∀ c ∈ words1.filter isCode, c.before args0 about1 = true := by
  rw [codes_eq]
  intro c hc
  simp only [codes1, List.mem_cons, List.not_mem_nil, or_false] at hc
  rcases hc with rfl | rfl | rfl
  · exact w_c0
  · exact w_c1
  · exact w_c2
set_option maxRecDepth 65536 in
theorem w_t1 : (words1.take 24).all (fun c => isCode c || c.before args0 about1) = true := by decide +kernel
set_option maxRecDepth 65536 in
theorem w_t2 : (words1.drop 24).all (fun c => isCode c || c.before args0 about1) = true := by decide +kernel
theorem w_tables : (allAtoms (Jvm.Cond.code x code maxLocals ret :: tables_1)).before args0 about1 = true := by
  rw [allAtoms_all]
  show words1.all (fun c => c.before args0 about1) = true
  refine all_split ?_ w_codes
  rw [← List.take_append_drop 24 words1, List.all_append, w_t1, w_t2]
  rfl
set_option maxRecDepth 65536 in
theorem w_case : (Jvm.Cond.and given_1 narrow_1).before args0 about1 = true := by decide +kernel
theorem w_applies : (headSpec (Jvm.Cond.code x code maxLocals ret :: tables_1) room_1).applies x e0.platform about1 = true :=
  (Spec.applies_iff w_frames).mpr ⟨w_running, w_runnable, w_alone, w_named, w_hears, w_ripe, w_room, w_tables⟩
theorem atStart : AtStart classFile x code maxLocals ret World_1 tables_1 room_1 Calls_1 rest_1 Pre_1 launch0 p0 e0 about1 theMethod args0 below0 :=
  ⟨lists_1, trivial, launch0.admits_env _ _ _, launch0.least_env, fairChoices_fair.cas, fairChoices_fair.clock, w_frames, w_args, w_heap, w_applies, trivial, trivial, w_case⟩
end start1
theorem witness_1 : WitnessClaimed_1 := ⟨start1.p0, start1.e0, start1.about1, start1.theMethod, start1.args0, start1.below0, start1.atStart⟩
end Jvm.Pilot.@@N@@
